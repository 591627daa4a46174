import PyProof.Rows.All
import Wide.All
import OpenK.AllK
import Wide.FinOn
import PySem.Challenge.RW_dm0100_03
open PySem PySem.W PyProof.Rows
set_option Elab.async false
namespace Mine
def nstep (st : List Str × Bool) (n : Int) : List Str × Bool :=
  if Txt.isalnum ⟨#[n.toNat]⟩ || (⟨#[n.toNat]⟩ : Str) == Str.ofString "." then
    ((st.1 ++ (if st.2 && !st.1.isEmpty then [Str.ofString "_"] else [])) ++ (if Txt.isascii ⟨#[n.toNat]⟩ then [⟨#[n.toNat]⟩] else []), false)
  else (st.1, true)
def nrun (l : List Int) : List Str × Bool := l.foldl nstep ([], false)
def norm (x : Str) : Str := Txt.join (Str.ofString "") (nrun (KStt.codes x)).1
def NInv (pre : List Int) (chars : List Str) (p : Bool) : Prop := (chars, p) = nrun pre ∧ chars.length ≤ 2 * pre.length ∧ ∀ s ∈ chars, s.length = 1
theorem ninv_start : NInv [] [] false ∧ ([] : List Str).length ≤ 2 * ([] : List Int).length := ⟨⟨rfl, Nat.le_refl _, fun _ h => nomatch h⟩, Nat.le_refl _⟩
theorem nrun_snoc {pre : List Int} {chars : List Str} {p : Bool} (h : (chars, p) = nrun pre) (n : Int) : nrun (pre ++ [n]) = nstep (chars, p) n := by
  unfold nrun at h ⊢
  rw [List.foldl_append, ← h]
  rfl
theorem strs_empty {vs : List Value} {xs : List Str} (h : StrsAre vs xs) : vs.isEmpty = xs.isEmpty := by cases h <;> rfl
theorem ninv_end {pre : List Int} {chars chars' : List Str} {p p' : Bool} {n : Nat} (h : NInv pre chars p) (e : nstep (chars, p) (n : Int) = (chars', p'))
    (h2 : chars' = chars ∨ chars' = chars ++ [⟨#[n]⟩] ∨ chars' = chars ++ [Str.ofString "_"] ∨ chars' = chars ++ [Str.ofString "_"] ++ [⟨#[n]⟩]) : NInv (pre ++ [(n : Int)]) chars' p' ∧ chars'.length ≤ 2 * (pre ++ [(n : Int)]).length := by
  suffices q : NInv (pre ++ [(n : Int)]) chars' p' from ⟨q, q.2.1⟩
  obtain ⟨h1, hl, ha⟩ := h
  refine ⟨by rw [nrun_snoc h1, e], ?_, ?_⟩
  · rcases h2 with rfl | rfl | rfl | rfl <;> simp <;> omega
  · have q : (Str.ofString "_").length = 1 := by decide
    have q2 : (⟨#[n]⟩ : Str).length = 1 := rfl
    intro s hs
    rcases h2 with rfl | rfl | rfl | rfl
    · exact ha s hs
    · rcases List.mem_append.mp hs with hs | hs
      · exact ha s hs
      · rw [List.mem_singleton.mp hs]; exact q2
    · rcases List.mem_append.mp hs with hs | hs
      · exact ha s hs
      · rw [List.mem_singleton.mp hs]; exact q
    · rcases List.mem_append.mp hs with hs | hs
      · rcases List.mem_append.mp hs with hs | hs
        · exact ha s hs
        · rw [List.mem_singleton.mp hs]; exact q
      · rw [List.mem_singleton.mp hs]; exact q2
end Mine
namespace Mine
section
variable {pre : List Int} {chars : List Str} {p : Bool} {n : Nat} {vs : List Value}
theorem kept_of1 (h : Txt.isalnum ⟨#[n]⟩ = true) : (Txt.isalnum ⟨#[n]⟩ || (⟨#[n]⟩ : Str) == Str.ofString ".") = true := by rw [h]; rfl
theorem kept_of2 (h : ((⟨#[n]⟩ : Str) == Str.ofString ".") = true) : (Txt.isalnum ⟨#[n]⟩ || (⟨#[n]⟩ : Str) == Str.ofString ".") = true := by rw [h]; exact Bool.or_true _
theorem off_of1 (h : p = false) : (p && !chars.isEmpty) = false := by rw [h]; rfl
theorem off_of2 (S : StrsAre vs chars) (h : vs.isEmpty = true) : (p && !chars.isEmpty) = false := by rw [← strs_empty S, h]; exact Bool.and_false _
theorem on_of (S : StrsAre vs chars) (h1 : p = true) (h : vs.isEmpty = false) : (p && !chars.isEmpty) = true := by rw [← strs_empty S, h, h1]; rfl
theorem way_ua (h : NInv pre chars p) (hk : (Txt.isalnum ⟨#[n]⟩ || (⟨#[n]⟩ : Str) == Str.ofString ".") = true) (hu : (p && !chars.isEmpty) = true) (ha : Txt.isascii ⟨#[n]⟩ = true) :
    NInv (pre ++ [(n : Int)]) (chars ++ [Str.ofString "_"] ++ [⟨#[n]⟩]) false ∧ (chars ++ [Str.ofString "_"] ++ [(⟨#[n]⟩ : Str)]).length ≤ 2 * (pre ++ [(n : Int)]).length :=
  ninv_end (chars' := chars ++ [Str.ofString "_"] ++ [⟨#[n]⟩]) (p' := false) h (by unfold nstep; rw [Int.toNat_natCast, if_pos hk]; dsimp only; rw [if_pos hu, if_pos ha]) (by simp)
theorem way_u (h : NInv pre chars p) (hk : (Txt.isalnum ⟨#[n]⟩ || (⟨#[n]⟩ : Str) == Str.ofString ".") = true) (hu : (p && !chars.isEmpty) = true) (ha : Txt.isascii ⟨#[n]⟩ = false) :
    NInv (pre ++ [(n : Int)]) (chars ++ [Str.ofString "_"]) false ∧ (chars ++ [Str.ofString "_"]).length ≤ 2 * (pre ++ [(n : Int)]).length :=
  ninv_end (chars' := chars ++ [Str.ofString "_"]) (p' := false) h (by unfold nstep; rw [Int.toNat_natCast, if_pos hk]; dsimp only; rw [if_pos hu, ha]; simp) (by simp)
theorem way_a (h : NInv pre chars p) (hk : (Txt.isalnum ⟨#[n]⟩ || (⟨#[n]⟩ : Str) == Str.ofString ".") = true) (hu : (p && !chars.isEmpty) = false) (ha : Txt.isascii ⟨#[n]⟩ = true) :
    NInv (pre ++ [(n : Int)]) (chars ++ [⟨#[n]⟩]) false ∧ (chars ++ [(⟨#[n]⟩ : Str)]).length ≤ 2 * (pre ++ [(n : Int)]).length :=
  ninv_end (chars' := chars ++ [⟨#[n]⟩]) (p' := false) h (by unfold nstep; rw [Int.toNat_natCast, if_pos hk]; dsimp only; rw [hu, if_pos ha]; simp) (by simp)
theorem way_0 (h : NInv pre chars p) (hk : (Txt.isalnum ⟨#[n]⟩ || (⟨#[n]⟩ : Str) == Str.ofString ".") = true) (hu : (p && !chars.isEmpty) = false) (ha : Txt.isascii ⟨#[n]⟩ = false) :
    NInv (pre ++ [(n : Int)]) chars false ∧ chars.length ≤ 2 * (pre ++ [(n : Int)]).length :=
  ninv_end (chars' := chars) (p' := false) h (by unfold nstep; rw [Int.toNat_natCast, if_pos hk]; dsimp only; rw [hu, ha]; simp) (by simp)
theorem way_p (h : NInv pre chars p) (h1 : Txt.isalnum ⟨#[n]⟩ = false) (h2 : ((⟨#[n]⟩ : Str) == Str.ofString ".") = false) :
    NInv (pre ++ [(n : Int)]) chars true ∧ chars.length ≤ 2 * (pre ++ [(n : Int)]).length :=
  ninv_end (chars' := chars) (p' := true) h (by unfold nstep; rw [Int.toNat_natCast, h1, h2]; simp) (by simp)
end
end Mine
namespace Mine
theorem sum_ones : ∀ (l : List Str), (∀ a ∈ l, a.length = 1) → (l.map (·.length)).sum = l.length
  | [], _ => rfl
  | a :: r, h => by
    rw [List.map_cons, List.sum_cons, sum_ones r fun b hb => h b (.tail _ hb), h a (.head _), List.length_cons]
    omega
theorem norm_join {prog : Program} {w : World} {A : Around} {E : Value → Shared → Prop} {s : Shared} {t : Tok} {Q : Value → Shared → Prop} {D : Addr} {vs : List Value} {ys : List Str} {xt : Str} {p : Bool}
    (hl : s.heap.IsList D vs.toArray) (hi : StrsAre vs ys) (hN : NInv (KStt.codes xt) ys p) (hb : xt.length ≤ 1000000)
    (h : ∀ t' k, Q (.str (norm xt) t') { s with toks := k }) : wpAny (model prog w) A (call (.builtin "str.join") [.str (Str.ofString "") t, .ref D]) Q E s := by
  obtain ⟨h1, h2, h3⟩ := hN
  have e : norm xt = Txt.join (Str.ofString "") ys := by unfold norm; rw [← h1]
  have z : (Str.ofString "").length = 0 := by decide
  rw [KStt.codes_length] at h2
  refine join_list hl (by simpa using hi) ?_ fun t' k => ?_
  · rw [sum_ones ys h3, z]; omega
  · rw [← e]; exact h t' k
end Mine
namespace Mine
theorem oth_len3 {xt c : Str} {a b d e : Option Int} (h : xt.length ≤ 24) (hc : c.length = 1) : (Txt.slice xt a b ++ c ++ Txt.slice xt d e).length ≤ 100 := by
  have h1 := Txt.slice_le xt a b
  have h2 := Txt.slice_le xt d e
  rw [Str.length_append, Str.length_append]
  omega
theorem oth_len2 {xt : Str} {a b d e : Option Int} (h : xt.length ≤ 24) : (Txt.slice xt a b ++ Txt.slice xt d e).length ≤ 100 := by
  have h1 := Txt.slice_le xt a b
  have h2 := Txt.slice_le xt d e
  rw [Str.length_append]
  omega
end Mine
namespace Mine
def KA (c : Nat) : Bool := Txt.isalnum ⟨#[c]⟩ || (⟨#[c]⟩ : Str) == Str.ofString "."
def AS (c : Nat) : Bool := Txt.isascii ⟨#[c]⟩
def nf (p s : Bool) : List Nat → List Nat
  | [] => []
  | c :: r => if KA c then (if p && s then [95] else []) ++ (if AS c then [c] else []) ++ nf false (s || AS c) r else nf true s r
def cat (l : List Str) : List Nat := l.flatMap (·.cps.toList)
theorem join_nil_sep : ∀ l : List Str, (Str.join (Str.ofString "") l).cps.toList = cat l
  | [] => rfl
  | [x] => by simp [cat, Str.join]
  | x :: y :: r => by
    have ih := join_nil_sep (y :: r)
    show (x ++ Str.ofString "" ++ Str.join (Str.ofString "") (y :: r)).cps.toList = _
    rw [Str.cps_append, Str.cps_append, Array.toList_append, Array.toList_append, ih]
    have z : (Str.ofString "").cps.toList = [] := by decide
    rw [z]
    simp [cat]
theorem txt_join_nil (l : List Str) : Txt.join (Str.ofString "") l = ⟨(cat l).toArray⟩ := by
  have e : Txt.join (Str.ofString "") l = Str.join (Str.ofString "") l := StrLaws.glued_eq_join _ _
  rw [e, ← join_nil_sep]
theorem nstep_cat (cs : List Str) (p : Bool) (c : Nat) : nstep (cs, p) (c : Int) =
    if KA c then ((cs ++ (if p && !cs.isEmpty then [Str.ofString "_"] else [])) ++ (if AS c then [⟨#[c]⟩] else []), false) else (cs, true) := by
  unfold nstep KA AS
  rw [Int.toNat_natCast]
theorem run_nf : ∀ (l : List Nat) (cs : List Str) (p : Bool), cat ((l.map fun (c : Nat) => (c : Int)).foldl nstep (cs, p)).1 = cat cs ++ nf p (!cs.isEmpty) l
  | [], cs, p => by simp [nf]
  | c :: r, cs, p => by
    rw [List.map_cons, List.foldl_cons, nstep_cat]
    unfold nf
    cases hk : KA c with
    | false => simp only [Bool.false_eq_true, if_false]; exact run_nf r cs true
    | true =>
      simp only [if_true]
      rw [run_nf r]
      have u : (Str.ofString "_").cps.toList = [95] := by decide
      cases cs <;> cases p <;> cases ha : AS c <;> simp [cat, u]
theorem norm_nf (x : Str) : norm x = ⟨(nf false false x.cps.toList).toArray⟩ := by
  unfold norm nrun KStt.codes
  rw [txt_join_nil, run_nf]
  rfl
theorem norm_eq_iff (x y : Str) : (norm x == norm y) = decide (nf false false x.cps.toList = nf false false y.cps.toList) := by
  rw [norm_nf, norm_nf]
  have e : ∀ a b : List Nat, ((⟨a.toArray⟩ : Str) == ⟨b.toArray⟩) = decide (a = b) := by
    intro a b
    by_cases h : a = b
    · subst h; simp
    · have : (⟨a.toArray⟩ : Str) ≠ ⟨b.toArray⟩ := fun q => h (by simpa using congrArg (fun z : Str => z.cps.toList) q)
      simp [h, this]
  exact e _ _
end Mine
namespace Mine
theorem AS_of {c : Nat} (h : c < 128) : AS c = true := (by decide +kernel : ∀ c, c < 128 → AS c = true) c h
theorem KA_us : KA 95 = false := by decide +kernel
/-- the state behind a prefix of ASCII signs -/
def stp : Bool → Bool → List Nat → Bool
  | p, _, [] => p
  | _, s, c :: r => if KA c then stp false true r else stp true s r
def sts : Bool → List Nat → Bool
  | s, [] => s
  | s, c :: r => if KA c then sts true r else sts s r
/-- what the prefix gives -/
def pref : Bool → Bool → List Nat → List Nat
  | _, _, [] => []
  | p, s, c :: r => if KA c then (if p && s then [95] else []) ++ [c] ++ pref false true r else pref true s r
theorem nf_yes {c : Nat} (hk : KA c = true) (ha : AS c = true) (p s : Bool) (r : List Nat) : nf p s (c :: r) = (if p && s then [95] else []) ++ [c] ++ nf false true r := by
  show (if KA c then (if p && s then [95] else []) ++ (if AS c then [c] else []) ++ nf false (s || AS c) r else nf true s r) = _
  rw [hk, ha, Bool.or_true]; rfl
theorem nf_no {c : Nat} (hk : KA c = false) (p s : Bool) (r : List Nat) : nf p s (c :: r) = nf true s r := by
  show (if KA c then (if p && s then [95] else []) ++ (if AS c then [c] else []) ++ nf false (s || AS c) r else nf true s r) = _
  rw [hk]; rfl
theorem nf_app : ∀ (A : List Nat) (p s : Bool) (B : List Nat), (∀ c ∈ A, c < 128) → nf p s (A ++ B) = pref p s A ++ nf (stp p s A) (sts s A) B
  | [], p, s, B, _ => rfl
  | c :: r, p, s, B, h => by
    have hc := AS_of (h c (.head _))
    have hr : ∀ c ∈ r, c < 128 := fun d hd => h d (.tail _ hd)
    rw [List.cons_append]
    cases hk : KA c with
    | true =>
      rw [nf_yes hk hc, nf_app r false true B hr]
      simp [pref, stp, sts, hk]
    | false =>
      rw [nf_no hk, nf_app r true s B hr]
      simp [pref, stp, sts, hk]
/-- is the last sign kept -/
def lastK (A : List Nat) : Bool := match A.getLast? with | some c => KA c | none => false
def headK : List Nat → Bool
  | [] => false
  | c :: _ => KA c
theorem lastK_snoc (A : List Nat) (c : Nat) : lastK (A ++ [c]) = KA c := by simp [lastK]
theorem st_snoc (A : List Nat) (c : Nat) : ∀ (p s : Bool), stp p s (A ++ [c]) = !KA c ∧ sts s (A ++ [c]) = (KA c || sts s A) := by
  induction A with
  | nil => intro p s; cases hk : KA c <;> simp [stp, sts, hk]
  | cons d r ih =>
    intro p s
    simp only [List.cons_append, stp, sts]
    cases hd : KA d
    · simp only [Bool.false_eq_true, if_false]; exact ih true s
    · simp only [if_true]
      exact ih false true
theorem st_last (A : List Nat) : (stp false false A = false ∧ sts false A = true) ↔ lastK A = true := by
  rcases List.eq_nil_or_concat A with rfl | ⟨B, c, rfl⟩
  · simp [stp, sts, lastK]
  · rw [List.concat_eq_append, lastK_snoc, (st_snoc B c false false).1, (st_snoc B c false false).2]
    cases KA c <;> simp
theorem nf_off (p q : Bool) : ∀ (B : List Nat), nf p false B = nf q false B
  | [] => rfl
  | c :: r => by simp [nf]
theorem nf_on (B : List Nat) (h : ∀ c ∈ B, c < 128) : nf true true B = nf false true B ↔ headK B = false := by
  cases B with
  | nil => simp [nf, headK]
  | cons c r =>
    have hc := AS_of (h c (.head _))
    show _ ↔ KA c = false
    cases hk : KA c with
    | false => rw [nf_no hk, nf_no hk]; simp
    | true =>
      have ne : c ≠ 95 := fun e => by rw [e, KA_us] at hk; exact absurd hk (by decide)
      rw [nf_yes hk hc, nf_yes hk hc]
      constructor
      · intro e
        have e2 := congrArg List.head? e
        simp at e2
        exact absurd e2.symm ne
      · intro e; exact absurd e (by decide)
/-- the signs kept, in order: what is left when the underscores go -/
theorem nf_kept : ∀ (B : List Nat) (p s : Bool), (∀ c ∈ B, c < 128) → (nf p s B).filter KA = B.filter KA
  | [], _, _, _ => rfl
  | c :: r, p, s, h => by
    have hc := AS_of (h c (.head _))
    have hr : ∀ c ∈ r, c < 128 := fun d hd => h d (.tail _ hd)
    cases hk : KA c with
    | false => rw [nf_no hk, nf_kept r true s hr]; simp [hk]
    | true =>
      rw [nf_yes hk hc]
      have u : (if (p && s) = true then [95] else ([] : List Nat)).filter KA = [] := by cases (p && s) <;> simp [KA_us]
      rw [List.filter_append, List.filter_append, u, nf_kept r _ _ hr]
      simp [hk]
theorem ins_law (A B : List Nat) (c : Nat) (hA : ∀ d ∈ A, d < 128) (hB : ∀ d ∈ B, d < 128) (hc : c < 128) :
    nf false false (A ++ c :: B) = nf false false (A ++ B) ↔ (KA c = false ∧ ¬ (lastK A = true ∧ headK B = true)) := by
  cases hk : KA c with
  | true =>
    simp only [Bool.true_eq_false, false_and, iff_false]
    intro e
    have e1 := congrArg (fun l => (l.filter KA).length) e
    skip
    rw [nf_kept _ _ _ (by intro d hd; simp at hd; rcases hd with hd | rfl | hd; exact hA d hd; exact hc; exact hB d hd), nf_kept _ _ _ (by intro d hd; simp at hd; rcases hd with hd | hd; exact hA d hd; exact hB d hd)] at e1
    simp [hk] at e1
  | false =>
    rw [nf_app A false false _ hA, nf_app A false false _ hA]
    have e0 : nf (stp false false A) (sts false A) (c :: B) = nf true (sts false A) B := nf_no hk _ _ _
    rw [e0, List.append_cancel_left_eq]
    have hl := st_last A
    cases hs : sts false A with
    | false =>
      rw [hs] at hl
      have : lastK A = false := by cases q : lastK A with | false => rfl | true => exact absurd (hl.mpr q).2 (by simp)
      rw [this]
      simp [nf_off true (stp false false A) B]
    | true =>
      rw [hs] at hl
      cases hp : stp false false A with
      | true =>
        rw [hp] at hl
        have : lastK A = false := by cases q : lastK A with | false => rfl | true => exact absurd (hl.mpr q).1 (by simp)
        rw [this]
        simp
      | false =>
        rw [hp] at hl
        have : lastK A = true := hl.mp ⟨rfl, rfl⟩
        rw [this, nf_on B hB]
        simp
theorem rep_law (A B : List Nat) (c d : Nat) (hA : ∀ d ∈ A, d < 128) (hB : ∀ d ∈ B, d < 128) (hc : c < 128) (hd : d < 128) :
    nf false false (A ++ c :: B) = nf false false (A ++ d :: B) ↔ (d = c ∨ (KA d = false ∧ KA c = false)) := by
  have hall : ∀ x, x < 128 → ∀ y ∈ A ++ x :: B, y < 128 := by
    intro x hx y hy
    simp at hy
    rcases hy with hy | rfl | hy
    · exact hA y hy
    · exact hx
    · exact hB y hy
  by_cases e : d = c
  · subst e; simp
  simp only [e, false_or]
  cases hk : KA c with
  | true =>
    simp only [Bool.true_eq_false, and_false, iff_false]
    intro q
    have q1 := congrArg (fun l => l.filter KA) q
    skip
    rw [nf_kept _ _ _ (hall c hc), nf_kept _ _ _ (hall d hd)] at q1
    cases hd' : KA d with
    | true =>
      simp [hk, hd'] at q1
      exact e q1.symm
    | false =>
      have q2 := congrArg List.length q1
      simp [hk, hd'] at q2
  | false =>
    cases hd' : KA d with
    | true =>
      simp only [Bool.true_eq_false, false_and, iff_false]
      intro q
      have q1 := congrArg (fun l => (l.filter KA).length) q
      skip
      rw [nf_kept _ _ _ (hall c hc), nf_kept _ _ _ (hall d hd)] at q1
      simp [hk, hd'] at q1
    | false =>
      simp only [and_self, iff_true]
      rw [nf_app A false false _ hA, nf_app A false false _ hA]
      rw [nf_no hk, nf_no hd']
end Mine
namespace Mine
abbrev keptS : Str := Str.ofString "0123456789.ABCDEFGHIJKLMNOPQRSTUVWXYZabcdefghijklmnopqrstuvwxyz"
/-- the sign is none of the kept -/
abbrev kE (y : Str) : Bool := (Builtin.Str.occurrences keptS y 0 keptS.length 1).isEmpty
theorem kE_one {c : Nat} (h : c < 128) : kE ⟨#[c]⟩ = !KA c := by
  show (Builtin.Str.occurrences keptS ⟨#[c]⟩ 0 keptS.length 1).isEmpty = _
  rw [empty_one]
  have q : ∀ c, c < 128 → decide (c ∈ keptS.cps.toList) = KA c := by decide +kernel
  rw [q c h]
section
variable {xt : Str} {k : Int}
theorem item_at (h0 : 0 ≤ k) (h1 : k < xt.length) : ∃ h : k.toNat < xt.cps.toList.length, Txt.item xt k = ⟨#[xt.cps.toList[k.toNat]]⟩ := by
  have hl : k.toNat < xt.cps.toList.length := by
    have : xt.cps.toList.length = xt.length := by simp [Str.length]
    omega
  refine ⟨hl, ?_⟩
  unfold Txt.item Txt.charAt
  have e : seqIndex? k xt.length = some k.toNat := by
    unfold seqIndex?
    simp
    omega
  rw [e]
  have hs : k.toNat < xt.cps.size := by simpa using hl
  simp [hs]
theorem cut_to (h0 : 0 ≤ k) (h1 : k < xt.length) : Txt.slice xt none (some k) = ⟨(xt.cps.toList.take k.toNat).toArray⟩ := by
  have h := slice_closes_toL (x := xt) h0 (Int.le_of_lt h1)
  have := eq_of_beq h
  rw [this]
  simp
theorem cut_from (h0 : 0 ≤ k) (h1 : k ≤ xt.length) : Txt.slice xt (some k) none = ⟨(xt.cps.toList.drop k.toNat).toArray⟩ := by
  have h := slice_closes_fromL (x := xt) (b := xt.length) h0 h1 rfl
  have := eq_of_beq h
  rw [this]
  congr 2
  apply List.take_of_length_le
  have : xt.cps.toList.length = xt.length := by simp [Str.length]
  simp only [List.length_drop]
  omega
end
end Mine
namespace Mine
section
variable {xt : Str} {k : Int} {c : Nat}
theorem lst (x : Str) (l : List Nat) (h : x = ⟨l.toArray⟩) : x.cps.toList = l := by rw [h]
theorem ls_app3 (a b : List Nat) (c : Nat) : ((⟨a.toArray⟩ : Str) ++ ⟨#[c]⟩ ++ ⟨b.toArray⟩).cps.toList = a ++ c :: b := by
  rw [Str.cps_append, Str.cps_append]; simp
theorem ls_app2 (a b : List Nat) : ((⟨a.toArray⟩ : Str) ++ ⟨b.toArray⟩).cps.toList = a ++ b := by
  rw [Str.cps_append]; simp
/-- is the sign ahead of the place kept -/
def lft (xt : Str) (k : Int) : Bool := decide (0 < k) && !kE (Txt.item xt (k - 1))
theorem lft_eq (ha : ∀ c ∈ xt.cps, c < 128) (h0 : 0 ≤ k) (h1 : k < xt.length) : lft xt k = lastK (xt.cps.toList.take k.toNat) := by
  unfold lft
  by_cases hk : 0 < k
  · obtain ⟨hl, e⟩ := item_at (xt := xt) (k := k - 1) (by omega) (by omega)
    have hc : xt.cps.toList[(k - 1).toNat] < 128 := ha _ (by simpa using List.getElem_mem hl)
    rw [e, kE_one hc]
    have e2 : k.toNat = (k - 1).toNat + 1 := by omega
    rw [e2, List.take_succ_eq_append_getElem hl, lastK_snoc]
    simp [hk]
  · have e2 : k.toNat = 0 := by omega
    rw [e2]
    simp [hk, lastK]
theorem at_eq (ha : ∀ c ∈ xt.cps, c < 128) (h0 : 0 ≤ k) (h1 : k < xt.length) : ∃ d, d < 128 ∧ Txt.item xt k = ⟨#[d]⟩ ∧ xt.cps.toList.drop k.toNat = d :: xt.cps.toList.drop (k.toNat + 1) := by
  obtain ⟨hl, e⟩ := item_at (xt := xt) (k := k) h0 h1
  exact ⟨xt.cps.toList[k.toNat], ha _ (by simpa using List.getElem_mem hl), e, List.drop_eq_getElem_cons hl⟩
theorem ascii_take (ha : ∀ c ∈ xt.cps, c < 128) (n : Nat) : ∀ c ∈ xt.cps.toList.take n, c < 128 := fun c hc => ha c (by simpa using List.mem_of_mem_take hc)
theorem ascii_drop (ha : ∀ c ∈ xt.cps, c < 128) (n : Nat) : ∀ c ∈ xt.cps.toList.drop n, c < 128 := fun c hc => ha c (by simpa using List.mem_of_mem_drop hc)
theorem law_ins (ha : ∀ c ∈ xt.cps, c < 128) (h0 : 0 ≤ k) (h1 : k < xt.length) (hc : c < 128) :
    (norm (Txt.slice xt none (some k) ++ ⟨#[c]⟩ ++ Txt.slice xt (some k) none) == norm xt) = (kE ⟨#[c]⟩ && !(lft xt k && !kE (Txt.item xt k))) := by
  rw [norm_eq_iff, cut_to h0 h1, cut_from h0 (Int.le_of_lt h1), ls_app3, lft_eq ha h0 h1, kE_one hc]
  obtain ⟨d, hd, e, e2⟩ := at_eq ha h0 h1
  rw [e, kE_one hd]
  have e3 : headK (xt.cps.toList.drop k.toNat) = KA d := by rw [e2]; rfl
  rw [← e3]
  have L := ins_law (xt.cps.toList.take k.toNat) (xt.cps.toList.drop k.toNat) c (ascii_take ha _) (ascii_drop ha _) hc
  rw [List.take_append_drop] at L
  rw [Bool.eq_iff_iff, decide_eq_true_iff, L]
  cases KA c <;> cases lastK (xt.cps.toList.take k.toNat) <;> cases headK (xt.cps.toList.drop k.toNat) <;> simp
theorem law_del (ha : ∀ c ∈ xt.cps, c < 128) (h0 : 0 ≤ k) (h1 : k < xt.length) :
    (norm (Txt.slice xt none (some k) ++ Txt.slice xt (some (k + 1)) none) == norm xt) = (kE (Txt.item xt k) && !(lft xt k && (decide (k + 1 < xt.length) && !kE (Txt.item xt (k + 1))))) := by
  have ek : (k + 1).toNat = k.toNat + 1 := by omega
  rw [norm_eq_iff, cut_to h0 h1, cut_from (by omega) (by omega), ls_app2, lft_eq ha h0 h1, ek]
  obtain ⟨d, hd, e, e2⟩ := at_eq ha h0 h1
  rw [e, kE_one hd]
  have e3 : (decide (k + 1 < xt.length) && !kE (Txt.item xt (k + 1))) = headK (xt.cps.toList.drop (k.toNat + 1)) := by
    by_cases hk : k + 1 < xt.length
    · obtain ⟨d', hd', e', e2'⟩ := at_eq ha (k := k + 1) (by omega) hk
      rw [e', kE_one hd', ← ek, e2']
      simp [hk, headK]
    · have hl : xt.cps.toList.length = xt.length := by simp [Str.length]
      rw [List.drop_eq_nil_of_le (by omega)]
      simp [hk, headK]
  rw [e3]
  have L := ins_law (xt.cps.toList.take k.toNat) (xt.cps.toList.drop (k.toNat + 1)) d (ascii_take ha _) (ascii_drop ha _) hd
  rw [← e2, List.take_append_drop] at L
  have L' : (nf false false (xt.cps.toList.take k.toNat ++ xt.cps.toList.drop (k.toNat + 1)) = nf false false xt.cps.toList) ↔ _ := eq_comm.trans L
  rw [Bool.eq_iff_iff, decide_eq_true_iff, L']
  cases KA d <;> cases lastK (xt.cps.toList.take k.toNat) <;> cases headK (xt.cps.toList.drop (k.toNat + 1)) <;> simp
theorem law_rep (ha : ∀ c ∈ xt.cps, c < 128) (h0 : 0 ≤ k) (h1 : k < xt.length) (hc : c < 128) :
    (norm (Txt.slice xt none (some k) ++ ⟨#[c]⟩ ++ Txt.slice xt (some (k + 1)) none) == norm xt) = ((Txt.item xt k == ⟨#[c]⟩) || (kE (Txt.item xt k) && kE ⟨#[c]⟩)) := by
  have ek : (k + 1).toNat = k.toNat + 1 := by omega
  rw [norm_eq_iff, cut_to h0 h1, cut_from (by omega) (by omega), ls_app3, ek]
  obtain ⟨d, hd, e, e2⟩ := at_eq ha h0 h1
  rw [e, kE_one hd, kE_one hc]
  have L := rep_law (xt.cps.toList.take k.toNat) (xt.cps.toList.drop (k.toNat + 1)) c d (ascii_take ha _) (ascii_drop ha _) hc hd
  rw [← e2, List.take_append_drop] at L
  have e4 : ((⟨#[d]⟩ : Str) == ⟨#[c]⟩) = decide (d = c) := by
    by_cases h : d = c
    · subst h; simp
    · have : (⟨#[d]⟩ : Str) ≠ ⟨#[c]⟩ := fun q => h (by simpa using q)
      simp [h, this]
  rw [e4, Bool.eq_iff_iff, decide_eq_true_iff, L]
  cases KA c <;> cases KA d <;> by_cases h : d = c <;> simp [h]
end
end Mine
namespace Mine
theorem ite_no {c : Prop} {inst : Decidable c} {P Q : Prop} (h : ¬ c) (q : Q) : @ite Prop c inst P Q := by rw [if_neg h]; exact q
theorem c128 (y : Int) : (y.fmod 128).toNat < 128 := by
  have h1 := Int.fmod_nonneg_of_pos y (show (0 : Int) < 128 by decide)
  have h2 := Int.fmod_lt_of_pos y (show (0 : Int) < 128 by decide)
  omega
section
variable {xt : Str} {k : Int} {c : Nat} (ha : ∀ c ∈ xt.cps, c < 128) (h0 : 0 ≤ k) (h1 : k < xt.length)
include ha h0 h1
theorem fI1 (hc : c < 128) (hp : 0 < k) (hE : kE ⟨#[c]⟩ = true) (hl : kE (Txt.item xt (k - 1)) = true) : ¬ ((norm (Txt.slice xt none (some k) ++ ⟨#[c]⟩ ++ Txt.slice xt (some k) none) == norm xt) != !!kE (Txt.item xt (k - 1))) = true := by
  rw [law_ins ha h0 h1 hc, lft, hE, hl]; simp
theorem fI2 (hc : c < 128) (hp : 0 < k) (hE : kE ⟨#[c]⟩ = true) (hl : kE (Txt.item xt (k - 1)) = false) : ¬ ((norm (Txt.slice xt none (some k) ++ ⟨#[c]⟩ ++ Txt.slice xt (some k) none) == norm xt) != !!kE (Txt.item xt k)) = true := by
  rw [law_ins ha h0 h1 hc, lft, hE, hl, decide_eq_true hp]; cases kE (Txt.item xt k) <;> simp
theorem fI3 (hc : c < 128) (hE : kE ⟨#[c]⟩ = false) : ¬ ((norm (Txt.slice xt none (some k) ++ ⟨#[c]⟩ ++ Txt.slice xt (some k) none) == norm xt) != !!kE ⟨#[c]⟩) = true := by
  rw [law_ins ha h0 h1 hc, hE]; simp
theorem fI4 (hc : c < 128) (hp : ¬ 0 < k) (hE : kE ⟨#[c]⟩ = true) : ¬ ((norm (Txt.slice xt none (some k) ++ ⟨#[c]⟩ ++ Txt.slice xt (some k) none) == norm xt) != !decide (0 < k)) = true := by
  rw [law_ins ha h0 h1 hc, lft, hE, decide_eq_false hp]; simp
theorem fD1 (hp : 0 < k) (hE : kE (Txt.item xt k) = true) (hl : kE (Txt.item xt (k - 1)) = true) : ¬ ((norm (Txt.slice xt none (some k) ++ Txt.slice xt (some (k + 1)) none) == norm xt) != !!kE (Txt.item xt (k - 1))) = true := by
  rw [law_del ha h0 h1, lft, hE, hl]; simp
theorem fD2 (hp : 0 < k) (hE : kE (Txt.item xt k) = true) (hl : kE (Txt.item xt (k - 1)) = false) (hn : k + 1 < xt.length) : ¬ ((norm (Txt.slice xt none (some k) ++ Txt.slice xt (some (k + 1)) none) == norm xt) != !!kE (Txt.item xt (k + 1))) = true := by
  rw [law_del ha h0 h1, lft, hE, hl, decide_eq_true hp, decide_eq_true hn]; cases kE (Txt.item xt (k + 1)) <;> simp
theorem fD3 (hp : 0 < k) (hE : kE (Txt.item xt k) = true) (hl : kE (Txt.item xt (k - 1)) = false) (hn : ¬ k + 1 < xt.length) : ¬ ((norm (Txt.slice xt none (some k) ++ Txt.slice xt (some (k + 1)) none) == norm xt) != !decide (k + 1 < xt.length)) = true := by
  rw [law_del ha h0 h1, lft, hE, hl, decide_eq_true hp, decide_eq_false hn]; simp
theorem fD4 (hE : kE (Txt.item xt k) = false) : ¬ ((norm (Txt.slice xt none (some k) ++ Txt.slice xt (some (k + 1)) none) == norm xt) != !!kE (Txt.item xt k)) = true := by
  rw [law_del ha h0 h1, hE]; simp
theorem fD5 (hp : ¬ 0 < k) (hE : kE (Txt.item xt k) = true) : ¬ ((norm (Txt.slice xt none (some k) ++ Txt.slice xt (some (k + 1)) none) == norm xt) != !decide (0 < k)) = true := by
  rw [law_del ha h0 h1, lft, hE, decide_eq_false hp]; simp
theorem fR1 (hc : c < 128) (hE : (Txt.item xt k == ⟨#[c]⟩) = true) : ¬ ((norm (Txt.slice xt none (some k) ++ ⟨#[c]⟩ ++ Txt.slice xt (some (k + 1)) none) == norm xt) != (Txt.item xt k == ⟨#[c]⟩)) = true := by
  rw [law_rep ha h0 h1 hc, hE]; simp
theorem fR2 (hc : c < 128) (hE : (Txt.item xt k == ⟨#[c]⟩) = false) (hi : kE (Txt.item xt k) = true) : ¬ ((norm (Txt.slice xt none (some k) ++ ⟨#[c]⟩ ++ Txt.slice xt (some (k + 1)) none) == norm xt) != !!kE ⟨#[c]⟩) = true := by
  rw [law_rep ha h0 h1 hc, hE, hi]; cases kE ⟨#[c]⟩ <;> simp
theorem fR3 (hc : c < 128) (hE : (Txt.item xt k == ⟨#[c]⟩) = false) (hi : kE (Txt.item xt k) = false) : ¬ ((norm (Txt.slice xt none (some k) ++ ⟨#[c]⟩ ++ Txt.slice xt (some (k + 1)) none) == norm xt) != !!kE (Txt.item xt k)) = true := by
  rw [law_rep ha h0 h1 hc, hE, hi]; simp
end
def chrG (k : Int) : Str := ⟨#[((k + 97).fmod 128).toNat]⟩
theorem text_ascii {n : Nat} {ns : List Int} (_ : (Txt.join (Str.ofString "") (List.map chrG ns)).length = n) : ∀ c ∈ (Txt.join (Str.ofString "") (List.map chrG ns)).cps, c < 128 := by
  rw [txt_join_nil]
  intro c hc
  have hc' : c ∈ cat (List.map chrG ns) := by simpa using hc
  unfold cat at hc'
  obtain ⟨s, hs, hc2⟩ := List.mem_flatMap.mp hc'
  obtain ⟨k, _, rfl⟩ := List.mem_map.mp hs
  have : c = ((k + 97).fmod 128).toNat := by simpa [chrG] using hc2
  rw [this]
  exact c128 _
theorem led_hide {h₀ h : Heap} {L : Addr} {l : List (Addr × Obj)} (N : News h₀ L h l) : ∃ l', l' = l ∧ News h₀ L h l' := ⟨l, rfl, N⟩
end Mine
namespace Mine
/-- behind the first statement: the numbers, however they came -/
def NumCut (y : Str) (base : Heap) (L : Addr) (m : Str → Option Value) (most : Nat) (s : Shared) (f : Flow) (s' : Shared) : Prop :=
  f = .next ∧ ∃ (D : Addr) (ws : List Value) (ns : List Int) (n : Nat) (h : Heap) (tk : Nat), s' = { s with heap := h, toks := tk } ∧ Fr base L h (fun z => if z = y then some (.ref D) else m z) ∧
    News base L h [(D, W.listOf ws.toArray n)] ∧ IntsAre ws ns ∧ 0 < ns.length ∧ ns.length ≤ most
theorem numCut {prog : Program} {w : World} {A : Around} {E : Value → Shared → Prop} {s : Shared} {env : Env} {st : Stmt} {rest : List Stmt} {Q : Flow → Shared → Prop} {base : Heap} {L : Addr} {m : Str → Option Value} (y : Str) (most : Nat)
    (_F : Fr base L s.heap m)
    (h1 : wpAny (model prog w) A (exec st env) (NumCut y base L m most s) E s)
    (h2 : ∀ (D : Addr) (ws : List Value) (ns : List Int) (n : Nat) (h : Heap) (tk : Nat), Fr base L h (fun z => if z = y then some (.ref D) else m z) → News base L h [(D, W.listOf ws.toArray n)] → IntsAre ws ns → ws.length = ns.length → 0 < ns.length → ns.length ≤ most →
      wpAny (model prog w) A (execs rest env) Q E { s with heap := h, toks := tk }) :
    wpAny (model prog w) A (execs (st :: rest) env) Q E s := by
  refine wpAny_execs_cons (wpAny_mono h1 (fun f s' h => ?_) fun _ _ e => e)
  obtain ⟨rfl, D, ws, ns, n, h, tk, rfl, F, N, I, h0, hm⟩ := h
  exact h2 D ws ns n h tk F N I I.length h0 hm
theorem numCut_end {y : Str} {base : Heap} {L : Addr} {m : Str → Option Value} {most : Nat} {s : Shared} {D : Addr} {ws : List Value} {ns : List Int} {n : Nat} {h : Heap} {tk : Nat} {ts : List (Addr × Obj)}
    (F : Fr base L h (fun z => if z = y then some (.ref D) else m z)) (N : News base L h ((D, W.listOf ws.toArray n) :: ts)) (I : IntsAre ws ns) (h0 : 0 < ns.length) (hm : ns.length ≤ most) : NumCut y base L m most s .next { s with heap := h, toks := tk } :=
  ⟨rfl, D, ws, ns, n, h, tk, rfl, F, fun p hp => N p (by rw [List.mem_singleton.mp hp]; exact .head _), I, h0, hm⟩
end Mine
namespace Mine
end Mine
open Mine
local macro_rules | `(tactic| walk_at "execs cons") => `(tactic| (k_here; (with_reducible show wpAny _ _ (execs (PySem.Stmt.Assign [PySem.Expr.Name (Str.ofString "numbers") _] _ _ :: _) _) _ _ _); (rename Fr _ _ _ _ => fC9); (refine' numCut (Str.ofString "numbers") 24 fC9 ?hcA (fun D9 ws9 ns9 n9 h9 tk9 F9 N9 I9 hl9 h09 hm9 => ?hcB)); all_goals (try k_fold)))
local macro_rules | `(tactic| walk_at "NumCut") => `(tactic| (exact numCut_end (by assumption) (by assumption) (by first | assumption | exact IntsAre.cons _ _ IntsAre.nil) (by first | assumption | decide) (by first | omega | decide)))
local macro_rules | `(tactic| walk_at "CompSrc") => `(tactic| (k_here; k_dflt (refine LCg.CompSrc.ledger (by rfl) (by k_asm) (by k_asm) (by k_mem) (by kcf_size) ?_; intro g'; (refine' kct_list chrG (by first | assumption | l_ints) (fun k' t' I' oI' C' oC' D' m' ys' h' tk' E' hk' hC' hx' F' N' off' ne' => ?_) ?_); (all_goals (try (simp only [LCg.Off3, and_true] at off'))); (all_goals (try ((show KPfMark → _); intro hMark'))); kcf_last)))
local macro_rules | `(tactic| walk_at "KCtEl") => `(tactic| with_unfolding_all exact ⟨rfl, _, rfl⟩)
local macro_rules | `(tactic| kst_facts1) => `(tactic| ((with_reducible show StrsAre _ _); first | exact StrsAre.nil | assumption | ((with_reducible show StrsAre (_ ++ [_] ++ [_]) _); exact StrsAre.append' (StrsAre.append' (by assumption) (.cons _ _ .nil)) (.cons _ _ .nil)) | exact StrsAre.append' (by assumption) (.cons _ _ .nil)))
local macro_rules | `(tactic| walk_at "call builtin:str.join") => `(tactic| (k_here; (with_reducible show wpAny _ _ (call (Value.builtin "str.join") [Value.str _ _, Value.ref _]) _ _ _); (with_reducible rename CarriedAll _ (List.map (fun k => PyData.str (chrG k)) _) => ktC); (refine KT.join_1 (by first | assumption | is_list | exact News.isList (by k_asm) (by k_mem)) ktC (by intro ktA ktM; rfl) (by first | omega | decide) ?_; intro _ _ ktE)))
local macro_rules | `(tactic| walk_at "call builtin:str.join") => `(tactic| (k_here; (rename NInv _ _ _ => hNI9); (refine norm_join (by first | is_list | exact News.isList (by k_asm) (by k_mem)) (by assumption) hNI9 (by omega) ?_); intro _ _))
local macro_rules | `(tactic| trivial) => `(tactic| ((with_reducible show Str.length _ ≤ 100); first | (with_reducible assumption) | (with_reducible refine oth_len3 (c := ⟨#[_]⟩) ?_ rfl; omega) | (with_reducible refine oth_len2 ?_; omega) | omega))
local macro_rules | `(tactic| walk_at "ite") => `(tactic| ((with_reducible show ite ((((norm _) == (norm _)) != _) = true) _ _); (with_reducible refine ite_no ?hn9 ?_); (case hn9 => ((first | (with_reducible apply fI1) | (with_reducible apply fI2) | (with_reducible apply fI3) | (with_reducible apply fI4) | (with_reducible apply fD1) | (with_reducible apply fD2) | (with_reducible apply fD3) | (with_reducible apply fD4) | (with_reducible apply fD5) | (with_reducible apply fR1) | (with_reducible apply fR2) | (with_reducible apply fR3)) <;> first | (with_reducible assumption) | exact c128 _ | omega))))
set_option maxRecDepth 100000 in
set_option maxHeartbeats 8000000 in
theorem PySem.Challenge.cw_dm0100_03_holds : PySem.Challenge.rw_dm0100_03.Holds := by
  k_with "call ref" =>
      (with_reducible show wpAny _ _ (PySem.call (Value.ref 21) [Value.str _ _]) _ _ _)
      (rename News _ _ _ _ => nC8)
      obtain ⟨lC9, hC9, nC9⟩ := led_hide nC8
      clear nC8
      k_call_by "normalize_encoding" norm (fun (x : Str) => x.length ≤ 100)
      subst hC9
  k_with "pyIter str" => k_state (fun pre chars punct => NInv pre chars punct ∧ chars.length ≤ 2 * pre.length) "chars$" "punct"
  k_with "pyIter ref" =>
      (with_reducible show wpAny _ _ (pyIter (Value.ref _)) (fun it s₂ => LoopAtV _ _ _ _ _ _ _ _ _ it s₂) _ _)
      k_here
      have hAsc9 := text_ascii (by assumption)
      generalize Txt.join (Str.ofString "") (List.map chrG _) = xt at *
      (rename Fr _ _ _ _ => lF'); (rename News _ _ _ _ => lN'); (rename IsRange _ _ _ _ _ _ _ _ => rgX)
      (with_unfolding_all refine kow_range [Str.ofString "change", Str.ofString "code", Str.ofString "left", Str.ofString "other", Str.ofString "alike"] (by rfl) (by first | exact rgX | assumption) (by first | exact small_one (by l_bnd) (by l_bnd) (by l_bnd) (by l_bnd) | decide) (by first | exact rangeSize_nat _ _ | rfl) lF' lN' (fun n' t' u' h' tk' I' oI' hlo' hhi' F' N' l1' => ?_) (fun u' h' tk' F' N' => ?_)) <;> ((try k_lt l1'); clear lF' lN')
  k_with "state" =>
    first
      | exact ninv_start
      | exact way_p (by assumption) (by assumption) (by assumption)
      | exact way_a (by assumption) (by first | exact kept_of1 (by assumption) | exact kept_of2 (by assumption)) (by first | exact off_of1 (by assumption) | exact off_of2 (by assumption) (by assumption)) (by assumption)
      | exact way_0 (by assumption) (by first | exact kept_of1 (by assumption) | exact kept_of2 (by assumption)) (by first | exact off_of1 (by assumption) | exact off_of2 (by assumption) (by assumption)) (by assumption)
      | exact way_ua (by assumption) (by first | exact kept_of1 (by assumption) | exact kept_of2 (by assumption)) (on_of (by assumption) (by assumption) (by assumption)) (by assumption)
      | exact way_u (by assumption) (by first | exact kept_of1 (by assumption) | exact kept_of2 (by assumption)) (on_of (by assumption) (by assumption) (by assumption)) (by assumption)
  open_k
