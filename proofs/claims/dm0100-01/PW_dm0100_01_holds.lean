import PyProof.Rows.All
import Wide.All
import OpenK.AllK
import Wide.FinOn
import PySem.Challenge.RW_dm0100_01
open PySem PySem.W PyProof.Rows
set_option Elab.async false
namespace Mine
def nstep (st : List Str × Bool) (n : Int) : List Str × Bool :=
  if Txt.isalnum ⟨#[n.toNat]⟩ || (⟨#[n.toNat]⟩ : Str) == Str.ofString "." then
    ((st.1 ++ (if st.2 && !st.1.isEmpty then [Str.ofString "_"] else [])) ++ (if Txt.isascii ⟨#[n.toNat]⟩ then [⟨#[n.toNat]⟩] else []), false)
  else (st.1, true)
def nrun (l : List Int) : List Str × Bool := l.foldl nstep ([], false)
def norm (x : Str) : Str := Txt.join (Str.ofString "") (nrun (KStt.codes x)).1
def NInv (pre : List Int) (chars : List Str) (p : Bool) : Prop := (chars, p) = nrun pre ∧ chars.length ≤ 2 * pre.length ∧ ∀ s ∈ chars, s.length = 1
theorem ninv_start : NInv [] [] false ∧ ([] : List Str).length ≤ 2 * ([] : List Int).length := ⟨⟨rfl, Nat.le_refl _, fun _ h => nomatch h⟩, Nat.le_refl _⟩
theorem nrun_snoc {pre : List Int} {chars : List Str} {p : Bool} (h : (chars, p) = nrun pre) (n : Int) : nrun (pre ++ [n]) = nstep (chars, p) n := by
  unfold nrun at h ⊢
  rw [List.foldl_append, ← h]
  rfl
theorem strs_empty {vs : List Value} {xs : List Str} (h : StrsAre vs xs) : vs.isEmpty = xs.isEmpty := by cases h <;> rfl
theorem ninv_end {pre : List Int} {chars chars' : List Str} {p p' : Bool} {n : Nat} (h : NInv pre chars p) (e : nstep (chars, p) (n : Int) = (chars', p'))
    (h2 : chars' = chars ∨ chars' = chars ++ [⟨#[n]⟩] ∨ chars' = chars ++ [Str.ofString "_"] ∨ chars' = chars ++ [Str.ofString "_"] ++ [⟨#[n]⟩]) : NInv (pre ++ [(n : Int)]) chars' p' ∧ chars'.length ≤ 2 * (pre ++ [(n : Int)]).length := by
  suffices q : NInv (pre ++ [(n : Int)]) chars' p' from ⟨q, q.2.1⟩
  obtain ⟨h1, hl, ha⟩ := h
  refine ⟨by rw [nrun_snoc h1, e], ?_, ?_⟩
  · rcases h2 with rfl | rfl | rfl | rfl <;> simp <;> omega
  · have q : (Str.ofString "_").length = 1 := by decide
    have q2 : (⟨#[n]⟩ : Str).length = 1 := rfl
    intro s hs
    rcases h2 with rfl | rfl | rfl | rfl
    · exact ha s hs
    · rcases List.mem_append.mp hs with hs | hs
      · exact ha s hs
      · rw [List.mem_singleton.mp hs]; exact q2
    · rcases List.mem_append.mp hs with hs | hs
      · exact ha s hs
      · rw [List.mem_singleton.mp hs]; exact q
    · rcases List.mem_append.mp hs with hs | hs
      · rcases List.mem_append.mp hs with hs | hs
        · exact ha s hs
        · rw [List.mem_singleton.mp hs]; exact q
      · rw [List.mem_singleton.mp hs]; exact q2
end Mine
namespace Mine
section
variable {pre : List Int} {chars : List Str} {p : Bool} {n : Nat} {vs : List Value}
theorem kept_of1 (h : Txt.isalnum ⟨#[n]⟩ = true) : (Txt.isalnum ⟨#[n]⟩ || (⟨#[n]⟩ : Str) == Str.ofString ".") = true := by rw [h]; rfl
theorem kept_of2 (h : ((⟨#[n]⟩ : Str) == Str.ofString ".") = true) : (Txt.isalnum ⟨#[n]⟩ || (⟨#[n]⟩ : Str) == Str.ofString ".") = true := by rw [h]; exact Bool.or_true _
theorem off_of1 (h : p = false) : (p && !chars.isEmpty) = false := by rw [h]; rfl
theorem off_of2 (S : StrsAre vs chars) (h : vs.isEmpty = true) : (p && !chars.isEmpty) = false := by rw [← strs_empty S, h]; exact Bool.and_false _
theorem on_of (S : StrsAre vs chars) (h1 : p = true) (h : vs.isEmpty = false) : (p && !chars.isEmpty) = true := by rw [← strs_empty S, h, h1]; rfl
theorem way_ua (h : NInv pre chars p) (hk : (Txt.isalnum ⟨#[n]⟩ || (⟨#[n]⟩ : Str) == Str.ofString ".") = true) (hu : (p && !chars.isEmpty) = true) (ha : Txt.isascii ⟨#[n]⟩ = true) :
    NInv (pre ++ [(n : Int)]) (chars ++ [Str.ofString "_"] ++ [⟨#[n]⟩]) false ∧ (chars ++ [Str.ofString "_"] ++ [(⟨#[n]⟩ : Str)]).length ≤ 2 * (pre ++ [(n : Int)]).length :=
  ninv_end (chars' := chars ++ [Str.ofString "_"] ++ [⟨#[n]⟩]) (p' := false) h (by unfold nstep; rw [Int.toNat_natCast, if_pos hk]; dsimp only; rw [if_pos hu, if_pos ha]) (by simp)
theorem way_u (h : NInv pre chars p) (hk : (Txt.isalnum ⟨#[n]⟩ || (⟨#[n]⟩ : Str) == Str.ofString ".") = true) (hu : (p && !chars.isEmpty) = true) (ha : Txt.isascii ⟨#[n]⟩ = false) :
    NInv (pre ++ [(n : Int)]) (chars ++ [Str.ofString "_"]) false ∧ (chars ++ [Str.ofString "_"]).length ≤ 2 * (pre ++ [(n : Int)]).length :=
  ninv_end (chars' := chars ++ [Str.ofString "_"]) (p' := false) h (by unfold nstep; rw [Int.toNat_natCast, if_pos hk]; dsimp only; rw [if_pos hu, ha]; simp) (by simp)
theorem way_a (h : NInv pre chars p) (hk : (Txt.isalnum ⟨#[n]⟩ || (⟨#[n]⟩ : Str) == Str.ofString ".") = true) (hu : (p && !chars.isEmpty) = false) (ha : Txt.isascii ⟨#[n]⟩ = true) :
    NInv (pre ++ [(n : Int)]) (chars ++ [⟨#[n]⟩]) false ∧ (chars ++ [(⟨#[n]⟩ : Str)]).length ≤ 2 * (pre ++ [(n : Int)]).length :=
  ninv_end (chars' := chars ++ [⟨#[n]⟩]) (p' := false) h (by unfold nstep; rw [Int.toNat_natCast, if_pos hk]; dsimp only; rw [hu, if_pos ha]; simp) (by simp)
theorem way_0 (h : NInv pre chars p) (hk : (Txt.isalnum ⟨#[n]⟩ || (⟨#[n]⟩ : Str) == Str.ofString ".") = true) (hu : (p && !chars.isEmpty) = false) (ha : Txt.isascii ⟨#[n]⟩ = false) :
    NInv (pre ++ [(n : Int)]) chars false ∧ chars.length ≤ 2 * (pre ++ [(n : Int)]).length :=
  ninv_end (chars' := chars) (p' := false) h (by unfold nstep; rw [Int.toNat_natCast, if_pos hk]; dsimp only; rw [hu, ha]; simp) (by simp)
theorem way_p (h : NInv pre chars p) (h1 : Txt.isalnum ⟨#[n]⟩ = false) (h2 : ((⟨#[n]⟩ : Str) == Str.ofString ".") = false) :
    NInv (pre ++ [(n : Int)]) chars true ∧ chars.length ≤ 2 * (pre ++ [(n : Int)]).length :=
  ninv_end (chars' := chars) (p' := true) h (by unfold nstep; rw [Int.toNat_natCast, h1, h2]; simp) (by simp)
end
end Mine
namespace Mine
theorem sum_ones : ∀ (l : List Str), (∀ a ∈ l, a.length = 1) → (l.map (·.length)).sum = l.length
  | [], _ => rfl
  | a :: r, h => by
    rw [List.map_cons, List.sum_cons, sum_ones r fun b hb => h b (.tail _ hb), h a (.head _), List.length_cons]
    omega
theorem norm_join {prog : Program} {w : World} {A : Around} {E : Value → Shared → Prop} {s : Shared} {t : Tok} {Q : Value → Shared → Prop} {D : Addr} {vs : List Value} {ys : List Str} {xt : Str} {p : Bool}
    (hl : s.heap.IsList D vs.toArray) (hi : StrsAre vs ys) (hN : NInv (KStt.codes xt) ys p) (hb : xt.length ≤ 1000000)
    (h : ∀ t' k, Q (.str (norm xt) t') { s with toks := k }) : wpAny (model prog w) A (call (.builtin "str.join") [.str (Str.ofString "") t, .ref D]) Q E s := by
  obtain ⟨h1, h2, h3⟩ := hN
  have e : norm xt = Txt.join (Str.ofString "") ys := by unfold norm; rw [← h1]
  have z : (Str.ofString "").length = 0 := by decide
  rw [KStt.codes_length] at h2
  refine join_list hl (by simpa using hi) ?_ fun t' k => ?_
  · rw [sum_ones ys h3, z]; omega
  · rw [← e]; exact h t' k
end Mine
namespace Mine
theorem oth_len3 {xt c : Str} {a b d e : Option Int} (h : xt.length ≤ 24) (hc : c.length = 1) : (Txt.slice xt a b ++ c ++ Txt.slice xt d e).length ≤ 100 := by
  have h1 := Txt.slice_le xt a b
  have h2 := Txt.slice_le xt d e
  rw [Str.length_append, Str.length_append]
  omega
theorem oth_len2 {xt : Str} {a b d e : Option Int} (h : xt.length ≤ 24) : (Txt.slice xt a b ++ Txt.slice xt d e).length ≤ 100 := by
  have h1 := Txt.slice_le xt a b
  have h2 := Txt.slice_le xt d e
  rw [Str.length_append]
  omega
end Mine
namespace Mine
def KA (c : Nat) : Bool := Txt.isalnum ⟨#[c]⟩ || (⟨#[c]⟩ : Str) == Str.ofString "."
def AS (c : Nat) : Bool := Txt.isascii ⟨#[c]⟩
def nf (p s : Bool) : List Nat → List Nat
  | [] => []
  | c :: r => if KA c then (if p && s then [95] else []) ++ (if AS c then [c] else []) ++ nf false (s || AS c) r else nf true s r
def cat (l : List Str) : List Nat := l.flatMap (·.cps.toList)
theorem join_nil_sep : ∀ l : List Str, (Str.join (Str.ofString "") l).cps.toList = cat l
  | [] => rfl
  | [x] => by simp [cat, Str.join]
  | x :: y :: r => by
    have ih := join_nil_sep (y :: r)
    show (x ++ Str.ofString "" ++ Str.join (Str.ofString "") (y :: r)).cps.toList = _
    rw [Str.cps_append, Str.cps_append, Array.toList_append, Array.toList_append, ih]
    have z : (Str.ofString "").cps.toList = [] := by decide
    rw [z]
    simp [cat]
theorem txt_join_nil (l : List Str) : Txt.join (Str.ofString "") l = ⟨(cat l).toArray⟩ := by
  have e : Txt.join (Str.ofString "") l = Str.join (Str.ofString "") l := StrLaws.glued_eq_join _ _
  rw [e, ← join_nil_sep]
theorem nstep_cat (cs : List Str) (p : Bool) (c : Nat) : nstep (cs, p) (c : Int) =
    if KA c then ((cs ++ (if p && !cs.isEmpty then [Str.ofString "_"] else [])) ++ (if AS c then [⟨#[c]⟩] else []), false) else (cs, true) := by
  unfold nstep KA AS
  rw [Int.toNat_natCast]
theorem run_nf : ∀ (l : List Nat) (cs : List Str) (p : Bool), cat ((l.map fun (c : Nat) => (c : Int)).foldl nstep (cs, p)).1 = cat cs ++ nf p (!cs.isEmpty) l
  | [], cs, p => by simp [nf]
  | c :: r, cs, p => by
    rw [List.map_cons, List.foldl_cons, nstep_cat]
    unfold nf
    cases hk : KA c with
    | false => simp only [Bool.false_eq_true, if_false]; exact run_nf r cs true
    | true =>
      simp only [if_true]
      rw [run_nf r]
      have u : (Str.ofString "_").cps.toList = [95] := by decide
      cases cs <;> cases p <;> cases ha : AS c <;> simp [cat, u]
theorem norm_nf (x : Str) : norm x = ⟨(nf false false x.cps.toList).toArray⟩ := by
  unfold norm nrun KStt.codes
  rw [txt_join_nil, run_nf]
  rfl
theorem norm_eq_iff (x y : Str) : (norm x == norm y) = decide (nf false false x.cps.toList = nf false false y.cps.toList) := by
  rw [norm_nf, norm_nf]
  have e : ∀ a b : List Nat, ((⟨a.toArray⟩ : Str) == ⟨b.toArray⟩) = decide (a = b) := by
    intro a b
    by_cases h : a = b
    · subst h; simp
    · have : (⟨a.toArray⟩ : Str) ≠ ⟨b.toArray⟩ := fun q => h (by simpa using congrArg (fun z : Str => z.cps.toList) q)
      simp [h, this]
  exact e _ _
end Mine
namespace Mine
theorem KA_sp : KA 32 = false := by decide +kernel
/-- the sign that stands in the run -/
def sg (c : Nat) : Nat := if AS c then c else 32
/-- the run that goes on, the runs behind it -/
def sp : List Nat → List Nat × List (List Nat)
  | [] => ([], [])
  | c :: r => if KA c then (sg c :: (sp r).1, (sp r).2) else ([], (sp r).1 :: (sp r).2)
def strip (l : List Nat) : List Nat := l.filter (· != 32)
def prt (rs : List (List Nat)) : List (List Nat) := (rs.filter (· != [])).map strip
def jn : Bool → List (List Nat) → List Nat
  | _, [] => []
  | true, q :: ps => 95 :: (q ++ jn true ps)
  | false, q :: ps => if q = [] then jn false ps else q ++ jn true ps
theorem nf_c1 {c : Nat} (hk : KA c = true) (p s : Bool) (r : List Nat) : nf p s (c :: r) = (if p && s then [95] else []) ++ (if AS c then [c] else []) ++ nf false (s || AS c) r := by
  show (if KA c then (if p && s then [95] else []) ++ (if AS c then [c] else []) ++ nf false (s || AS c) r else nf true s r) = _
  rw [hk]; rfl
theorem nf_c0 {c : Nat} (hk : KA c = false) (p s : Bool) (r : List Nat) : nf p s (c :: r) = nf true s r := by
  show (if KA c then (if p && s then [95] else []) ++ (if AS c then [c] else []) ++ nf false (s || AS c) r else nf true s r) = _
  rw [hk]; rfl
theorem sp_c1 {c : Nat} (hk : KA c = true) (r : List Nat) : sp (c :: r) = (sg c :: (sp r).1, (sp r).2) := by
  show (if KA c then (sg c :: (sp r).1, (sp r).2) else ([], (sp r).1 :: (sp r).2)) = _
  rw [hk]; rfl
theorem sp_c0 {c : Nat} (hk : KA c = false) (r : List Nat) : sp (c :: r) = ([], (sp r).1 :: (sp r).2) := by
  show (if KA c then (sg c :: (sp r).1, (sp r).2) else ([], (sp r).1 :: (sp r).2)) = _
  rw [hk]; rfl
theorem prt_nil (rs : List (List Nat)) : prt ([] :: rs) = prt rs := by simp [prt]
theorem prt_cons (a : Nat) (l : List Nat) (rs : List (List Nat)) : prt ((a :: l) :: rs) = strip (a :: l) :: prt rs := by simp [prt]
theorem nf_sp (l : List Nat) : ∀ s : Bool, nf false s l = strip (sp l).1 ++ jn (s || !(strip (sp l).1).isEmpty) (prt (sp l).2) ∧ nf true s l = jn s (prt ((sp l).1 :: (sp l).2)) := by
  induction l with
  | nil => intro s; simp [nf, sp, strip, prt, jn]
  | cons c r ih =>
    intro s
    cases hk : KA c with
    | false =>
      rw [nf_c0 hk, nf_c0 hk, sp_c0 hk, (ih s).2]
      simp only [prt_nil]
      simp [strip]
    | true =>
      rw [nf_c1 hk, nf_c1 hk, sp_c1 hk]
      simp only [prt_cons]
      cases ha : AS c with
      | true =>
        have ne : c ≠ 32 := fun e => by rw [e, KA_sp] at hk; exact absurd hk (by decide)
        have e : strip (sg c :: (sp r).1) = c :: strip (sp r).1 := by simp [strip, sg, ha, ne]
        have i1 := (ih true).1
        simp only [Bool.true_or] at i1
        rw [e]
        simp only [Bool.or_true, i1]
        cases s <;> simp [jn]
      | false =>
        have e : strip (sg c :: (sp r).1) = strip (sp r).1 := by simp [strip, sg, ha]
        have i1 := (ih s).1
        rw [e]
        simp only [Bool.or_false, i1]
        cases s
        · cases hs : strip (sp r).1 <;> simp [jn]
        · simp [jn]
theorem nf_law (l : List Nat) : nf false false l = jn false (prt ((sp l).1 :: (sp l).2)) := by
  rw [(nf_sp l false).1]
  cases h : (sp l).1 with
  | nil => simp [strip, prt_nil]
  | cons a t =>
    rw [prt_cons]
    cases hs : strip (a :: t) <;> simp [jn]
def addL (x : Str) : List Str → List Str
  | [] => []
  | [r] => [r ++ x]
  | r :: q :: t => r :: addL x (q :: t)
def stepR (runs : List Str) (c : Nat) : List Str :=
  if KA c then (if AS c then addL ⟨#[c]⟩ runs else addL (Str.ofString " ") runs) else runs ++ [Str.ofString ""]
def runsOf (l : List Nat) : List Str := l.foldl stepR [Str.ofString ""]
theorem addL_snoc (x r : Str) : ∀ d : List Str, addL x (d ++ [r]) = d ++ [r ++ x]
  | [] => rfl
  | [a] => rfl
  | a :: b :: t => by
    have ih := addL_snoc x r (b :: t)
    rw [List.cons_append, List.cons_append] at ih
    show a :: addL x (b :: (t ++ [r])) = _
    rw [ih]; rfl
def codesL (rs : List Str) : List (List Nat) := rs.map (·.cps.toList)
theorem runs_sp (l : List Nat) : ∀ (d : List Str) (r : Str), codesL (l.foldl stepR (d ++ [r])) = codesL d ++ (r.cps.toList ++ (sp l).1) :: (sp l).2 := by
  induction l with
  | nil => intro d r; simp [codesL, sp]
  | cons c t ih =>
    intro d r
    rw [List.foldl_cons]
    cases hk : KA c with
    | false =>
      have e : stepR (d ++ [r]) c = (d ++ [r]) ++ [Str.ofString ""] := by simp [stepR, hk]
      rw [sp_c0 hk, e, ih (d ++ [r]) (Str.ofString "")]
      have z : (Str.ofString "").cps.toList = [] := by decide
      simp [codesL, z]
    | true =>
      rw [sp_c1 hk]
      cases ha : AS c with
      | true =>
        have e : stepR (d ++ [r]) c = d ++ [r ++ ⟨#[c]⟩] := by simp [stepR, hk, ha, addL_snoc]
        rw [e, ih d (r ++ ⟨#[c]⟩), Str.cps_append]
        simp [sg, ha]
      | false =>
        have e : stepR (d ++ [r]) c = d ++ [r ++ Str.ofString " "] := by simp [stepR, hk, ha, addL_snoc]
        rw [e, ih d (r ++ Str.ofString " "), Str.cps_append]
        have z : (Str.ofString " ").cps.toList = [32] := by decide
        simp [sg, ha, z]
theorem runsOf_sp (l : List Nat) : codesL (runsOf l) = (sp l).1 :: (sp l).2 := by
  have h := runs_sp l [] (Str.ofString "")
  have z : (Str.ofString "").cps.toList = [] := by decide
  rw [z] at h
  simpa [runsOf, codesL] using h
def partsOf (rs : List Str) : List Str := (rs.filter fun r => r != Str.ofString "").map fun r => Txt.replace r (Str.ofString " ") (Str.ofString "")
def dropE (ps : List Str) : List Str := ps.dropWhile fun p => p == Str.ofString ""
theorem str_nil (r : Str) : (r != Str.ofString "") = (r.cps.toList != []) := by
  have e : Str.ofString "" = ⟨#[]⟩ := by decide
  rw [e]
  by_cases h : r = ⟨#[]⟩
  · subst h; rfl
  · have h2 : r.cps.toList ≠ [] := fun q => h (Str.ext' (by simpa using q))
    rw [bne_iff_ne.mpr h, bne_iff_ne.mpr h2]
theorem parts_prt (rs : List Str) : codesL (partsOf rs) = prt (codesL rs) := by
  have e1 : Str.ofString " " = ⟨#[32]⟩ := by decide
  have e2 : Str.ofString "" = ⟨#[]⟩ := by decide
  induction rs with
  | nil => rfl
  | cons r t ih =>
    unfold partsOf prt codesL at ih ⊢
    simp only [List.map_cons, List.filter_cons, str_nil] at ih ⊢
    cases hq : (r.cps.toList != []) with
    | false => simp only [Bool.false_eq_true, if_false]; exact ih
    | true =>
      simp only [if_true, List.map_cons]
      rw [ih, e1, e2, replace_strikes]
      rfl
theorem join_jn : ∀ ps : List Str, (Txt.join (Str.ofString "_") ps).cps.toList = match codesL ps with | [] => [] | q :: t => q ++ jn true t := by
  have u : (Str.ofString "_").cps.toList = [95] := by decide
  have aux : ∀ (ps : List Str) (p : Str), (Str.join (Str.ofString "_") (p :: ps)).cps.toList = p.cps.toList ++ jn true (codesL ps) := by
    intro ps
    induction ps with
    | nil => intro p; simp [Str.join, codesL, jn]
    | cons q t ih =>
      intro p
      show (p ++ Str.ofString "_" ++ Str.join (Str.ofString "_") (q :: t)).cps.toList = _
      rw [Str.cps_append, Str.cps_append, Array.toList_append, Array.toList_append, ih q, u]
      simp [codesL, jn]
  intro ps
  have e : Txt.join (Str.ofString "_") ps = Str.join (Str.ofString "_") ps := StrLaws.glued_eq_join _ _
  rw [e]
  cases ps with
  | nil => rfl
  | cons p t => exact aux t p
theorem drop_jn (ps : List Str) : (Txt.join (Str.ofString "_") (dropE ps)).cps.toList = jn false (codesL ps) := by
  rw [join_jn]
  induction ps with
  | nil => rfl
  | cons p t ih =>
    unfold dropE at ih ⊢
    rw [List.dropWhile_cons]
    have h := str_nil p
    cases hp : (p == Str.ofString "") with
    | true =>
      have hb : (p != Str.ofString "") = false := by simp [bne, hp]
      rw [hb] at h
      have hz : p.cps.toList = [] := by simpa using h.symm
      simp only [if_true]
      rw [ih]
      simp [codesL, jn, hz]
    | false =>
      have hb : (p != Str.ofString "") = true := by simp [bne, hp]
      rw [hb] at h
      have hz : p.cps.toList ≠ [] := by simpa using h.symm
      simp only [Bool.false_eq_true, if_false]
      simp [codesL, jn, hz]
theorem law01 (x : Str) : norm x = Txt.join (Str.ofString "_") (dropE (partsOf (runsOf x.cps.toList))) := by
  rw [norm_nf]
  refine Str.ext' (Array.toList_inj.mp ?_)
  rw [drop_jn, parts_prt, runsOf_sp, nf_law]
end Mine
namespace Mine
def RInv (text : Str) (runs : List Str) : Prop := runs = runsOf text.cps.toList ∧ 0 < runs.length ∧ runs.length ≤ text.length + 1
theorem rinv_start : (RInv (Str.ofString "") [Str.ofString ""] ∧ [Str.ofString ""].length ≤ 1 + (Str.ofString "").length) ∧ (Str.ofString "").length ≤ 6 * ([] : List Int).length := ⟨⟨⟨rfl, by decide, by decide⟩, by decide⟩, by decide⟩
theorem rinv_in {text : Str} {runs : List Str} {B : Nat} (h : RInv text runs) (h2 : runs.length ≤ 1 + text.length) (h3 : text.length ≤ B) : (RInv text runs ∧ runs.length ≤ 1 + text.length) ∧ text.length ≤ B + ([] : List Int).length := ⟨⟨h, h2⟩, h3⟩
theorem hide_bound {a p : Nat} (h : a ≤ 6 * p) : ∃ B, B = 6 * p ∧ a ≤ B := ⟨6 * p, rfl, h⟩
theorem range_has (r : Addr) (a b c x : Int) (t u v tx : Tok) :
    Meets (Builtin.«range.__contains__» ⟨[.ref r, .int x tx], []⟩) (fun _ R s => s.heap.get? r = some { cls := .type "range", dict := none, data := .fields #[.int a t, .int b u, .int c v], slots := #[] } ∧ R (.ok (.ret (.bool (Builtin.Range.rangePlace? a b c x).isSome))) s) :=
  .of_wp fun prog w A R s h => by obtain ⟨hp, g, d, tk, os⟩ := s; obtain ⟨hl, h⟩ := h; wp_walk; exact ⟨_, rfl, h⟩
theorem place_one (a b x : Int) : (Builtin.Range.rangePlace? a b 1 x).isSome = decide (a ≤ x ∧ x < b) := by
  unfold Builtin.Range.rangePlace?
  have e : (x - a) % 1 = 0 := Int.emod_one _
  simp only [show (1 : Int) > 0 by decide, if_true, e]
  by_cases h1 : a ≤ x <;> by_cases h2 : x < b <;> simp [h1, h2]
theorem in_range {prog : Program} {w : World} {A : Around} {E : Value → Shared → Prop} {s : Shared} {Q : Value → Shared → Prop} {r : Addr} {a b x : Int} {t u v tx : Tok}
    (hr : IsRange s.heap r a b 1 t u v) (h : Q (.bool (decide (a ≤ x ∧ x < b))) s) : wpAny (model prog w) A (compareOp .In (.int x tx) (.ref r)) Q E s :=
  SeqRoads2.in_meets ⟨_, hr, rfl⟩ F.slot_range_contains F.entry_range_contains (F.args_range_contains_2 _ _) (range_has r a b 1 x t u v tx) ⟨hr, _, rfl, by rw [place_one]; exact h⟩
end Mine
namespace Mine
theorem addL_len (x : Str) (hx : x.length = 1) (n : Nat) : ∀ rs : List Str, (∀ r ∈ rs, r.length ≤ n) → ∀ r ∈ addL x rs, r.length ≤ n + 1
  | [], _, r, h => nomatch h
  | [a], h, r, hr => by
    have := h a (.head _)
    rw [List.mem_singleton.mp hr, Str.length_append]
    omega
  | a :: b :: t, h, r, hr => by
    rcases List.mem_cons.mp hr with rfl | hr
    · exact Nat.le_succ_of_le (h _ (.head _))
    · exact addL_len x hx n (b :: t) (fun q hq => h q (.tail _ hq)) r hr
theorem run_len (l : List Nat) : ∀ (rs : List Str) (n : Nat), (∀ r ∈ rs, r.length ≤ n) → ∀ r ∈ l.foldl stepR rs, r.length ≤ n + l.length := by
  induction l with
  | nil => intro rs n h r hr; exact h r hr
  | cons c t ih =>
    intro rs n h r hr
    rw [List.foldl_cons] at hr
    have h1 : ∀ r ∈ stepR rs c, r.length ≤ n + 1 := by
      unfold stepR
      cases KA c
      · intro q hq
        simp only [Bool.false_eq_true, if_false] at hq
        rcases List.mem_append.mp hq with hq | hq
        · exact Nat.le_succ_of_le (h q hq)
        · rw [List.mem_singleton.mp hq]
          have z : (Str.ofString "").length = 0 := by decide
          omega
      · cases AS c
        · exact addL_len _ (by decide) n rs h
        · exact addL_len _ rfl n rs h
    have := ih _ _ h1 r hr
    rw [List.length_cons]
    omega
theorem RInv.pos {text : Str} {runs : List Str} (h : RInv text runs) : 0 < runs.length := h.2.1
theorem rinv_run {text : Str} {runs : List Str} (h : RInv text runs) : ∀ r ∈ runs, r.length ≤ text.length := by
  intro r hr
  rw [h.1] at hr
  have h1 : ∀ r ∈ [Str.ofString ""], r.length ≤ 0 := by
    intro r hr
    rw [List.mem_singleton.mp hr]
    decide
  have := run_len text.cps.toList [Str.ofString ""] 0 h1 r hr
  have e : text.cps.toList.length = text.length := by simp [Str.length]
  omega
theorem strs_last {r : Str} : ∀ {vs : List Value} {xs : List Str}, StrsAre vs xs → xs.getLast? = some r → ∃ t, vs[vs.length - 1]? = some (.str r t)
  | _, _, .nil, h => by simp at h
  | _, _, .cons y t .nil, h => by
    simp at h
    subst h
    exact ⟨t, rfl⟩
  | _, _, .cons y t (.cons z u q), h => by
    rw [List.getLast?_cons_cons] at h
    obtain ⟨t', e⟩ := strs_last (.cons z u q) h
    refine ⟨t', ?_⟩
    simpa using e
theorem set_last_cons (a b x : Value) (l : List Value) : (a :: b :: l).set ((a :: b :: l).length - 1) x = a :: (b :: l).set ((b :: l).length - 1) x := by simp
theorem strs_setLast {x : Str} {u : Tok} : ∀ {vs : List Value} {xs : List Str}, StrsAre vs xs → 0 < xs.length → StrsAre (vs.set (vs.length - 1) (.str x u)) (xs.dropLast ++ [x])
  | _, _, .nil, h => absurd h (by simp)
  | _, _, .cons y t .nil, _ => .cons x u .nil
  | _, _, .cons y t (.cons z v q), _ => by
    have ih := strs_setLast (x := x) (u := u) (.cons z v q) (by simp)
    rw [set_last_cons]
    exact .cons y t ih
section
variable {prog : Program} {w : World} {A : Around} {E : Value → Shared → Prop} {s : Shared} {h₀ : Heap} {L D : Addr} {m : Str → Option Value} {news news' : List (Addr × Obj)} {vs : List Value} {runs : List Str} {n : Nat} {t u : Tok}
theorem last_get {text : Str} {Q : Value → Shared → Prop} (hl : s.heap.IsList D vs.toArray) (S : StrsAre vs runs) (R : RInv text runs) (hs : runs.length ≤ 100000)
    (h : ∀ r t', runs.getLast? = some r → r.length ≤ text.length → Q (.str r t') s) : wpAny (model prog w) A (getItem (.ref D) (.int (-1) t)) Q E s := by
  have hp := R.2.1
  obtain ⟨r, hr⟩ : ∃ r, runs.getLast? = some r := ⟨runs.getLast (List.ne_nil_of_length_pos hp), List.getLast?_eq_some_getLast _⟩
  obtain ⟨t', e⟩ := strs_last S hr
  have hlen := S.length
  refine wpAny_getItem_list_neg (x := .str r t') hl (by decide) ?_ (by decide) ?_ (h r t' hr (rinv_run R r (List.mem_of_getLast? hr)))
  · simp only [List.size_toArray]; omega
  · have e2 : (-1 + ((vs.toArray.size : Nat) : Int)).toNat = vs.length - 1 := by simp only [List.size_toArray]; omega
    rw [e2]
    simpa using e
theorem setAt_last {items : Array Value} {v : Value} {Q : Unit → Shared → Prop} (ho : s.heap.get? D = some (W.listOf items n)) (h0 : 0 < items.size) (hfit : items.size < 2 ^ 62)
    (hQ : Q () { s with heap := s.heap.update D (Obj.mapSeq (·.setIfInBounds (items.size - 1) v)) }) : wpAny (model prog w) A (setItem (.ref D) (.int (-1) t) v) Q E s := by
  have hl : s.heap.IsList D items := PySem.IsL.isList (n := n) ho
  unfold setItem
  try with_reducible refine wpAny_holding ?_
  first | refine wpAny_bind (wpAny_pure ?_) | skip
  refine wpAny_bind (wpAny_sequenceKey hl.typeIs (by decide) ?_)
  refine wpAny_bind (wpAny_callSpecial?_slot (name := Str.ofString "__setitem__") hl.typeIs slot_list_setitem
    (wpAny_call_entry slot_list_setitem hl.typeIs entry_list_setitem ?_ (args_list_setitem _ _ _)))
  show wpAny _ _ (Builtin.List.listSubscript? (.int (-1) t) >>= _) _ _ s
  refine wpAny_bind (wpAny_listSubscript_int (fitsIndex_neg (by decide) (by decide)) ?_)
  have hidx := seqIndex_neg (k := -1) (n := items.size) (by decide) (by omega)
  have e2 : (-1 + (items.size : Int)).toNat = items.size - 1 := by omega
  rw [e2] at hidx
  have hx' : items[items.size - 1]? = some items[items.size - 1] := Array.getElem?_eq_getElem (by omega)
  show wpAny _ _ ((Builtin.List.listItems (.ref D) >>= fun xs => pure ((seqIndex? (-1) xs.size).bind fun i => xs[i]?.map (i, ·))) >>= _) _ _ s
  refine wpAny_bind (wpAny_bind ?_)
  show wpAny _ _ (seqItems? (.ref D) >>= _) _ _ s
  refine wpAny_bind (wpAny_seqItems ho rfl (wpAny_pure (wpAny_pure ?_)))
  rw [hidx]
  simp only [Option.bind_some, hx', Option.map_some]
  refine wpAny_bind (wpAny_setSeqItemAt ho rfl ?_)
  first
    | exact wpAny_bind (wpAny_pure (wpAny_pure ⟨.none, rfl, wpAny_pure hQ⟩))
    | exact wpAny_pure ⟨.none, rfl, wpAny_pure hQ⟩
theorem last_set {x : Str} {Q : Unit → Shared → Prop} (F : Fr h₀ L s.heap m) (Nw : News h₀ L s.heap news) (S : StrsAre vs runs) (hp : 0 < runs.length) (hs : runs.length ≤ 100000)
    (U : Upd D (W.listOf vs.toArray n) (W.listOf (vs.set (vs.length - 1) (.str x u)).toArray n) news news')
    (h : ∀ h' vs', vs' = vs.set (vs.length - 1) (.str x u) → StrsAre vs' (runs.dropLast ++ [x]) → Fr h₀ L h' m → News h₀ L h' news' → Q () { s with heap := h' }) : wpAny (model prog w) A (setItem (.ref D) (.int (-1) t) (.str x u)) Q E s := by
  obtain ⟨pre, post, rfl, rfl, a, b⟩ := U.split
  have z := Nw (D, W.listOf vs.toArray n) (List.mem_append.mpr (.inr (.head _)))
  have hlen := S.length
  refine setAt_last z.1 (by simp only [List.size_toArray]; omega) (by simp only [List.size_toArray]; omega) (h _ _ rfl (strs_setLast S hp) (F.change (Heap.SameBut.update ..) z.2.1 z.2.2) (ki_turn _ Nw a b ?_ ?_))
  · simp
  · rw [if_pos (by simp)]
end
end Mine
namespace Mine
theorem stepR_len (runs : List Str) (c : Nat) (h : 0 < runs.length) : 0 < (stepR runs c).length ∧ (stepR runs c).length ≤ runs.length + 1 := by
  have ha : ∀ (x : Str) (rs : List Str), (addL x rs).length = rs.length := by
    intro x rs
    induction rs with
    | nil => rfl
    | cons a t ih => cases t with
      | nil => rfl
      | cons b u => simpa [addL] using ih
  unfold stepR
  cases KA c
  · simp
  · cases AS c <;> simp [ha] <;> omega
theorem rinv_step {text : Str} {runs : List Str} (h : RInv text runs) (c : Nat) : RInv (text ++ ⟨#[c]⟩) (stepR runs c) := by
  obtain ⟨h1, h2, h3⟩ := h
  have hl := stepR_len runs c h2
  refine ⟨?_, hl.1, ?_⟩
  · have e : (text ++ (⟨#[c]⟩ : Str)).cps.toList = text.cps.toList ++ [c] := by rw [Str.cps_append]; simp
    rw [e, h1]
    unfold runsOf
    rw [List.foldl_append]
    rfl
  · rw [Str.length_append]
    have : (⟨#[c]⟩ : Str).length = 1 := rfl
    omega
theorem addL_last {x r : Str} : ∀ {runs : List Str}, runs.getLast? = some r → addL x runs = runs.dropLast ++ [r ++ x] := by
  intro runs h
  obtain ⟨d, rfl⟩ : ∃ d, runs = d ++ [r] := by
    rcases List.eq_nil_or_concat runs with rfl | ⟨d, b, rfl⟩
    · simp at h
    · rw [List.concat_eq_append] at h ⊢
      have : b = r := by simpa using h
      exact ⟨d, by rw [this]⟩
  rw [addL_snoc]
  simp
section
variable {text r : Str} {runs : List Str} {c : Nat} {M : Nat}
theorem wr_end {runs' : List Str} (h : RInv text runs) (e : stepR runs c = runs') (hM : text.length + 1 ≤ M) : (RInv (text ++ ⟨#[c]⟩) runs' ∧ runs'.length ≤ 1 + (text ++ (⟨#[c]⟩ : Str)).length) ∧ (text ++ (⟨#[c]⟩ : Str)).length ≤ M := by
  have q := rinv_step h c
  rw [e] at q
  have e1 : (text ++ (⟨#[c]⟩ : Str)).length = text.length + 1 := by rw [Str.length_append]; rfl
  refine ⟨⟨q, ?_⟩, by omega⟩
  have := q.2.2
  omega
theorem wr_kept (h : RInv text runs) (hr : runs.getLast? = some r) (hk : KA c = true) (ha : AS c = true) (hM : text.length + 1 ≤ M) :
    (RInv (text ++ ⟨#[c]⟩) (runs.dropLast ++ [r ++ ⟨#[c]⟩]) ∧ (runs.dropLast ++ [r ++ (⟨#[c]⟩ : Str)]).length ≤ 1 + (text ++ (⟨#[c]⟩ : Str)).length) ∧ (text ++ (⟨#[c]⟩ : Str)).length ≤ M :=
  wr_end h (by unfold stepR; rw [hk, ha, if_pos rfl, if_pos rfl, addL_last hr]) hM
theorem wr_bey (h : RInv text runs) (hr : runs.getLast? = some r) (hk : KA c = true) (ha : AS c = false) (hM : text.length + 1 ≤ M) :
    (RInv (text ++ ⟨#[c]⟩) (runs.dropLast ++ [r ++ Str.ofString " "]) ∧ (runs.dropLast ++ [r ++ Str.ofString " "]).length ≤ 1 + (text ++ (⟨#[c]⟩ : Str)).length) ∧ (text ++ (⟨#[c]⟩ : Str)).length ≤ M :=
  wr_end h (by unfold stepR; rw [hk, ha, if_pos rfl, if_neg (by decide), addL_last hr]) hM
theorem wr_none (h : RInv text runs) (hk : KA c = false) (hM : text.length + 1 ≤ M) :
    (RInv (text ++ ⟨#[c]⟩) (runs ++ [Str.ofString ""]) ∧ (runs ++ [Str.ofString ""]).length ≤ 1 + (text ++ (⟨#[c]⟩ : Str)).length) ∧ (text ++ (⟨#[c]⟩ : Str)).length ≤ M :=
  wr_end h (by unfold stepR; rw [hk, if_neg (by decide)]) hM
theorem wr_over {B : Nat} (h : RInv text runs) (h2 : runs.length ≤ 1 + text.length) (h3 : text.length ≤ B) (hM : B ≤ M) : (RInv text runs ∧ runs.length ≤ 1 + text.length) ∧ text.length ≤ M := ⟨⟨h, h2⟩, Nat.le_trans h3 hM⟩
end
theorem fm160 (y : Int) : 0 ≤ y.fmod 160 ∧ y.fmod 160 < 160 := ⟨Int.fmod_nonneg_of_pos y (by decide), Int.fmod_lt_of_pos y (by decide)⟩
theorem KA_of {k : Int} (h0 : 0 ≤ k) (h1 : k < 128) (h : k = 46 ∨ (48 ≤ k ∧ k < 58) ∨ (65 ≤ k ∧ k < 91) ∨ (97 ≤ k ∧ k < 123)) : KA k.toNat = true := by
  have q : ∀ c, c < 128 → (c = 46 ∨ (48 ≤ c ∧ c < 58) ∨ (65 ≤ c ∧ c < 91) ∨ (97 ≤ c ∧ c < 123)) → KA c = true := by decide +kernel
  exact q k.toNat (by omega) (by omega)
theorem KA_not {k : Int} (h0 : 0 ≤ k) (h1 : k < 128) (h : ¬ (k = 46 ∨ (48 ≤ k ∧ k < 58) ∨ (65 ≤ k ∧ k < 91) ∨ (97 ≤ k ∧ k < 123))) : KA k.toNat = false := by
  have q : ∀ c, c < 128 → ¬ (c = 46 ∨ (48 ≤ c ∧ c < 58) ∨ (65 ≤ c ∧ c < 91) ∨ (97 ≤ c ∧ c < 123)) → KA c = false := by decide +kernel
  exact q k.toNat (by omega) (by omega)
theorem AS_int {k : Int} (h0 : 0 ≤ k) (h1 : k < 128) : AS k.toNat = true := by
  have q : ∀ c, c < 128 → AS c = true := by decide +kernel
  exact q k.toNat (by omega)
abbrev beyS : Str := Str.ofString "éßñÿªºµ²³¹½¼¾Ωж中\u00a0´×÷¿«–€…\u200b́\u0085\u00ad\u3000©®"
theorem bey_at {k : Int} (h0 : 128 ≤ k) : Txt.item beyS (k - 128) = ⟨#[(Txt.charAt beyS (((k - 128).toNat : Nat) : Int)).getD 0]⟩ := by
  have e : (((k - 128).toNat : Nat) : Int) = k - 128 := by omega
  rw [e]; rfl
theorem bey_kept {k : Int} (h0 : 128 ≤ k) (h1 : k < 144) : ∃ c, Txt.item beyS (k - 128) = ⟨#[c]⟩ ∧ KA c = true ∧ AS c = false := by
  have q : ∀ j, j < 16 → KA ((Txt.charAt beyS ((j : Nat) : Int)).getD 0) = true ∧ AS ((Txt.charAt beyS ((j : Nat) : Int)).getD 0) = false := by decide +kernel
  exact ⟨_, bey_at h0, (q _ (by omega)).1, (q _ (by omega)).2⟩
theorem bey_none {k : Int} (h0 : 144 ≤ k) (h1 : k < 160) : ∃ c, Txt.item beyS (k - 128) = ⟨#[c]⟩ ∧ KA c = false := by
  have q : ∀ j, j < 32 → 16 ≤ j → KA ((Txt.charAt beyS ((j : Nat) : Int)).getD 0) = false := by decide +kernel
  exact ⟨_, bey_at (by omega), q _ (by omega) (by omega)⟩
section
variable {text r sg : Str} {runs : List Str} {M : Nat}
theorem wr_beyI (h : RInv text runs) (hr : runs.getLast? = some r) (hb : ∃ c, sg = ⟨#[c]⟩ ∧ KA c = true ∧ AS c = false) (hM : text.length + 1 ≤ M) :
    (RInv (text ++ sg) (runs.dropLast ++ [r ++ Str.ofString " "]) ∧ (runs.dropLast ++ [r ++ Str.ofString " "]).length ≤ 1 + (text ++ sg).length) ∧ (text ++ sg).length ≤ M := by
  obtain ⟨c, rfl, hk, ha⟩ := hb
  exact wr_bey h hr hk ha hM
theorem wr_noneI (h : RInv text runs) (hb : ∃ c, sg = ⟨#[c]⟩ ∧ KA c = false) (hM : text.length + 1 ≤ M) :
    (RInv (text ++ sg) (runs ++ [Str.ofString ""]) ∧ (runs ++ [Str.ofString ""]).length ≤ 1 + (text ++ sg).length) ∧ (text ++ sg).length ≤ M := by
  obtain ⟨c, rfl, hk⟩ := hb
  exact wr_none h hk hM
end
theorem sz_one {x : Str} {c : Nat} (h : x.length ≤ 1000000) : x.length + (⟨#[c]⟩ : Str).length ≤ sizeLine := by
  have e : (⟨#[c]⟩ : Str).length = 1 := rfl
  rw [sizeLine_eq, e]; omega
theorem sz_sp {x : Str} (h : x.length ≤ 1000000) : x.length + (Str.ofString " ").length ≤ sizeLine := by
  have e : (Str.ofString " ").length = 1 := by decide
  rw [sizeLine_eq, e]; omega
end Mine
namespace Mine
theorem rep_step {prog : Program} {w : World} {A : Around} {E : Value → Shared → Prop} {s : Shared} {Q : Value → Shared → Prop} {x : Str} {t : Tok} {u : Nat} (hx : x.length ≤ 1048576)
    (h : ∀ t' k, Q (.str (Txt.replace x (Str.ofString " ") (Str.ofString "")) t') { s with toks := k }) :
    wpAny (model prog w) A (call (.builtin "str.replace") [.str x t, .str (Str.ofString " ") (u + 1), .str (Str.ofString "") (u + 1 + 1)]) Q E s :=
  SC.replaceW (u := u + 1) (v := u + 1 + 1) (show u + 1 ≠ 0 by omega) (show u + 1 + 1 ≠ 0 by omega) (show u + 1 ≠ u + 1 + 1 by omega) (by decide) hx (by decide) h
/-- an element of a comprehension over texts: taken, left -/
def CsEl (news : List (Addr × Obj)) (b : Str → Bool) (g : Str → Str) (a : Str) (y : Value) (news' : List (Addr × Obj)) : Prop := news' = news ∧ b a = true ∧ ∃ t : Tok, y = .str (g a) t
def CsNo (news : List (Addr × Obj)) (b : Str → Bool) (a : Str) (news' : List (Addr × Obj)) : Prop := news' = news ∧ b a = false
theorem strs_at : ∀ {vs : List Value} {xs : List Str}, StrsAre vs xs → ∀ (i : Nat) (v : Value), vs[i]? = some v → ∃ a t, v = .str a t ∧ xs[i]? = some a := fun h i v e => h.item i v e
section
variable {prog : Program} {w : World} {A : Around} {h₀ : Heap} {L : Addr} {m : Str → Option Value} {env : Env} {ct elt : Expr} {x : Str} {scope : Scope} {cl : List (Str × Addr)} {s : Shared} {S : List (Addr × Obj) → Prop} {Fin : List Value → List (Addr × Obj) → Prop} {news : List (Addr × Obj)}
theorem cs_list {vs : List Value} {xs : List Str} (b : Str → Bool) (g : Str → Str) (hi : StrsAre vs xs)
    (turn : ∀ (a : Str) (t : Tok) I oI C oC D m₂ ys h tk (E' : Value → Shared → Prop), a ∈ xs → LCg.NsObj oC m₂ → m₂ x = some (.str a t) → Fr h₀ L h m → News h₀ L h ((I, oI) :: (C, oC) :: (D, LCg.lst ys) :: news) → LCg.Off3 I C D news → ((@Ne Nat I C) ∧ (@Ne Nat I D) ∧ (@Ne Nat C D)) →
      wpAny (model prog w) A (isTrue ct (compEnvC scope cl C env) (eval ct (compEnvC scope cl C env))) (fun ok s' => if ok = true then
        wpAny (model prog w) A (eval elt (compEnvC scope cl C env)) (LCg.CompEnd h₀ L m { s with heap := h, toks := tk } I oI C oC D (LCg.lst ys) S (fun y news' => CsEl news b g a y news')) E' s'
        else LCg.CompEnd h₀ L m { s with heap := h, toks := tk } I oI C oC D (LCg.lst ys) S (fun _ news' => CsNo news b a news') Value.none s') E' { s with heap := h, toks := tk })
    (fin : ∀ ys, StrsAre ys ((xs.filter b).map g) → Fin ys news) : LCt.CompRestT prog w A h₀ L m env ct elt x scope cl s S (fun i v => vs.toArray[i]? = some v) Fin vs.toArray.size 0 [] news := by
  have hlen : vs.toArray.size = xs.length := by rw [List.size_toArray]; exact hi.length
  have key : ∀ (j i : Nat) (ys : List Value), i + j = xs.length → StrsAre ys (((xs.take i).filter b).map g) → LCt.CompRestT prog w A h₀ L m env ct elt x scope cl s S (fun i v => vs.toArray[i]? = some v) Fin j i ys news := by
    intro j
    induction j with
    | zero =>
      intro i ys hij hy
      have e : xs.take i = xs := List.take_of_length_le (by omega)
      rw [e] at hy
      exact LCt.CompRestT.zero (fin ys hy)
    | succ j ih =>
      intro i ys hij hy
      refine LCt.CompRestT.succ fun v I oI C oC D m₂ h tk E' hv hC hx F N off ne => ?_
      obtain ⟨a, t, rfl, ha⟩ := strs_at hi i v (by simpa using hv)
      have hnext : xs.take (i + 1) = xs.take i ++ [a] := by rw [List.take_add_one, ha]; rfl
      refine wpAny_mono (turn a t I oI C oC D m₂ ys h tk E' (List.mem_of_getElem? ha) hC hx F N off ne) (fun ok s₂ q => ?_) fun _ _ e => e
      cases ok with
      | true =>
        simp only [if_true] at q ⊢
        refine wpAny_mono q (fun y s₃ r => ?_) fun _ _ e => e
        obtain ⟨h', tk', nw, e, F', N', off', hS, rfl, hb, t', rfl⟩ := r
        refine ⟨h', tk', nw, e, F', N', off', hS, ih (i + 1) _ (by omega) ?_⟩
        rw [hnext, List.filter_append, List.map_append]
        have e2 : ([a].filter b).map g = [g a] := by simp [hb]
        rw [e2]
        exact StrsAre.append' hy (.cons _ _ .nil)
      | false =>
        simp only [Bool.false_eq_true, if_false] at q ⊢
        obtain ⟨h', tk', nw, e, F', N', off', hS, rfl, hb⟩ := q
        refine ⟨h', tk', nw, e, F', N', off', hS, ih (i + 1) _ (by omega) ?_⟩
        rw [hnext, List.filter_append, List.map_append]
        have e2 : ([a].filter b).map g = [] := by simp [hb]
        rw [e2, List.append_nil]
        exact hy
  rw [hlen]
  exact key xs.length 0 [] (by omega) .nil
end
end Mine
namespace Mine
abbrev pN : Str := Str.ofString "parts"
/-- behind a turn of the while: a shorter list under the name -/
def WhEnd (h₀ : Heap) (L : Addr) (s : Shared) (rest : List (Addr × Obj)) (m₀ : Str → Option Value) (ps : List Str) (k : Nat) (f : Flow) (s₂ : Shared) : Prop :=
  f = .next ∧ ∃ (D : Addr) (vs : List Value) (qs : List Str) (n : Nat) (h : Heap) (tk : Nat), s₂ = { s with heap := h, toks := tk } ∧ Fr h₀ L h (fun z => if z = pN then some (.ref D) else m₀ z) ∧ News h₀ L h ((D, W.listOf vs.toArray n) :: rest) ∧ StrsAre vs qs ∧ dropE qs = dropE ps ∧ qs.length < k
section
variable {prog : Program} {w : World} {A : Around} {E : Value → Shared → Prop} {Q : Flow → Shared → Prop} {s : Shared} {env : Env} {h₀ : Heap} {L : Addr}
theorem while_parts {test : Expr} {body : List Stmt} {pos : Pos} {m₀ : Str → Option Value} {rest : List (Addr × Obj)} {zs : List Value} {ps : List Str} {D : Addr} {n : Nat}
    (F : Fr h₀ L s.heap (fun z => if z = pN then some (.ref D) else m₀ z)) (N : News h₀ L s.heap ((D, W.listOf zs.toArray n) :: rest)) (S : StrsAre zs ps) (hB : ps.length ≤ 100000)
    (turn : ∀ (D' : Addr) (vs : List Value) (qs : List Str) (n' : Nat) (h : Heap) (tk : Nat), StrsAre vs qs → vs.length ≤ 100000 → dropE qs = dropE ps → Fr h₀ L h (fun z => if z = pN then some (.ref D') else m₀ z) → News h₀ L h ((D', W.listOf vs.toArray n') :: rest) →
      wpAny (model prog w) A (isTrue test env (eval test env)) (fun b s₂ =>
        if b = true then wpAny (model prog w) A (execs body env) (WhEnd h₀ L s rest m₀ ps qs.length) E s₂ else Q .next s₂) E { s with heap := h, toks := tk })
    (hE : PassesOwn (model prog w) A env E := by passes_own) :
    wpAny (model prog w) A (exec (.While test body [] pos) env) Q E s := by
  refine ksw_while (σ := Addr × List Value × List Str × Nat) (m₀ := fun z => if z = pN then some (.ref D) else m₀ z) (fun c => (c.1, W.listOf c.2.1.toArray c.2.2.2) :: rest) (fun c => [(pN, .ref c.1)]) (fun c => StrsAre c.2.1 c.2.2.1) [] (fun c => dropE c.2.2.1 = dropE ps ∧ c.2.2.1.length ≤ ps.length) (fun c => c.2.2.1.length) (D, zs, ps, n)
    F N S (fun p hp => by rw [List.mem_singleton.mp hp]; simp) ⟨rfl, Nat.le_refl _⟩ (fun c u h tk hS hP F' N' => ?_) hE
  have em : kstB (fun z => if ([] : List Str).contains z then u z else (fun z => if z = pN then some (Value.ref D) else m₀ z) z) [(pN, Value.ref c.1)] = fun z => if z = pN then some (.ref c.1) else m₀ z := by
    funext z
    by_cases hz : z = pN <;> simp [kstB, hz]
  rw [em] at F'
  refine wpAny_mono (turn c.1 c.2.1 c.2.2.1 c.2.2.2 h tk hS (by have := hS.length; have := hP.2; omega) hP.1 F' N') (fun b s₂ q => ?_) fun _ _ x => x
  cases b with
  | false => simpa using q
  | true =>
    simp only [if_true] at q ⊢
    refine wpAny_mono q (fun f s₃ r => ?_) fun _ _ x => x
    obtain ⟨rfl, D2, vs2, qs2, n2, h2, tk2, rfl, F2, N2, S2, e2, l2⟩ := r
    exact ksw_end (D2, vs2, qs2, n2) F2 N2 (fun p hp => hp) S2 (fun p hp => by rw [List.mem_singleton.mp hp]; simp) (fun z hz _ => by
      have hz' : z ≠ pN := hz _ (List.mem_singleton.mpr rfl)
      simp [hz']) ⟨e2, by have := hP.2; show qs2.length ≤ ps.length; omega⟩ l2
theorem whEnd_intro {m₀ : Str → Option Value} {rest all : List (Addr × Obj)} {ps qs : List Str} {D D1 : Addr} {vs : List Value} {n k tk : Nat} {h : Heap}
    (F : Fr h₀ L h (fun z => if z = pN then some (.ref D) else if z = pN then some (.ref D1) else m₀ z)) (N : News h₀ L h all) (sub : ∀ p ∈ (D, W.listOf vs.toArray n) :: rest, p ∈ all) (S : StrsAre vs qs) (e : dropE qs = dropE ps) (l : qs.length < k) :
    WhEnd h₀ L s rest m₀ ps k .next { s with heap := h, toks := tk } := by
  have em : (fun z => if z = pN then some (Value.ref D) else if z = pN then some (.ref D1) else m₀ z) = fun z => if z = pN then some (.ref D) else m₀ z := by
    funext z
    by_cases hz : z = pN <;> simp [hz]
  rw [em] at F
  exact ⟨rfl, D, vs, qs, n, h, tk, rfl, F, fun p hp => N p (sub p hp), S, e, l⟩
end
theorem dropE_cons {q : Str} {qs : List Str} (h : (q == Str.ofString "") = true) : dropE (q :: qs) = dropE qs := by
  unfold dropE; rw [List.dropWhile_cons, h]; simp
theorem dropE_stop {q : Str} {qs : List Str} (h : (q == Str.ofString "") = false) : dropE (q :: qs) = q :: qs := by
  unfold dropE; rw [List.dropWhile_cons, h]; simp
end Mine
namespace Mine
section
variable {prog : Program} {w : World} {A : Around} {E : Value → Shared → Prop} {Q : Value → Shared → Prop} {s : Shared}
theorem ne_nil {D e : Addr} {vs : List Value} {qs : List Str} (hl : s.heap.IsList D vs.toArray) (hb : s.heap.IsList e #[]) (S : StrsAre vs qs) (hu : A.units < cLine)
    (h1 : ∀ q t tq vs', vs = .str q tq :: vs' → qs = q :: t → StrsAre vs' t → Q (.bool true) s) (h2 : vs = [] → qs = [] → Q (.bool false) s) : wpAny (model prog w) A (compareOp .NotEq (.ref D) (.ref e)) Q E s := by
  show wpAny (model prog w) A (richCompare .NotEq (.ref D) (.ref e)) Q E s
  cases S with
  | nil =>
    have q := SeqAt.RcNeAt.lists (e := fun _ => true) hl hb rfl hu (fun j h1 _ => absurd h1 (by simp))
    exact q prog w E Q (by simpa using h2 rfl rfl)
  | cons q tq S' =>
    exact SeqAt.RcNeAt.lists_lengths hl hb (by simp) hu prog w E Q (h1 _ _ _ _ rfl rfl S')
end
theorem pick1 (v : Value) (vs : List Value) : (slicePick (v :: vs).toArray (some 1) none none).toList = vs := by
  rw [kms_pick_eq]
  simp [kms_pick, kms_lo, kms_hi]
theorem flt_len (b : Str → Bool) (g : Str → Str) (l : List Str) : ((l.filter b).map g).length ≤ l.length := by
  rw [List.length_map]; exact List.length_filter_le _ _
theorem whEnd_1 {s : Shared} {h₀ : Heap} {L : Addr} {m₀ : Str → Option Value} {rest all : List (Addr × Obj)} {ps t : List Str} {q : Str} {D D1 : Addr} {vs : List Value} {n tk : Nat} {h : Heap}
    (F : Fr h₀ L h (fun z => if z = pN then some (.ref D) else if z = pN then some (.ref D1) else m₀ z)) (N : News h₀ L h all) (sub : ∀ p ∈ (D, W.listOf vs.toArray n) :: rest, p ∈ all) (S : StrsAre vs t) (hd : dropE (q :: t) = dropE ps) (hq : (q == Str.ofString "") = true) :
    WhEnd h₀ L s rest m₀ ps (q :: t).length .next { s with heap := h, toks := tk } :=
  whEnd_intro F N sub S ((dropE_cons hq).symm.trans hd) (Nat.lt_succ_self _)
theorem led_hide {h₀ h : Heap} {L : Addr} {l : List (Addr × Obj)} (N : News h₀ L h l) : ∃ l', l' = l ∧ News h₀ L h l' := ⟨l, rfl, N⟩
end Mine
namespace Mine
/-- where the while ends -/
def WhOut (h₀ : Heap) (L : Addr) (s : Shared) (rest : List (Addr × Obj)) (m₀ : Str → Option Value) (ps : List Str) (f : Flow) (s₂ : Shared) : Prop :=
  f = .next ∧ ∃ (D : Addr) (vs : List Value) (n : Nat) (h : Heap) (tk : Nat), s₂ = { s with heap := h, toks := tk } ∧ Fr h₀ L h (fun z => if z = pN then some (.ref D) else m₀ z) ∧ News h₀ L h ((D, W.listOf vs.toArray n) :: rest) ∧ StrsAre vs (dropE ps)
section
variable {prog : Program} {w : World} {A : Around} {E : Value → Shared → Prop} {Q : Flow → Shared → Prop} {s : Shared} {env : Env} {h₀ : Heap} {L : Addr}
theorem while_cut {test : Expr} {body : List Stmt} {pos : Pos} {m₀ : Str → Option Value} {rest : List (Addr × Obj)} {zs : List Value} {rs : List Str} {D : Addr} {n : Nat}
    (F : Fr h₀ L s.heap (fun z => if z = pN then some (.ref D) else m₀ z)) (N : News h₀ L s.heap ((D, W.listOf zs.toArray n) :: rest)) (S : StrsAre zs (partsOf rs)) (hB : rs.length ≤ 100000)
    (turn : ∀ (D' : Addr) (vs : List Value) (qs : List Str) (n' : Nat) (h : Heap) (tk : Nat), StrsAre vs qs → vs.length ≤ 100000 → dropE qs = dropE (partsOf rs) → Fr h₀ L h (fun z => if z = pN then some (.ref D') else m₀ z) → News h₀ L h ((D', W.listOf vs.toArray n') :: rest) →
      wpAny (model prog w) A (isTrue test env (eval test env)) (fun b s₂ =>
        if b = true then wpAny (model prog w) A (execs body env) (WhEnd h₀ L s rest m₀ (partsOf rs) qs.length) E s₂ else WhOut h₀ L s rest m₀ (partsOf rs) .next s₂) E { s with heap := h, toks := tk })
    (done : ∀ (D' : Addr) (vs : List Value) (n' : Nat) (h : Heap) (tk : Nat), StrsAre vs (dropE (partsOf rs)) → Fr h₀ L h (fun z => if z = pN then some (.ref D') else m₀ z) → News h₀ L h ((D', W.listOf vs.toArray n') :: rest) → Q .next { s with heap := h, toks := tk })
    (hE : PassesOwn (model prog w) A env E := by passes_own) :
    wpAny (model prog w) A (exec (.While test body [] pos) env) Q E s := by
  refine wpAny_mono (while_parts (Q := WhOut h₀ L s rest m₀ (partsOf rs)) F N S (Nat.le_trans (flt_len _ _ _) hB) turn hE) (fun f s₂ q => ?_) fun _ _ x => x
  obtain ⟨rfl, D', vs, n', h, tk, rfl, F', N', S'⟩ := q
  exact done D' vs n' h tk S' F' N'
theorem whOut_stop {m₀ : Str → Option Value} {rest all : List (Addr × Obj)} {ps t : List Str} {q : Str} {D : Addr} {vs : List Value} {n tk : Nat} {h : Heap}
    (F : Fr h₀ L h (fun z => if z = pN then some (.ref D) else m₀ z)) (N : News h₀ L h all) (sub : ∀ p ∈ (D, W.listOf vs.toArray n) :: rest, p ∈ all) (S : StrsAre vs (q :: t)) (hd : dropE (q :: t) = dropE ps) (hq : (q == Str.ofString "") = false) :
    WhOut h₀ L s rest m₀ ps .next { s with heap := h, toks := tk } :=
  ⟨rfl, D, vs, n, h, tk, rfl, F, fun p hp => N p (sub p hp), by rw [← hd, dropE_stop hq]; exact S⟩
theorem whOut_nil {m₀ : Str → Option Value} {rest all : List (Addr × Obj)} {ps : List Str} {D : Addr} {n tk : Nat} {h : Heap}
    (F : Fr h₀ L h (fun z => if z = pN then some (.ref D) else m₀ z)) (N : News h₀ L h all) (sub : ∀ p ∈ (D, W.listOf ([] : List Value).toArray n) :: rest, p ∈ all) (hd : dropE [] = dropE ps) :
    WhOut h₀ L s rest m₀ ps .next { s with heap := h, toks := tk } :=
  ⟨rfl, D, [], n, h, tk, rfl, F, fun p hp => N p (sub p hp), by rw [← hd]; exact .nil⟩
end
theorem sum_le (B : Nat) : ∀ l : List Str, (∀ a ∈ l, a.length ≤ B) → (l.map (·.length)).sum ≤ l.length * B
  | [], _ => Nat.zero_le _
  | a :: r, h => by
    have h1 := h a (.head _)
    have h2 := sum_le B r fun b hb => h b (.tail _ hb)
    rw [List.map_cons, List.sum_cons, List.length_cons, Nat.succ_mul]
    omega
theorem parts_mem {text : Str} {runs : List Str} (R : RInv text runs) : ∀ a ∈ dropE (partsOf runs), a.length ≤ text.length := by
  intro a ha
  have ha' : a ∈ partsOf runs := (List.dropWhile_sublist _).subset ha
  unfold partsOf at ha'
  obtain ⟨r, hr, rfl⟩ := List.mem_map.mp ha'
  have hr' := rinv_run R r (List.mem_filter.mp hr).1
  have e1 : Str.ofString " " = ⟨#[32]⟩ := by decide
  have e2 : Str.ofString "" = ⟨#[]⟩ := by decide
  have q : (Txt.replace r ⟨#[32]⟩ ⟨#[]⟩).cps.toList.length ≤ r.cps.toList.length := by rw [replace_strikes]; exact List.length_filter_le _ _
  have q1 : (Txt.replace r ⟨#[32]⟩ ⟨#[]⟩).length = (Txt.replace r ⟨#[32]⟩ ⟨#[]⟩).cps.toList.length := by simp [Str.length]
  have q2 : r.length = r.cps.toList.length := by simp [Str.length]
  show (Txt.replace r (Str.ofString " ") (Str.ofString "")).length ≤ text.length
  rw [e1, e2]
  omega
section
variable {prog : Program} {w : World} {A : Around} {E : Value → Shared → Prop} {Q : Value → Shared → Prop} {s : Shared}
theorem parts_join {text : Str} {runs : List Str} {D : Addr} {vs : List Value} {t : Tok} (hl : s.heap.IsList D vs.toArray) (S : StrsAre vs (dropE (partsOf runs))) (R : RInv text runs) (hb : text.length ≤ 1000)
    (h : ∀ t' k, Q (.str (norm text) t') { s with toks := k }) : wpAny (model prog w) A (call (.builtin "str.join") [.str (Str.ofString "_") t, .ref D]) Q E s := by
  have e : norm text = Txt.join (Str.ofString "_") (dropE (partsOf runs)) := by rw [law01, R.1]
  have h1 := sum_le 1000 (dropE (partsOf runs)) fun a ha => Nat.le_trans (parts_mem R a ha) hb
  have h2 : (dropE (partsOf runs)).length ≤ 1001 := by
    have q1 : (dropE (partsOf runs)).length ≤ (partsOf runs).length := (List.dropWhile_sublist _).length_le
    have q2 : (partsOf runs).length ≤ runs.length := flt_len _ _ _
    have q3 := R.2.2
    omega
  have z : (Str.ofString "_").length = 1 := by decide
  refine join_list hl (by simpa using S) ?_ fun t' k => ?_
  · rw [z]; omega
  · rw [← e]; exact h t' k
theorem eq_self {x : Str} {t u : Tok} (h : Q (.bool true) s) : wpAny (model prog w) A (compareOp .Eq (.str x t) (.str x u)) Q E s :=
  P.eq_str (by rw [beq_self_eq_true]; exact h)
end
end Mine
namespace Mine
/-- behind the iterable of the outer loop: a list of ints, however it came, beside the runs -/
def ItCut (h₀ : Heap) (L : Addr) (m : Str → Option Value) (r : Addr × Obj) (most : Nat) (s : Shared) (v : Value) (s' : Shared) : Prop :=
  ∃ (D : Addr) (ws : List Value) (ns : List Int) (n : Nat) (h : Heap) (tk : Nat), v = .ref D ∧ s' = { s with heap := h, toks := tk } ∧ Fr h₀ L h m ∧ News h₀ L h [r, (D, W.listOf ws.toArray n)] ∧ @Ne Nat D r.1 ∧ IntsAre ws ns ∧ ns.length ≤ most
section
variable {prog : Program} {w : World} {A : Around} {E : Value → Shared → Prop} {s : Shared} {env : Env} {h₀ : Heap} {L : Addr} {m : Str → Option Value}
theorem it_cut {iter : Expr} {r : Addr × Obj} {z : List (Addr × Obj)} {R : Value → Shared → Prop} (most : Nat) (_F : Fr h₀ L s.heap m) (_N : News h₀ L s.heap (r :: z))
    (h1 : wpAny (model prog w) A (eval iter env) (ItCut h₀ L m r most s) E s)
    (h2 : ∀ (D : Addr) (ws : List Value) (ns : List Int) (n : Nat) (h : Heap) (tk : Nat), Fr h₀ L h m → News h₀ L h [r, (D, W.listOf ws.toArray n)] → @Ne Nat D r.1 → IntsAre ws ns → ns.length ≤ most → wpAny (model prog w) A (pyIter (.ref D)) R E { s with heap := h, toks := tk }) :
    wpAny (model prog w) A (eval iter env) (fun a s₁ => wpAny (model prog w) A (pyIter a) R E s₁) E s := by
  refine wpAny_mono h1 (fun v s' q => ?_) fun _ _ e => e
  obtain ⟨D, ws, ns, n, h, tk, rfl, rfl, F, N, ne, I, hl⟩ := q
  exact h2 D ws ns n h tk F N ne I hl
theorem itCut_end {r : Addr × Obj} {all : List (Addr × Obj)} {most n tk : Nat} {D : Addr} {ws : List Value} {ns : List Int} {h : Heap} (F : Fr h₀ L h m) (N : News h₀ L h all) (sub : ∀ p ∈ [r, (D, W.listOf ws.toArray n)], p ∈ all) (ne : @Ne Nat D r.1) (I : IntsAre ws ns) (hl : ns.length ≤ most) :
    ItCut h₀ L m r most s (.ref D) { s with heap := h, toks := tk } := ⟨D, ws, ns, n, h, tk, rfl, rfl, F, fun p hp => N p (sub p hp), ne, I, hl⟩
end
end Mine
open Mine
local macro_rules | `(tactic| kst_facts1) => `(tactic| ((with_reducible show StrsAre _ _); first | exact StrsAre.nil | assumption | exact StrsAre.cons _ _ StrsAre.nil | ((with_reducible show StrsAre (_ ++ [_] ++ [_]) _); exact StrsAre.append' (StrsAre.append' (by assumption) (.cons _ _ .nil)) (.cons _ _ .nil)) | exact StrsAre.append' (by assumption) (.cons _ _ .nil)))
local macro_rules | `(tactic| walk_at "compareOp In int ref") => `(tactic| (k_here; (with_reducible show wpAny _ _ (compareOp CmpOp.In (Value.int _ _) (Value.ref _)) _ _ _); (refine in_range (by assumption) ?_)))
local macro_rules | `(tactic| walk_at "getItem ref int") => `(tactic| (k_here; (with_reducible show wpAny _ _ (getItem (Value.ref _) (Value.int (-1) _)) _ _ _); (k_dflt (refine last_get (by first | is_list | exact News.isList (by k_asm) (by k_mem)) (by assumption) (by assumption) (by omega) ?_)); intro r9 t9 hr9 hrl9))
local macro_rules | `(tactic| walk_at "setItem ref int str") => `(tactic| (k_here; (with_reducible show wpAny _ _ (setItem (Value.ref _) (Value.int (-1) _) (Value.str _ _)) _ _ _); (refine' last_set ?k1 ?k2 ?k3 ?k4 ?k5 ?k6 ?_; (case k1 => k_asm); (case k2 => k_asm); (case k3 => assumption); (case k4 => exact RInv.pos (by assumption)); (case k5 => omega); (case k6 => k_upd)); intro h9 vs9 e9 S9 F9 N9; (rw [← e9] at N9); (clear e9)))
local macro_rules | `(tactic| walk_at "inplaceOp Add str str") => `(tactic| (k_here; (refine SBL.iadd (hsz := ?hsz) ?_); (case hsz => first | ((with_reducible apply sz_one); omega) | ((with_reducible apply sz_sp); omega) | (rw [sizeLine_eq]; omega)); intro _ _ _))
local macro_rules | `(tactic| walk_at "exec Assign cons ListComp") => `(tactic| (k_here; k_dflt (refine LCt.Assign_ListComp_T (F₀ := by k_asm) (by rfl) (by with_unfolding_all rfl) (by with_unfolding_all rfl) (by decide) (by rfl) (by decide) (by rfl) (by rfl) (by rfl) ?_)))
local macro_rules | `(tactic| walk_at "CompSrcT") => `(tactic| (k_here; k_dflt (refine LCt.CompSrcT.ledger (by rfl) (by k_asm) (by k_asm) (by k_mem) (by rw [sizeLine_eq, List.size_toArray]; omega) ?_; intro g'; (refine' cs_list (fun r => r != Str.ofString "") (fun r => Txt.replace r (Str.ofString " ") (Str.ofString "")) (by assumption) (fun a9 ta9 I9 oI9 C9 oC9 D9 m9 ys9 h9 tk9 E9 hmem9 hC9 hx9 F9 N9 off9 ne9 => ?_) (fun zs9 S9 => ?_)); (all_goals (try (simp only [LCg.Off3, and_true] at off9))))))
local macro_rules | `(tactic| walk_at "call builtin:str.replace") => `(tactic| (k_here; (with_reducible show wpAny _ _ (call (Value.builtin "str.replace") [Value.str _ _, Value.str (Str.ofString " ") _, Value.str (Str.ofString "") _]) _ _ _); (refine rep_step (by (have hq9 := rinv_run (by assumption) _ (by assumption)); omega) ?_); intro _ _))
local macro_rules | `(tactic| walk_at "CsEl") => `(tactic| with_unfolding_all exact ⟨rfl, by assumption, _, rfl⟩)
local macro_rules | `(tactic| walk_at "CsNo") => `(tactic| with_unfolding_all exact ⟨rfl, by first | assumption | (simp_all; done)⟩)
local macro_rules | `(tactic| walk_at "exec While") => `(tactic| (k_here; (rename Fr _ _ _ _ => fW9); (rename News _ _ _ _ => nW9); (rename StrsAre _ _ => sW9); (k_dflt (refine while_cut fW9 nW9 sW9 (by omega) (fun D9 vs9 qs9 n9 h9 tk9 S9 hl9 hd9 F9 N9 => ?_) (fun D9 vs9 n9 h9 tk9 S9 F9 N9 => ?_))); (all_goals (try k_fold))))
local macro_rules | `(tactic| walk_at "WhOut") => `(tactic| (k_dflt (first | exact whOut_stop (by assumption) (by assumption) (by first | kst_inAny | kcj_all) (StrsAre.cons _ _ (by assumption)) (by assumption) (by assumption) | exact whOut_nil (by assumption) (by assumption) (by first | kst_inAny | kcj_all) (by assumption))))
local macro_rules | `(tactic| walk_at "compareOp Eq str str") => `(tactic| (k_here; (with_reducible show wpAny _ _ (compareOp CmpOp.Eq (Value.str (norm _) _) (Value.str (norm _) _)) _ _ _); (with_reducible refine eq_self ?_)))
local macro_rules | `(tactic| walk_at "compareOp NotEq ref ref") => `(tactic| (k_here; (with_reducible show wpAny _ _ (compareOp CmpOp.NotEq (Value.ref _) (Value.ref _)) _ _ _); (rename StrsAre _ _ => sN9); (k_dflt (refine ne_nil (by first | is_list | exact News.isList (by k_asm) (by k_mem)) (by first | is_list | exact News.isList (by k_asm) (by k_mem)) sN9 (by k_units) (fun q9 t9 tq9 vs8 ev9 eq9 S8 => ?_) (fun ev9 eq9 => ?_))); (all_goals (subst ev9; subst eq9)); (all_goals (try clear sN9))))
local macro_rules | `(tactic| walk_at "subscriptTail Name Slice ref ref") => `(tactic| (k_here; (with_reducible show wpAny _ _ (subscriptTail _ (PySem.Expr.Slice (some (PySem.Expr.Constant (PySem.Const.int 1) _ _)) none none _) (Value.ref _) (Value.ref _)) _ _ _); k_dflt (refine' kmk_slice_lit ?F ?N ?l ?p ?q ?e ?_ ?s ?t ?z; (case F => k_asm); (case N => k_asm); (case l => kmk_list); (case p => kmk_part); (case q => kmk_part); (case e => exact pick1 _ _); (case s => with_unfolding_all rfl); (case t => kmk_pure); (case z => (rw [sizeLine_eq, List.size_toArray]; exact Nat.le_trans (by assumption) (by decide)))); intro D' h' F' N' l1; (try k_lt l1); (try k_sweep)))
local macro_rules | `(tactic| walk_at "WhEnd") => `(tactic| (k_dflt ((exact whEnd_1 (by assumption) (by assumption) (by first | kst_inAny | kcj_all) (by assumption) (by assumption) (by assumption)))))
local macro_rules | `(tactic| walk_at "call builtin:str.join") => `(tactic| (k_here; (with_reducible show wpAny _ _ (call (Value.builtin "str.join") [Value.str (Str.ofString "_") _, Value.ref _]) _ _ _); (k_dflt (refine parts_join (by first | is_list | exact News.isList (by k_asm) (by k_mem)) (by assumption) (by assumption) (by omega) ?_)); intro _ _))
local macro_rules | `(tactic| walk_at "call builtin:str.join") => `(tactic| (k_here; (rename NInv _ _ _ => hNI9); (refine norm_join (by first | is_list | exact News.isList (by k_asm) (by k_mem)) (by assumption) hNI9 (by omega) ?_); intro _ _))
local macro_rules | `(tactic| trivial) => `(tactic| ((with_reducible show Str.length _ ≤ 400); first | (with_reducible assumption) | omega))
local macro_rules | `(tactic| walk_at "eval BoolOp Or cons") => `(tactic| (k_here; (with_reducible show wpAny _ _ (eval (PySem.Expr.BoolOp _ [PySem.Expr.Name (Str.ofString "script") _, PySem.Expr.List _ _] _) _) (fun a s₁ => wpAny _ _ (pyIter a) _ _ s₁) _ _); (rename Fr _ _ _ _ => fI9); (rename News _ _ _ _ => nI9); (k_dflt (refine it_cut 63 fI9 nI9 ?_ (fun D9 ws9 ns9 n9 h9 tk9 F9 N9 ne9 I9 hm9 => ?_))); (all_goals (try k_fold))))
local macro_rules | `(tactic| walk_at "ItCut") => `(tactic| (k_dflt ((exact itCut_end (by assumption) (by assumption) (by first | kst_inAny | kcj_all) (by first | omega | (dsimp only; omega)) (by first | assumption | exact IntsAre.cons _ _ IntsAre.nil) (by first | omega | decide)))))
local macro_rules | `(tactic| walk_at "InvEndN") => `(tactic| k_dflt kst_close)
local macro_rules | `(tactic| kst_in) => `(tactic| kst_inAny)
set_option maxRecDepth 100000 in
set_option maxHeartbeats 8000000 in
theorem PySem.Challenge.cw_dm0100_01_holds : PySem.Challenge.rw_dm0100_01.Holds := by
  k_with "call ref" =>
      (with_reducible show wpAny _ _ (PySem.call (Value.ref _) [Value.str _ _]) _ _ _)
      (rename News _ _ _ _ => nC8)
      obtain ⟨lC9, hC9, nC9⟩ := led_hide nC8
      clear nC8
      k_call_by "normalize_encoding" norm (fun (x : Str) => x.length ≤ 400)
      subst hC9
  k_with "pyIter str" => k_state (fun pre chars punct => NInv pre chars punct ∧ chars.length ≤ 2 * pre.length) "chars$" "punct"
  k_with "pyIter ref" =>
    first
      | (k_of "x" =>
            k_state (fun pre text runs => (RInv text runs ∧ runs.length ≤ 1 + text.length) ∧ text.length ≤ 6 * pre.length) "text" "runs")
      | (k_of "k" =>
            (rename (Str.length _ ≤ 6 * _) => hB7)
            obtain ⟨B9, hB8, hB9⟩ := hide_bound hB7
            clear hB7
            k_state_short (fun pre x text runs => (RInv text runs ∧ runs.length ≤ 1 + text.length) ∧ text.length ≤ B9 + pre.length) "x" "text" "runs")
  k_with "state" =>
    first
      | with_reducible exact rinv_start
      | ((with_reducible apply rinv_in) <;> assumption)
      | ((with_reducible apply wr_kept) <;> first | (with_reducible assumption) | exact KA_of (fm160 _).1 (by assumption) (by omega) | exact AS_int (fm160 _).1 (by assumption) | ((simp only [List.length_append, List.length_cons, List.length_nil]); omega))
      | ((with_reducible apply wr_none) <;> first | (with_reducible assumption) | exact KA_not (fm160 _).1 (by assumption) (by omega) | ((simp only [List.length_append, List.length_cons, List.length_nil]); omega))
      | ((with_reducible apply wr_over) <;> first | (with_reducible assumption) | ((simp only [List.length_append, List.length_cons, List.length_nil, rangeKs_length]); omega))
      | ((with_reducible apply wr_beyI) <;> first | (with_reducible assumption) | exact bey_kept (by omega) (by omega) | ((simp only [List.length_append, List.length_cons, List.length_nil]); omega))
      | ((with_reducible apply wr_noneI) <;> first | (with_reducible assumption) | exact bey_none (by omega) (fm160 _).2 | ((simp only [List.length_append, List.length_cons, List.length_nil]); omega))
      | with_reducible exact ninv_start
      | ((with_reducible apply way_ua) <;> first | (with_reducible assumption) | exact kept_of1 (by assumption) | exact kept_of2 (by assumption) | exact off_of1 (by assumption) | exact off_of2 (by assumption) (by assumption) | exact on_of (by assumption) (by assumption) (by assumption))
      | ((with_reducible apply way_a) <;> first | (with_reducible assumption) | exact kept_of1 (by assumption) | exact kept_of2 (by assumption) | exact off_of1 (by assumption) | exact off_of2 (by assumption) (by assumption) | exact on_of (by assumption) (by assumption) (by assumption))
      | ((with_reducible apply way_u) <;> first | (with_reducible assumption) | exact kept_of1 (by assumption) | exact kept_of2 (by assumption) | exact off_of1 (by assumption) | exact off_of2 (by assumption) (by assumption) | exact on_of (by assumption) (by assumption) (by assumption))
      | ((with_reducible apply way_p) <;> first | (with_reducible assumption) | exact kept_of1 (by assumption) | exact kept_of2 (by assumption) | exact off_of1 (by assumption) | exact off_of2 (by assumption) (by assumption) | exact on_of (by assumption) (by assumption) (by assumption))
      | ((with_reducible apply way_0) <;> first | (with_reducible assumption) | exact kept_of1 (by assumption) | exact kept_of2 (by assumption) | exact off_of1 (by assumption) | exact off_of2 (by assumption) (by assumption) | exact on_of (by assumption) (by assumption) (by assumption))
  open_k
