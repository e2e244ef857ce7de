import PyProof.Rows.All
import PyProof.EnumStmt
import PyProof.TupleOfSeq
import PyProof.TupleOfGen
import Wide.All
import OpenK.AllK
import Wide.FinOn
import PySem.Challenge.RW_il0066_01
open PySem PySem.W PyProof.Rows
set_option Elab.async false
set_option maxRecDepth 100000
set_option maxHeartbeats 8000000
namespace Mine
set_option synthInstance.maxSize 1 in
open_top hd for PySem.Challenge.rw_il0066_01
noncomputable section
open PySem PySem.StrLaws Builtin Builtin.Str

abbrev cl (s : Str) : List Nat := s.cps.toList
theorem ext_cl {a b : Str} (h : cl a = cl b) : a = b := PySem.Str.ext' (Array.toList_inj.mp h)
theorem cl_append (a b : Str) : cl (a ++ b) = cl a ++ cl b := by show (a ++ b).cps.toList = _; rw [PySem.Str.cps_append]; simp
theorem cl_length (a : Str) : (cl a).length = a.length := by simp [cl, PySem.Str.length]
def rep1 (c : Nat) (z l : List Nat) : List Nat := l.flatMap fun k => if k = c then z else [k]
theorem rep1_free {c : Nat} {z l : List Nat} (h : c ∉ l) : rep1 c z l = l := by
  induction l with
  | nil => rfl
  | cons k l ih =>
    simp only [List.mem_cons, not_or] at h
    unfold rep1 at ih ⊢
    rw [List.flatMap_cons, if_neg (Ne.symm h.1), ih h.2]; rfl
theorem rep1_append (c : Nat) (z a b : List Nat) : rep1 c z (a ++ b) = rep1 c z a ++ rep1 c z b := by simp [rep1]
theorem rep1_join (c : Nat) (z : Str) : ∀ parts : List Str, (∀ p ∈ parts, c ∉ cl p) → cl (PySem.Str.join z parts) = rep1 c (cl z) (cl (PySem.Str.join ⟨#[c]⟩ parts))
  | [], _ => rfl
  | [p], h => (rep1_free (h p (List.mem_singleton.mpr rfl))).symm
  | p :: q :: r, h => by
    have ih := rep1_join c z (q :: r) fun a ha => h a (List.mem_cons_of_mem _ ha)
    show cl (p ++ z ++ PySem.Str.join z (q :: r)) = rep1 c (cl z) (cl (p ++ ⟨#[c]⟩ ++ PySem.Str.join ⟨#[c]⟩ (q :: r)))
    rw [cl_append, cl_append, cl_append, cl_append, rep1_append, rep1_append, ih, rep1_free (h p (List.mem_cons_self ..))]
    have e : rep1 c (cl z) (cl ⟨#[c]⟩) = cl z := by
      show List.flatMap _ [c] = cl z
      simp
    rw [e]
theorem replace1 (x z : Str) (c : Nat) : cl (Txt.replace x ⟨#[c]⟩ z) = rep1 c (cl z) (cl x) := by
  rw [replace_one, rep1_join c z _ (split_free x c), join_split]

/-! ## a pattern of two signs -/
def rep2 (c d : Nat) (z : List Nat) : List Nat → List Nat
  | [] => []
  | [k] => [k]
  | k :: e :: r => if k = c ∧ e = d then z ++ rep2 c d z r else k :: rep2 c d z (e :: r)
theorem rep2_step {c d : Nat} {z l : List Nat} {k : Nat} (h : ¬ ∃ r, k :: l = c :: d :: r) : rep2 c d z (k :: l) = k :: rep2 c d z l := by
  cases l with
  | nil => rfl
  | cons e r =>
    rw [rep2, if_neg]
    rintro ⟨rfl, rfl⟩
    exact h ⟨r, rfl⟩
theorem rep2_run {c d : Nat} {z : List Nat} : ∀ (n : Nat) (l : List Nat), n ≤ l.length → (∀ k, k < n → ¬ ∃ r, l.drop k = c :: d :: r) → rep2 c d z l = l.take n ++ rep2 c d z (l.drop n)
  | 0, l, _, _ => by simp
  | n + 1, [], h, _ => by simp at h
  | n + 1, k :: l, h, hn => by
    rw [rep2_step (hn 0 (by omega)), rep2_run n l (by simpa using h) (fun j hj => by simpa using hn (j + 1) (by omega))]
    rfl
theorem at_two {x : Str} {c d k : Nat} : At x ⟨#[c, d]⟩ x.length k ↔ ∃ r, (cl x).drop k = c :: d :: r := by
  unfold At
  rw [subAt_eq]
  have e2 : (⟨#[c, d]⟩ : Str).length = 2 := rfl
  rw [e2]
  have hl : (cl x).length = x.length := cl_length x
  constructor
  · rintro ⟨_, h⟩
    have h := eq_of_beq h
    have h : ((cl x).drop k).take 2 = [c, d] := h
    refine ⟨(cl x).drop (k + 2), ?_⟩
    have := (List.take_append_drop 2 ((cl x).drop k)).symm
    rw [h, List.drop_drop] at this
    exact this
  · rintro ⟨r, h⟩
    have hlen := congrArg List.length h
    simp only [List.length_drop, List.length_cons] at hlen
    refine ⟨by omega, ?_⟩
    show (((cl x).drop k).take 2 == _) = true
    rw [h]
    simp
theorem join_parts2 (x z : Str) (c d : Nat) : ∀ (cuts : List Nat) (a f : Nat), a ≤ x.length → ChainG x ⟨#[c, d]⟩ x.length a cuts f → (∀ k, f ≤ k → ¬ At x ⟨#[c, d]⟩ x.length k) →
    cl (PySem.Str.join z (partsFrom x 2 a cuts)) = rep2 c d (cl z) ((cl x).drop a)
  | [], a, f, ha, h, hn => by
    have e : f = a := h
    subst e
    show cl (strSub x f x.length) = _
    have hl := cl_length x
    rw [rep2_run ((cl x).drop f).length _ (Nat.le_refl _)]
    · rw [List.take_length, List.drop_length]
      show (strSub x f x.length).cps.toList = _
      rw [strSub_toList]
      show ((cl x).drop f).take (x.length - f) = _
      rw [List.take_of_length_le (by simp only [List.length_drop]; omega)]
      simp [rep2]
    · rintro k _ ⟨r, hr⟩
      rw [List.drop_drop] at hr
      exact hn (f + k) (by omega) (at_two.mpr ⟨r, hr⟩)
  | i :: r, a, f, ha, h, hn => by
    obtain ⟨h1, h2, h3, h4⟩ := h
    obtain ⟨rest, hr⟩ := at_two.mp h2
    have hi : i + 2 ≤ x.length := h2.1
    have hl := cl_length x
    obtain ⟨p, q, e⟩ := partsFrom_ne x 2 (i + 2) r
    have ih := join_parts2 x z c d r (i + 2) f hi h4 hn
    show cl (PySem.Str.join z (strSub x a i :: partsFrom x 2 (i + 2) r)) = _
    have e2 : PySem.Str.join z (strSub x a i :: partsFrom x 2 (i + 2) r) = strSub x a i ++ z ++ PySem.Str.join z (partsFrom x 2 (i + 2) r) := by rw [e]; rfl
    rw [e2, cl_append, cl_append, ih]
    rw [rep2_run (i - a) ((cl x).drop a) (by simp only [List.length_drop]; omega)]
    · rw [List.drop_drop, show a + (i - a) = i by omega, hr, rep2, if_pos ⟨rfl, rfl⟩]
      have e3 : (cl x).drop (i + 2) = rest := by rw [← List.drop_drop, hr]; rfl
      rw [e3]
      show (strSub x a i).cps.toList ++ _ ++ _ = _
      rw [strSub_toList, List.append_assoc]
    · rintro k hk ⟨r', hr'⟩
      rw [List.drop_drop] at hr'
      exact h3 (a + k) (by omega) (by omega) (at_two.mpr ⟨r', hr'⟩)
theorem replace2 (x z : Str) (c d : Nat) : cl (Txt.replace x ⟨#[c, d]⟩ z) = rep2 c d (cl z) (cl x) := by
  obtain ⟨f, h1, h2⟩ := occ_tight x ⟨#[c, d]⟩ (by show 1 ≤ 2; decide)
  have key := join_parts2 x z c d _ 0 f (Nat.zero_le _) h1 h2
  rw [List.drop_zero] at key
  rw [← key]
  unfold Txt.replace
  have h10 : ((⟨#[c, d]⟩ : Str).length == 0) = false := rfl
  rw [h10, Bool.false_and, Bool.or_false]
  cases ho : occurrences x ⟨#[c, d]⟩ 0 x.length (x.length + 1) with
  | nil =>
    rw [if_pos (by rfl)]
    show _ = cl (strSub x 0 x.length)
    rw [sub_whole]
  | cons i r =>
    rw [if_neg (by simp), glued_eq_join, partsBetween_eq]
    rfl

/-! ## slices -/
theorem slice_idx (a b n : Nat) : strSliceIndices (some (a : Int)) (some (b : Int)) 1 n = strSliceIndices (some ((min a n : Nat) : Int)) (some ((min b n : Nat) : Int)) 1 n := by
  simp only [strSliceIndices, show (1 : Int) > 0 by decide, if_true, if_neg (show ¬ ((a : Int) < 0) by omega), if_neg (show ¬ ((b : Int) < 0) by omega), if_neg (show ¬ (((min a n : Nat) : Int) < 0) by omega), if_neg (show ¬ (((min b n : Nat) : Int) < 0) by omega)]
  congr 1 <;> omega
theorem slice_nat (x : Str) {a b : Nat} (hab : a ≤ b) : cl (Txt.slice x (some (a : Int)) (some (b : Int))) = ((cl x).drop a).take (b - a) := by
  have hl := cl_length x
  have h : cl (Txt.slice x (some (a : Int)) (some (b : Int))) = ((cl x).drop (min a x.length)).take (min b x.length - min a x.length) := by
    unfold Txt.slice
    rw [slice_idx]
    have hm : min a x.length ≤ min b x.length := by omega
    split
    · rename_i hc
      rw [strSliceIndices_plain hm (Nat.min_le_right _ _)] at hc
      simp at hc
      have e1 : min a x.length = 0 := by omega
      have e2 : min b x.length = x.length := by omega
      rw [e1, e2, List.drop_zero, Nat.sub_zero, ← hl, List.take_length]
    · rw [sliced_plain x hm (Nat.min_le_right _ _)]
  rw [h]
  by_cases h1 : a ≤ x.length
  · rw [Nat.min_eq_left h1]
    by_cases h2 : b ≤ x.length
    · rw [Nat.min_eq_left h2]
    · rw [Nat.min_eq_right (by omega), List.take_of_length_le (by simp only [List.length_drop]; omega), List.take_of_length_le (by simp only [List.length_drop]; omega)]
  · rw [Nat.min_eq_right (by omega), List.drop_of_length_le (by omega), List.drop_of_length_le (by omega)]; simp
theorem slice_to (x : Str) (b : Nat) : cl (Txt.slice x none (some (b : Int))) = (cl x).take b := by
  have := slice_nat x (Nat.zero_le b)
  rw [List.drop_zero, Nat.sub_zero] at this
  rw [← this]
  unfold Txt.slice
  rw [sliceIdx_none_lo]
  rfl
theorem slice_from (x : Str) (a : Nat) : cl (Txt.slice x (some (a : Int)) none) = (cl x).drop a := by
  have hl := cl_length x
  by_cases h : a ≤ x.length
  · have := slice_nat x h
    rw [List.take_of_length_le (by simp only [List.length_drop]; omega)] at this
    rw [← this]
    unfold Txt.slice
    rw [sliceIdx_none_hi]
  · have := slice_nat x (Nat.le_refl a)
    rw [List.drop_of_length_le (by omega)] at this ⊢
    rw [Nat.sub_self, List.take_zero] at this
    rw [← this]
    unfold Txt.slice
    rw [sliceIdx_none_hi]
    have e : strSliceIndices (some (a : Int)) (some (x.length : Int)) 1 x.length = strSliceIndices (some (a : Int)) (some (a : Int)) 1 x.length := by
      rw [slice_idx, slice_idx a a]
      congr 3
      omega
    rw [e]
theorem slice_butlast (x : Str) (h : 1 ≤ x.length) : cl (Txt.slice x none (some (-1))) = (cl x).take (x.length - 1) := by
  rw [← slice_to]
  unfold Txt.slice
  rw [sliceIdx_neg_hi none x.length (by decide) (by omega)]
  have e : (-1 : Int) + (x.length : Int) = ((x.length - 1 : Nat) : Int) := by omega
  rw [e]

/-! ## beginning and end by one sign -/
theorem starts_one (x : Str) (c : Nat) : Txt.startswith x ⟨#[c]⟩ = true ↔ ∃ r, cl x = c :: r := by
  unfold Txt.startswith
  rw [subAt_eq]
  have e1 : (⟨#[c]⟩ : Str).length = 1 := rfl
  have hl := cl_length x
  rw [e1, Bool.and_eq_true, decide_eq_true_eq, List.drop_zero, beq_iff_eq]
  constructor
  · rintro ⟨_, h⟩
    have h : (cl x).take 1 = [c] := h
    cases q : cl x with
    | nil => rw [q] at h; cases h
    | cons k r => rw [q] at h; simp at h; exact ⟨r, by rw [h]⟩
  · rintro ⟨r, h⟩
    refine ⟨by rw [← hl, h]; simp, ?_⟩
    show (cl x).take 1 = [c]
    rw [h]; rfl
theorem ends_one (x : Str) (c : Nat) : Txt.endswith x ⟨#[c]⟩ = true ↔ ∃ r, cl x = r ++ [c] := by
  unfold Txt.endswith
  rw [subAt_eq]
  have e1 : (⟨#[c]⟩ : Str).length = 1 := rfl
  have hl := cl_length x
  rw [e1, Bool.and_eq_true, decide_eq_true_eq, beq_iff_eq]
  constructor
  · rintro ⟨_, h⟩
    have h : ((cl x).drop (x.length - 1)).take 1 = [c] := h
    refine ⟨(cl x).take (x.length - 1), ?_⟩
    have e := (List.take_append_drop (x.length - 1) (cl x)).symm
    rw [List.take_of_length_le (by simp only [List.length_drop]; omega)] at h
    rw [h] at e
    exact e
  · rintro ⟨r, h⟩
    have hr : x.length = r.length + 1 := by rw [← hl, h]; simp
    refine ⟨by omega, ?_⟩
    show ((cl x).drop (x.length - 1)).take 1 = [c]
    rw [h, hr]; simp

/-! ## split by one sign -/
theorem free_cut {c : Nat} : ∀ {a b r r' : List Nat}, c ∉ a → c ∉ b → a ++ c :: r = b ++ c :: r' → a = b ∧ r = r'
  | [], [], r, r', _, _, h => by simpa using h
  | [], k :: b, r, r', _, hb, h => by
    simp only [List.nil_append, List.cons_append, List.cons.injEq] at h
    exact absurd (h.1 ▸ List.mem_cons_self ..) hb
  | k :: a, [], r, r', ha, _, h => by
    simp only [List.nil_append, List.cons_append, List.cons.injEq] at h
    exact absurd (h.1 ▸ List.mem_cons_self ..) ha
  | k :: a, j :: b, r, r', ha, hb, h => by
    simp only [List.cons_append, List.cons.injEq] at h
    have := free_cut (fun m => ha (List.mem_cons_of_mem _ m)) (fun m => hb (List.mem_cons_of_mem _ m)) h.2
    exact ⟨by rw [h.1, this.1], this.2⟩
theorem join_inj {c : Nat} : ∀ {ps qs : List Str}, ps ≠ [] → qs ≠ [] → (∀ p ∈ ps, c ∉ cl p) → (∀ p ∈ qs, c ∉ cl p) → cl (PySem.Str.join ⟨#[c]⟩ ps) = cl (PySem.Str.join ⟨#[c]⟩ qs) → ps = qs
  | [], _, h, _, _, _, _ => absurd rfl h
  | _, [], _, h, _, _, _ => absurd rfl h
  | [p], [q], _, _, _, _, e => by rw [ext_cl (a := p) (b := q) e]
  | [p], q :: q' :: qs, _, _, hp, hq, e => by
    exfalso
    have e : cl p = cl (q ++ ⟨#[c]⟩ ++ PySem.Str.join ⟨#[c]⟩ (q' :: qs)) := e
    rw [cl_append, cl_append] at e
    exact hp p (by simp) (by rw [e]; simp [cl])
  | p :: p' :: ps, [q], _, _, hp, hq, e => by
    exfalso
    have e : cl (p ++ ⟨#[c]⟩ ++ PySem.Str.join ⟨#[c]⟩ (p' :: ps)) = cl q := e
    rw [cl_append, cl_append] at e
    exact hq q (by simp) (by rw [← e]; simp [cl])
  | p :: p' :: ps, q :: q' :: qs, _, _, hp, hq, e => by
    have e : cl (p ++ ⟨#[c]⟩ ++ PySem.Str.join ⟨#[c]⟩ (p' :: ps)) = cl (q ++ ⟨#[c]⟩ ++ PySem.Str.join ⟨#[c]⟩ (q' :: qs)) := e
    rw [cl_append, cl_append, cl_append, cl_append, List.append_assoc, List.append_assoc] at e
    obtain ⟨e1, e2⟩ := free_cut (hp p (by simp)) (hq q (by simp)) e
    have := join_inj (ps := p' :: ps) (qs := q' :: qs) (by simp) (by simp) (fun a ha => hp a (List.mem_cons_of_mem _ ha)) (fun a ha => hq a (List.mem_cons_of_mem _ ha)) e2
    rw [ext_cl e1, this]
theorem split_ne (x y : Str) : Txt.split x y ≠ [] := by
  unfold Txt.split
  split
  · simp
  · split
    · simp
    · rw [partsBetween_eq]
      obtain ⟨p, r, e⟩ := partsFrom_ne x y.length 0 (occurrences x y 0 x.length (x.length + 1))
      rw [e]; simp
theorem split_join {c : Nat} {ps : List Str} (h0 : ps ≠ []) (h : ∀ p ∈ ps, c ∉ cl p) : Txt.split (PySem.Str.join ⟨#[c]⟩ ps) ⟨#[c]⟩ = ps :=
  join_inj (split_ne _ _) h0 (split_free _ c) h (by rw [join_split])
theorem join_txt (g : Str) (ps : List Str) : Txt.join g ps = PySem.Str.join g ps := glued_eq_join g ps
/-- the last sign c -/
theorem at_one {x : Str} {c k : Nat} : At x ⟨#[c]⟩ x.length k ↔ (cl x)[k]? = some c := subAt_one x c k
theorem rfind_one {x : Str} {c : Nat} {P T : List Nat} (h : cl x = P ++ c :: T) (hT : c ∉ T) : Txt.rfind x ⟨#[c]⟩ = (P.length : Int) := by
  have key := last_spec x ⟨#[c]⟩
  have hat : At x ⟨#[c]⟩ x.length P.length := at_one.mpr (by rw [h]; simp)
  unfold Txt.rfind
  rcases key with ⟨_, hn⟩ | ⟨i, e, hi, hlast⟩
  · exact absurd hat (hn _)
  · rw [e]
    have h1 : ¬ i < P.length := fun q => hlast _ q hat
    have h2 : ¬ P.length < i := fun q => by
      have hi := at_one.mp hi
      rw [h, List.getElem?_append_right (by omega)] at hi
      have : i - P.length = (i - P.length - 1) + 1 := by omega
      rw [this, List.getElem?_cons_succ] at hi
      exact hT (List.mem_of_getElem? hi)
    have : i = P.length := by omega
    rw [this]
theorem rstrip_one {x : Str} {c : Nat} {P : List Nat} (h : cl x = P ++ [c]) (hP : ∀ r, P ≠ r ++ [c]) : cl (Txt.rstripChars x ⟨#[c]⟩) = P := by
  have hl := cl_length x
  have hlen : x.length = P.length + 1 := by rw [← hl, h]; simp
  have hg : ∀ k, (⟨#[c]⟩ : Str).cps.contains k = decide (k = c) := fun k => by simp
  have e0 : PySem.stripLo (⟨#[c]⟩ : Str).cps.contains false x = 0 := rfl
  have e1 : PySem.stripHi (⟨#[c]⟩ : Str).cps.contains true x 0 = P.length := by
    show x.length - (((cl x).drop 0).reverse.takeWhile (⟨#[c]⟩ : Str).cps.contains).length = _
    rw [List.drop_zero, h, List.reverse_append, List.reverse_singleton, List.singleton_append, List.takeWhile_cons, if_pos (by rw [hg]; simp)]
    have : P.reverse.takeWhile (⟨#[c]⟩ : Str).cps.contains = [] := by
      cases hq : P.reverse with
      | nil => rfl
      | cons k r =>
        rw [List.takeWhile_cons, if_neg]
        rw [hg]
        simp only [decide_eq_true_eq]
        rintro rfl
        refine hP r.reverse ?_
        have := congrArg List.reverse hq
        simpa using this
    rw [this]
    simp only [List.length_cons, List.length_nil]
    omega
  unfold Txt.rstripChars Txt.stripBy PySem.stripSame PySem.stripped
  rw [e0, e1, if_neg (by simp; omega)]
  show (strSub x 0 P.length).cps.toList = P
  rw [strSub_toList]
  show ((cl x).drop 0).take (P.length - 0) = P
  rw [h]; simp
end
noncomputable section
open PySem PySem.W PyProof.Rows PySem.Spec PySem.Calls

noncomputable abbrev LP : List Str := looseW hd.view_39 [Str.ofString "_initial_missing", Str.ofString "reduce"]

/-- a contract: the call of the def at f with vs, at most n frames deep, keeps every object and hands on what Post says -/
def Does (w : World) (mean : ExcName → Option Value) (mg mb : Str → Option Value) (f : Addr) (n : Nat) (vs : List Value)
    (Pre : Heap → Prop) (Post : Heap → Heap → Value → Prop) : Prop :=
  ∀ (dp un : Nat) (gd : Option (List Code)) (cn : Str) (cs : Scope) (a : Addr) (ccd : Value) (cl : List (Str × Addr)) (outer : List Env) (A₀ : Around) (base h₀ : Heap) (L : Addr) (m : Str → Option Value) (s : Shared) (Q E : Value → Shared → Prop),
    Below A₀ base outer h₀ → Fr h₀ L s.heap m → (hd.heap_39 w.params).In h₀ → Top hd.view_39 LP mean mg mb h₀ → cs.kind = .function →
    dp + n < recursionLimit → un + 8 * n < cLine → 0 < s.toks → Pre s.heap →
    (∀ r h' tk', s.heap.StaysIn h' → Post s.heap h' r → Q r { s with heap := h', toks := tk' }) →
    wpAny (model PySem.Challenge.rw_il0066_01.row.prog w) (ktrTop dp un gd cn cs L a ccd cl outer) (call (.ref f) vs) Q E s

theorem wpAny_toks_up {α : Type} {M : Model} {A : Around} {s : Shared} {t : Sem α} {Q : α → Shared → Prop} {E : Value → Shared → Prop}
    (h : wpAny M A t (fun a s' => s.toks ≤ s'.toks → Q a s') E s) : wpAny M A t Q E s :=
  wpAny_mono (wpAny_toks_of (Nat.le_refl _) h) (fun _ _ q => q.2 q.1) (fun _ _ q => q.2)

section
variable {w : World} {mean : ExcName → Option Value} {mg mb : Str → Option Value} {f : Addr} {n : Nat} {vs : List Value}
    {Pre : Heap → Prop} {Post : Heap → Heap → Value → Prop} {dp un : Nat} {gd : Option (List Code)} {cn : Str} {cs : Scope} {a : Addr} {ccd : Value} {cl : List (Str × Addr)} {outer : List Env} {A₀ : Around} {base h₀ : Heap} {L : Addr} {m : Str → Option Value} {s : Shared} {Q E : Value → Shared → Prop} {news : List (Addr × Obj)}
theorem Does.use (C : Does w mean mg mb f n vs Pre Post) (B : Below A₀ base outer h₀) (F : Fr h₀ L s.heap m) (X : (hd.heap_39 w.params).In h₀) (N : News h₀ L s.heap news)
    (T : Top hd.view_39 LP mean mg mb h₀) (hk : cs.kind = .function) (hd' : dp + n < recursionLimit) (hu : un + 8 * n < cLine) (ht : 0 < s.toks) (hp : Pre s.heap)
    (ret : ∀ r h' tk', s.heap.StaysIn h' → Fr h₀ L h' m → News h₀ L h' news → s.toks ≤ tk' → Post s.heap h' r → Q r { s with heap := h', toks := tk' }) :
    wpAny (model PySem.Challenge.rw_il0066_01.row.prog w) (ktrTop dp un gd cn cs L a ccd cl outer) (call (.ref f) vs) Q E s := by
  refine wpAny_toks_up (C dp un gd cn cs a ccd cl outer A₀ base h₀ L m s _ E B F X T hk hd' hu ht hp ?_)
  intro r h' tk' hs hP hle
  exact ret r h' tk' hs (F.keeps hs) (N.grown hs) hle hP
theorem Does.weaken {Pre' : Heap → Prop} {Post' : Heap → Heap → Value → Prop} {n' : Nat} (C : Does w mean mg mb f n vs Pre Post) (hn : n ≤ n') (h1 : ∀ h, Pre' h → Pre h) (h2 : ∀ h h' r, Pre' h → Post h h' r → Post' h h' r) :
    Does w mean mg mb f n' vs Pre' Post' := by
  intro dp un gd cn cs a ccd cl outer A₀ base h₀ L m s Q E B F X T hk hd' hu ht hp ret
  exact C dp un gd cn cs a ccd cl outer A₀ base h₀ L m s Q E B F X T hk (by omega) (by omega) ht (h1 _ hp) fun r h' tk' hs hP => ret r h' tk' hs (h2 _ _ _ hp hP)
end

/-! ## entering a def with the whole heap as the ground -/
section
variable {prog : Program} {w : World} {A A₀ : Around} {s : Shared} {K : Frag} {L : Addr} {h₀ base : Heap} {m mg mb : Str → Option Value} {p : Program} {loose : List Str} {mean : ExcName → Option Value}
  {env : Env} {outer : List Env} {R : Result → Shared → Prop} {name qual : Str} {params : Arguments} {body : List Stmt} {scope : Scope} {dV kV doc pm cdv ct oc : Value} {an od : Option Addr} {osl : Array (Option Value)} {f : Addr} {args : Args}

theorem belowM (B : Below A₀ base outer h₀) (F : Fr h₀ L s.heap m) (hA : A.frames = some (env :: outer)) (hf : env.frame = some L) (hke : env.scope.kind = .function) : Below A base (env :: outer) s.heap :=
  ⟨hA, fun b o e => F.keep b o (B.stays b o e), (pushX B F hf hke).frames⟩

theorem enterM {binds : List (Str × Value)} (B : Below A₀ base outer h₀) (F : Fr h₀ L s.heap m) (X₀ : K.In h₀) (T : Top p loose mean mg mb h₀) (hA : A.frames = some (env :: outer)) (hf : env.frame = some L) (hke : env.scope.kind = .function)
    (ho : K.lookup f = some ⟨oc, od, .func (fnOf name qual params body scope dV kV doc pm an cdv ct), osl⟩) (hcd : codeIn K cdv qual = true) (hroom : A.depth < recursionLimit)
    (hbind : BindsTo s (fnOf name qual params body scope dV kV doc pm an cdv ct) args binds) (hloc : ∀ y ∈ binds, scope.names.lookup y.1 = some .local)
    (h : ∀ L' h₁ tk, 0 < tk → Fr s.heap L' h₁ (fun y => binds.reverse.lookup y) → News s.heap L' h₁ [] → Below A base (env :: outer) s.heap → K.In s.heap → Top p loose mean mg mb s.heap →
      wpAny (model prog w) (A.deeper (envOf qual scope L' f cdv)) (execs body (envOf qual scope L' f cdv))
        (fun fl s' => R (.ok (.ret (match fl with | .ret v => v | _ => .none))) s')
        (fun e s' => wpAny (model prog w) (A.deeper (envOf qual scope L' f cdv)) (leaving (envOf qual scope L' f cdv) e) (fun _ s'' => R (.error e) s'') (fun e' s'' => R (.error e') s'') s')
        { s with heap := h₁, toks := tk })
    (hco : scope.isCoroutine = false) (hgen : scope.isGenerator = false) (hk : scope.kind = .function)
    (hcell : ∀ x ∈ scope.names, x.2 ≠ .cell) (ht : 0 < s.toks) : codeAny (model prog w) A (.call (.ref f) args) R s := by
  refine codeAny_call_def (fd := fnX name qual params body scope [] dV kV doc pm an cdv ct) (body := body) (binds := binds) hroom ((X₀.keeps F.keep) _ _ ho) rfl (T.nolimit.keeps F.keep) (codeRec_of (X₀.keeps F.keep) hcd) rfl hbind hcell hloc (fun h₁ hns hk₁ => ?_) hco hgen hk
  exact h _ h₁ _ (by omega) ⟨hns, hk₁, Nat.le_refl _⟩ News.nil (belowM B F hA hf hke) (X₀.keeps F.keep) (T.keeps F.keep)

theorem peekM {α : Type} {K : Frag} {M : Model} {A : Around} {E : Value → Shared → Prop} {Q : α → Shared → Prop} {s : Shared} {o : Obj} {r : Addr → α}
    (X : K.In s.heap) (q : Q (r s.heap.objs.size) { s with heap := s.heap.push o }) (t : Sem α) :
    ∀ g : Addr → Option α, peek1 K ⟨M.prog, M.w.params⟩ t = some (o, g) → (∀ D, g D = some (r D)) → wpAny M A t Q E s := by
  induction t with
  | load b _ k ih =>
    intro g he hg
    rw [peek1] at he
    cases hb : K.lookup b with
    | none => rw [hb] at he; exact nomatch he
    | some ob =>
      rw [hb] at he
      exact fun Γ x hΓ => ⟨ob, X b ob hb, ih ob g he hg Γ x hΓ⟩
  | alloc ob k _ =>
    intro g he hg
    injection (show some (ob, fun D => peek K ⟨M.prog, M.w.params⟩ (k D)) = some (o, g) from he) with he
    injection he with ho hk
    subst ho hk
    exact wpAny_bind (m := PySem.alloc ob) (wpAny_alloc ((Looks.of_peek (M := M) (h := s.heap.push ob) (X.keeps fun _ _ => Heap.get?_push_of_some _) (hg s.heap.objs.size)).here (s := { s with heap := s.heap.push ob }) q))
  | ask k ih => exact fun g he hg Γ x => ih _ g he hg Γ x
  | point n k ih => exact fun g he hg Γ x => ih () g he hg Γ x
  | rule n k ih => exact fun g he hg Γ x => ih () g he hg Γ x
  | _ => exact fun _ he => nomatch he

theorem enterR {vs : List Value} {g₁ : Addr → Option (List (Str × Value))} {binds : Addr → List (Str × Value)}
    (B : Below A₀ base outer h₀) (F : Fr h₀ L s.heap m) (X₀ : K.In h₀) (T : Top p loose mean mg mb h₀) (hA : A.frames = some (env :: outer)) (hf : env.frame = some L) (hke : env.scope.kind = .function)
    (ho : K.lookup f = some ⟨oc, od, .func (fnOf name qual params body scope dV kV doc pm an cdv ct), osl⟩) (hcd : codeIn K cdv qual = true) (hroom : A.depth < recursionLimit)
    (hv : args.pos.drop (params.posonlyargs.length + params.args.length) = vs)
    (hp : peek1 K ⟨prog, w.params⟩ (bindArgs (fnOf name qual params body scope dV kV doc pm an cdv ct) args) = some (({ cls := .type "tuple", data := .seq vs.toArray } : Obj), g₁))
    (hg : ∀ D, g₁ D = some (binds D)) (hloc : ∀ D, ∀ y ∈ binds D, scope.names.lookup y.1 = some .local)
    (h : ∀ D L' h₁ tk, 0 < tk → D ≠ L' → Fr s.heap L' h₁ (fun y => (binds D).reverse.lookup y) → News s.heap L' h₁ [(D, ({ cls := .type "tuple", data := .seq vs.toArray } : Obj))] → Below A base (env :: outer) s.heap → K.In s.heap → Top p loose mean mg mb s.heap →
      wpAny (model prog w) (A.deeper (envOf qual scope L' f cdv)) (execs body (envOf qual scope L' f cdv))
        (fun fl s' => R (.ok (.ret (match fl with | .ret v => v | _ => .none))) s')
        (fun e s' => wpAny (model prog w) (A.deeper (envOf qual scope L' f cdv)) (leaving (envOf qual scope L' f cdv) e) (fun _ s'' => R (.error e) s'') (fun e' s'' => R (.error e') s'') s')
        { s with heap := h₁, toks := tk })
    (hco : scope.isCoroutine = false) (hgen : scope.isGenerator = false) (hk : scope.kind = .function)
    (hcell : ∀ x ∈ scope.names, x.2 ≠ .cell) (ht : 0 < s.toks) : codeAny (model prog w) A (.call (.ref f) args) R s := by
  have _ := hv
  have lim := T.nolimit.keeps F.keep
  have BG := belowM B F hA hf hke
  have XG := X₀.keeps F.keep
  have TG := T.keeps F.keep
  refine codeAny_call_function (fd := fnOf name qual params body scope dV kV doc pm an cdv ct) (body := body) hroom (XG _ _ ho) rfl hco hgen rfl (codeRec_of XG hcd) ?_
  refine peekM (o := ({ cls := .type "tuple", data := .seq vs.toArray } : Obj)) (r := binds) XG ?_ _ g₁ hp hg
  have up : ∀ b o, s.heap.get? b = some o → (s.heap.push ({ cls := .type "tuple", data := .seq vs.toArray } : Obj)).get? b = some o := fun b o e => Heap.get?_push_of_some _ e
  refine wpAny_newFunctionEnv hcell (hloc _) (fun h₁ hns hsb => ⟨(lim.keeps up).fresh _ hsb, codeAny_func ?_⟩) hk
  have hk₁ : ∀ b o, (s.heap.push ({ cls := .type "tuple", data := .seq vs.toArray } : Obj)).get? b = some o → h₁.get? b = some o := fun b o e => hsb.extBut b o (Nat.ne_of_lt (Heap.lt_size e)) (Heap.get?_push_of_some _ e)
  have hsz : s.heap.objs.size < (s.heap.push ({ cls := .type "tuple", data := .seq vs.toArray } : Obj)).objs.size := by rw [Heap.size_push]; exact Nat.lt_succ_self _
  refine h s.heap.objs.size _ h₁ _ (by show 0 < s.toks + _; omega) (Nat.ne_of_lt hsz) ⟨hns, fun b o e => hk₁ b o (up b o e), Nat.le_of_lt hsz⟩ ?_ BG XG TG
  intro q hq
  rw [List.mem_singleton.mp hq]
  exact ⟨hk₁ _ _ (Heap.get?_push_size _ rfl), Nat.ne_of_lt hsz, Heap.get?_none_of_le (Nat.le_refl _)⟩

theorem enterC {binds : List (Str × Value)} (B : Below A₀ base outer h₀) (F : Fr h₀ L s.heap m) (X₀ : K.In h₀) (T : Top p loose mean mg mb h₀) (hA : A.frames = some (env :: outer)) (hf : env.frame = some L) (hke : env.scope.kind = .function)
    (ho : K.lookup f = some ⟨oc, od, .func (fnOf name qual params body scope dV kV doc pm an cdv ct), osl⟩) (hcd : codeIn K cdv qual = true) (hroom : A.depth < recursionLimit)
    (hbind : BindsTo s (fnOf name qual params body scope dV kV doc pm an cdv ct) args binds) (hkind : (binds.all fun y => scope.names.lookup y.1 == some .local || scope.names.lookup y.1 == some .cell) = true)
    (hnd : ((cellsFrom 0 scope.names []).map (·.1)).Nodup)
    (h : ∀ L' h₁ tk cells, 0 < tk → Fr s.heap L' h₁ (bindL (envOfC qual scope L' f cdv).kindOf binds fun _ => none) → News s.heap L' h₁ cells →
      CellsAre (bindC (envOfC qual scope L' f cdv).kindOf binds fun _ => none) (cellsFrom (L' + 1) scope.names []) cells → Below A base (env :: outer) s.heap → K.In s.heap → Top p loose mean mg mb s.heap →
      wpAny (model prog w) (A.deeper (envOfC qual scope L' f cdv)) (execs body (envOfC qual scope L' f cdv))
        (fun fl s' => R (.ok (.ret (match fl with | .ret v => v | _ => .none))) s')
        (fun e s' => wpAny (model prog w) (A.deeper (envOfC qual scope L' f cdv)) (leaving (envOfC qual scope L' f cdv) e) (fun _ s'' => R (.error e) s'') (fun e' s'' => R (.error e') s'') s')
        { s with heap := h₁, toks := tk })
    (hco : scope.isCoroutine = false) (hgen : scope.isGenerator = false) (hk : scope.kind = .function) (ht : 0 < s.toks) : codeAny (model prog w) A (.call (.ref f) args) R s := by
  refine codeAny_call_function (fd := fnX name qual params body scope [] dV kV doc pm an cdv ct) (body := body) hroom ((X₀.keeps F.keep) _ _ ho) rfl hco hgen rfl (codeRec_of (X₀.keeps F.keep) hcd) (hbind _ _ _ _ ?_)
  refine wpAny_toks_up (wpAny_newFunctionEnv_cells hk (kindsX hkind _) fun env' he s' x => ?_)
  subst he
  intro hle
  refine ⟨(T.nolimit.keeps F.keep).keeps x.toInCall.keep, codeAny_func ?_⟩
  obtain ⟨h₁, tk, rfl, _⟩ := x.done
  have hk₁ := x.toInCall.keep
  obtain ⟨cells, NC, Y⟩ := Cl.news (h₀ := s.heap) (Nat.le_refl _) fun n c hm => ⟨x.cell n c (lookup_of_mem_nodup (cellsFrom_names scope.names 0 (s.heap.objs.size + 1) [] [] rfl ▸ hnd) hm), x.above n c hm⟩
  exact h s.heap.objs.size h₁ tk cells (Nat.lt_of_lt_of_le ht hle) ⟨x.toInCall.ns, hk₁, Nat.le_refl _⟩ NC Y (belowM B F hA hf hke) (X₀.keeps F.keep) (T.keeps F.keep)
end

theorem is_str_ref {M : Model} {A : Around} {E : Value → Shared → Prop} {s : Shared} {x : Str} {t : Tok} {a : Addr} {Q : Value → Shared → Prop} (h : Q (.bool false) s) :
    wpAny M A (compareOp .Is (.str x t) (.ref a)) Q E s := wpAny_of_eq (a := .bool false) (by rfl) h
theorem replaceM {prog : Program} {w : World} {A : Around} {E : Value → Shared → Prop} {s : Shared} {x y z : Str} {t u v : Tok} {Q : Value → Shared → Prop}
    (hu : u ≠ 0) (hv : v ≠ 0) (huv : u ≠ v) (hyz : (y == z) = false) (hx : x.length ≤ 1048576) (hz : z.length ≤ 14)
    (hq : ∀ t' k, s.toks ≤ k → Q (.str (Txt.replace x y z) t') { s with toks := k }) : wpAny (model prog w) A (call (.builtin "str.replace") [.str x t, .str y u, .str z v]) Q E s :=
  wpAny_toks_up (SC.replaceW hu hv huv hyz hx hz fun t' k => hq t' k)

theorem Fr.at {h₀ h : Heap} {L : Addr} {m : Str → Option Value} {x : Str} {v : Value} (F : Fr h₀ L h m) (hm : m x = some v) : Fr h₀ L h (fun y => if y = x then some v else m y) := by
  have e : (fun y => if y = x then some v else m y) = m := by
    funext y
    by_cases h1 : y = x
    · subst h1; simp [hm]
    · simp [h1]
  rw [e]; exact F
theorem upd_self {m : Str → Option Value} {x : Str} {v : Value} (hm : m x = some v) : (fun y => if y = x then some v else m y) = m := by
  funext y
  by_cases h1 : y = x
  · subst h1; simp [hm]
  · simp [h1]
theorem News.sub {h₀ h : Heap} {L : Addr} {news news' : List (Addr × Obj)} (N : News h₀ L h news') (hs : ∀ p ∈ news, p ∈ news') : News h₀ L h news := fun p hp => N p (hs p hp)
theorem News.add {h₀ h : Heap} {L D : Addr} {o : Obj} {m : Str → Option Value} {news : List (Addr × Obj)} {hs : Heap} (N : News h₀ L h news) (F : Fr h₀ L hs m) (hD : h.get? D = some o) (hn : hs.get? D = none) : News h₀ L h ((D, o) :: news) := by
  intro p hp
  rcases List.mem_cons.mp hp with rfl | hp
  · refine ⟨hD, fun e => ?_, ?_⟩
    · obtain ⟨oL, _, _, hL, _⟩ := F.ns
      rw [← e, hn] at hL; cases hL
    · cases q : h₀.get? D with
      | none => rfl
      | some o' => have := F.keep _ _ q; rw [hn] at this; cases this
  · exact N p hp
end
noncomputable section
open PySem PySem.W PyProof.Rows PySem.Spec PySem.Calls

/-- behind a turn: the frame and the ledger for the next one -/
def ForEnd (h₀ : Heap) (L : Addr) (wr : List Addr) (own : List (Addr × Obj)) (Jn : (Str → Option Value) → List (Addr × Obj) → Prop) (s₁ s₂ : Shared) : Prop :=
  ∃ h' tk m' news' nx, s₂ = { s₁ with heap := h', toks := tk } ∧ Fr h₀ L h' m' ∧ News h₀ L h' news' ∧ (∀ p ∈ nx, p ∈ news') ∧ (∀ p ∈ own, p ∈ news') ∧ (∀ p ∈ nx, p.1 ∉ wr) ∧ Jn m' nx
def ForPost (h₀ : Heap) (L : Addr) (wr : List Addr) (own : List (Addr × Obj)) (Jn : (Str → Option Value) → List (Addr × Obj) → Prop) (s₁ : Shared) (Q : Flow → Shared → Prop) (f : Flow) (s₂ : Shared) : Prop :=
  match f with
  | .ret v => Q (.ret v) s₂
  | .brk => Q .next s₂
  | _ => ForEnd h₀ L wr own Jn s₁ s₂

/-- what a walk asks of its own objects: they lie as they were, a turn on -/
theorem turn_frame {h₀ g g' : Heap} {L : Addr} {m₁ m₂ : Str → Option Value} {fp : List Addr} {l : List (Addr × Obj)} (F : Fr h₀ L g m₁) (F' : Fr h₀ L g' m₂) (N : News h₀ L g' l) (ho : ∀ p ∈ ownOf h₀ fp g, p ∈ l)
    {b : Addr} {o : Obj} (hb : b ∈ fp) (e : g.get? b = some o) : g'.get? b = some o := by
  rcases hq : h₀.get? b with _ | o'
  · exact (N (b, o) (ho _ (mem_ownOf hb hq e))).1
  · cases e.symm.trans (F.keep b o' hq)
    exact F'.keep b o hq

section
variable {prog : Program} {w : World} {A : Around} {s : Shared} {env : Env} {h₀ : Heap} {Q : Flow → Shared → Prop} {E : Value → Shared → Prop}

theorem forM {x : Str} {px : Pos} {body : List Stmt} {I : Addr} {fp wr av : List Addr} {n : Nat} {P : Nat → Value → Prop} {St : Nat → Heap → Prop} {m : Str → Option Value}
    {news : List (Addr × Obj)} (W : Walks prog w A I fp wr n P St) (hx : env.kindOf x = some .local)
    (hp : (env.scope.kind == .class || (env.scope.kind == .module && env.locals != env.globals)) = false)
    (hLf : env.locals ∉ fp) (hwr : ∀ b ∈ wr, h₀.get? b = none) (hav : ∀ b ∈ wr, b ∈ av) (hnw : ∀ p ∈ news, p.1 ∉ av)
    (hst : St 0 s.heap) (F : Fr h₀ env.locals s.heap m) (N : News h₀ env.locals s.heap news)
    (J : Nat → (Str → Option Value) → List (Addr × Obj) → Prop) (h0 : J 0 m news)
    (step : ∀ i v m₁ nx h tk own, s.toks ≤ tk → i < n → P i v → J i m₁ nx → (∀ p ∈ nx, p.1 ∉ av) → (∀ p ∈ own, p.1 ∈ fp) → (∀ b ∈ fp, h₀.get? b = none → ∀ o, h.get? b = some o → (b, o) ∈ own) → St (i + 1) h →
      Fr h₀ env.locals h (fun y => if y = x then some v else m₁ y) → News h₀ env.locals h (nx ++ own) →
      wpAny (model prog w) A (execs body env) (ForPost h₀ env.locals av own (J (i + 1)) { s with heap := h, toks := tk } Q) (fun _ _ => False) { s with heap := h, toks := tk })
    (done : ∀ h' tk m' nx, s.toks ≤ tk → Fr h₀ env.locals h' m' → News h₀ env.locals h' nx → J n m' nx → Q .next { s with heap := h', toks := tk }) :
    codeAny (model prog w) A (.forLoop (.Name x px) (.ref I) body [] env) (fun r s' => match r with | .ok f => Q f s' | .error e => cameBackBy (model prog w) A env (fun _ _ => False) e s') s := by
  have hLw : env.locals ∉ wr := fun h => hLf (W.sub _ h)
  have old : ∀ b o, h₀.get? b = some o → b ∉ wr := fun b o e hb => by rw [hwr b hb] at e; cases e
  refine codeAny_forLoop
    (fun k s' => ∃ h' tk m' nx i, s' = { s with heap := h', toks := tk } ∧ s.toks ≤ tk ∧ St i h' ∧ Fr h₀ env.locals h' m' ∧ News h₀ env.locals h' nx ∧ (∀ p ∈ nx, p.1 ∉ av) ∧ J i m' nx ∧ i ≤ n ∧ k = n + 1 - i) ?_ (n + 1)
    ⟨s.heap, s.toks, m, news, 0, rfl, Nat.le_refl _, hst, F, N, hnw, h0, Nat.zero_le _, rfl⟩
  rintro k s' ⟨h', tk, m', nx, i, rfl, htk, hst', F', N', hnw', hJ, hi, rfl⟩
  have next : ∀ h₁ : Heap, (∀ b o, b ∉ wr → h'.get? b = some o → h₁.get? b = some o) → Fr h₀ env.locals h₁ m' ∧ News h₀ env.locals h₁ nx := fun h₁ hk₁ =>
    ⟨⟨F'.ns.at' fun o e => hk₁ _ o hLw e, fun b o e => hk₁ b o (old b o e) (F'.keep b o e), F'.above⟩, fun p hp => ⟨hk₁ _ _ (fun q => hnw' p hp (hav _ q)) (N' p hp).1, (N' p hp).2⟩⟩
  by_cases hlt : i < n
  · refine wpAny_toks_up (W.item i _ _ _ hlt hst' fun v h₁ tk₁ hP hst₁ hk₁ => ?_)
    intro htk₁
    have htk₁ : tk ≤ tk₁ := htk₁
    have F₁ := (next h₁ hk₁).1
    have N₁ := (next h₁ hk₁).2
    refine wpAny_assign_Name (wpAny_storeName_local hx F₁.ns (fun h₂ hn₂ hs₂ => ?_) hp)
    have hst₂ := W.frame (i + 1) h₁ h₂ hst₁ fun b hb o e => (hs₂.2 b fun q => hLf (q ▸ hb)).trans e
    have Nown := news_ownOf (h₀ := h₀) (h := h₂) hLf
    have F₂ := F₁.set hn₂ hs₂
    have htk₂ : s.toks ≤ tk₁ + 1 := by omega
    refine wpAny_noRaise ?_
    refine wpAny_mono (wpAny_toks_of (Nat.le_refl _) (step i v m' nx h₂ (tk₁ + 1) (ownOf h₀ fp h₂) htk₂ hlt hP hJ hnw' ownOf_sub (fun b hb hn o e => mem_ownOf hb hn e) hst₂ F₂ (fun p hp => ?_))) (fun f s₃ h₃ => ?_) fun _ _ e => e.2
    · rcases List.mem_append.mp hp with hp | hp
      · exact (N₁.set hs₂) p hp
      · exact Nown p hp
    obtain ⟨htk₃, h₃⟩ := h₃
    have fin : ForEnd h₀ env.locals av (ownOf h₀ fp h₂) (J (i + 1)) { s with heap := h₂, toks := tk₁ + 1 } s₃ → ∃ m, m < n + 1 - i ∧ ∃ h' tk m' nx j, s₃ = { s with heap := h', toks := tk } ∧ s.toks ≤ tk ∧ St j h' ∧ Fr h₀ env.locals h' m' ∧ News h₀ env.locals h' nx ∧ (∀ p ∈ nx, p.1 ∉ av) ∧ J j m' nx ∧ j ≤ n ∧ m = n + 1 - j := by
      rintro ⟨h₃', tk₃, m₂, news₂, nx₂, rfl, F₃, N₃, hn, ho, ha₃, hJ₃⟩
      have htk₃ : tk₁ + 1 ≤ tk₃ := htk₃
      refine ⟨n + 1 - (i + 1), by omega, h₃', tk₃, m₂, nx₂, i + 1, rfl, by omega, ?_, F₃, fun p hp => N₃ p (hn p hp), ha₃, hJ₃, hlt, rfl⟩
      exact W.frame _ _ _ hst₁ fun b hb o e => turn_frame F₂ F₃ N₃ ho hb ((hs₂.2 b fun q => hLf (q ▸ hb)).trans e)
    cases f with
    | ret v => exact h₃
    | brk => exact h₃
    | cont => exact fin h₃
    | next => exact fin h₃
  · have hin : i = n := by omega
    subst hin
    refine wpAny_toks_up (W.done _ _ _ hst' fun h₁ tk₁ hk₁ => ?_)
    intro htk₁
    have htk₁ : tk ≤ tk₁ := htk₁
    refine wpAny_execs_nil ?_
    obtain ⟨F₁, N₁⟩ := next h₁ hk₁
    exact done h₁ tk₁ m' nx (by omega) F₁ N₁ hJ

theorem ns_ne_data {h : Heap} {L l : Addr} {m : Str → Option Value} {o : Obj} {xs : Array Value} {k : Nat} (hn : h.Ns L m) (ho : h.get? l = some o) (hd : o.data = .seq xs k) : L ≠ l := by
  rintro rfl
  obtain ⟨oL, es, ep, hL, hLd, _⟩ := hn
  rw [ho] at hL
  cases hL
  rw [hd] at hLd
  cases hLd

theorem for_list {x : Str} {px pos : Pos} {iter : Expr} {body : List Stmt} {l : Addr} {vs : List Value} {m : Str → Option Value} {news : List (Addr × Obj)}
    (J : Nat → (Str → Option Value) → List (Addr × Obj) → Prop) (hh : A.handled = none) (hx : env.kindOf x = some .local)
    (hp : (env.scope.kind == .class || (env.scope.kind == .module && env.locals != env.globals)) = false) (hs : ∀ x, foldedSetIterable iter env x = pure x)
    (F : Fr h₀ env.locals s.heap m) (N : News h₀ env.locals s.heap news) (hl : s.heap.IsList l vs.toArray)
    (hiter : ∀ Q' E', Q' (.ref l) s → wpAny (model prog w) A (eval iter env) Q' E' s)
    (hnl : ∀ p ∈ news, p.1 ≠ l) (hj : J 0 m news)
    (turn : ∀ i v m₁ nx h tk own I, s.toks ≤ tk → vs[i]? = some v → J i m₁ nx → (∀ p ∈ nx, p.1 ∉ [I, l]) → OwnOff own (nx.map (·.1)) → (∃ oi, (I, oi) ∈ own) → h.IsList l vs.toArray →
      Fr h₀ env.locals h (fun y => if y = x then some v else m₁ y) → News h₀ env.locals h (nx ++ own) →
      wpAny (model prog w) A (execs body env) (ForPost h₀ env.locals [I, l] own (J (i + 1)) { s with heap := h, toks := tk } Q) (fun _ _ => False) { s with heap := h, toks := tk })
    (done : ∀ h' tk m' nx, s.toks ≤ tk → Fr h₀ env.locals h' m' → News h₀ env.locals h' nx → J vs.length m' nx → Q .next { s with heap := h', toks := tk }) :
    wpAny (model prog w) A (exec (.For (.Name x px) iter body [] pos) env) Q E s := by
  refine wpAny_noRaise ?_
  refine wpAny_For (hiter _ _ ?_) hs
  have hlt := hl
  obtain ⟨ol, hol, hcl, kl, hdl⟩ := id hl
  have hltz := Heap.lt_size hol
  refine wpAny_pyIter_list hlt ?_
  have Fp := F.push { cls := .type "list_iterator", data := .fields #[.ref l, .int 0 0] }
  have hup : ∀ b o, s.heap.get? b = some o → (s.heap.push { cls := .type "list_iterator", data := .fields #[.ref l, .int 0 0] }).get? b = some o := fun b o e => Heap.get?_push_of_some _ e
  refine forM (s := { s with heap := s.heap.push { cls := .type "list_iterator", data := .fields #[.ref l, .int 0 0] } }) (Walks.list hh s.heap.objs.size l (Nat.ne_of_lt hltz) vs.toArray) hx hp ?_ ?_ (av := [s.heap.objs.size, l]) (fun b hb => by rw [List.mem_singleton.mp hb]; exact .head _) ?_ ?_ Fp (N.grown hup) J hj ?_ ?_
  · intro hm
    rcases List.mem_cons.mp hm with e | hm
    · exact absurd F.ns.lt (e ▸ Nat.lt_irrefl _)
    · exact ns_ne_data F.ns hol hdl (List.mem_singleton.mp hm)
  · intro b hb
    rw [List.mem_singleton.mp hb]
    exact next_is_new F
  · intro p hp hI
    rcases List.mem_cons.mp hI with e | hI
    · exact absurd (Heap.lt_size (N p hp).1) (e ▸ Nat.lt_irrefl _)
    · exact hnl p hp (List.mem_singleton.mp hI)
  · exact ⟨⟨_, Heap.get?_push_size _ rfl, rfl, rfl⟩, ⟨_, hup _ _ hol, hcl, kl, hdl⟩⟩
  · intro i v m₁ nx h tk own htk hi hP hJ hnx hown hall hst F₁ N₁
    obtain ⟨oi, hoi, _⟩ := hst.1
    exact turn i v m₁ nx h tk own s.heap.objs.size htk (by simpa using hP) hJ hnx (fun p hp b hb e => by obtain ⟨q, hq, rfl⟩ := List.mem_map.mp hb; exact hnx q hq (e ▸ hown p hp)) ⟨oi, hall _ (.head _) (next_is_new F) _ hoi⟩ hst.2 F₁ N₁
  · intro h' tk m' nx htk F' N' hJ
    exact done h' tk m' nx htk F' N' (by simpa using hJ)

theorem iter_list {l : Addr} {vs : Array Value} {L : Addr} {m : Str → Option Value} {news : List (Addr × Obj)} {Qv : Value → Shared → Prop} (hl : s.heap.IsList l vs) (F : Fr h₀ L s.heap m) (N : News h₀ L s.heap news)
    (h : ∀ I h', Fr h₀ L h' m → News h₀ L h' ((I, { cls := .type "list_iterator", data := .fields #[.ref l, .int 0 0] }) :: news) → (∀ p ∈ news, p.1 < I) → l ≠ I → Qv (.ref I) { s with heap := h' }) :
    wpAny (model prog w) A (call (.builtin "iter") [.ref l]) Qv E s := by
  refine call_function_entry (by decide +kernel) (by decide +kernel) kdk_entry_iter (kdk_args_iter _) ?_
  unfold Builtin.«iter»
  refine wpAny_bind (m := someArgs "iter" 1 2 _) (wpAny_of_eq (a := [Value.ref l]) (by first | rfl | kernel_rfl!) ?_)
  show wpAny _ _ (pyIter (.ref l) >>= _) _ _ _
  refine wpAny_bind (wpAny_pyIter_list hl ?_)
  obtain ⟨ol, hol, _⟩ := id hl
  exact wpAny_pure ⟨_, rfl, h _ _ (F.push _) (News.push F N _ rfl) (fun q hq => Heap.lt_size (N q hq).1) (Nat.ne_of_lt (Heap.lt_size hol))⟩

theorem for_iter {x : Str} {px pos : Pos} {iter : Expr} {body : List Stmt} {l I : Addr} {vs : List Value} {m : Str → Option Value} {news : List (Addr × Obj)}
    (J : Nat → (Str → Option Value) → List (Addr × Obj) → Prop) (hh : A.handled = none) (hx : env.kindOf x = some .local)
    (hp : (env.scope.kind == .class || (env.scope.kind == .module && env.locals != env.globals)) = false) (hs : ∀ x, foldedSetIterable iter env x = pure x)
    (F : Fr h₀ env.locals s.heap m) (NI : News h₀ env.locals s.heap [(I, { cls := .type "list_iterator", data := .fields #[.ref l, .int 0 0] })]) (N : News h₀ env.locals s.heap news) (hl : s.heap.IsList l vs.toArray) (hne : l ≠ I)
    (hiter : ∀ Q' E', Q' (.ref I) s → wpAny (model prog w) A (eval iter env) Q' E' s)
    (hnl : ∀ p ∈ news, p.1 ∉ [I, l]) (hj : J 0 m news)
    (turn : ∀ i v m₁ nx h tk own, s.toks ≤ tk → vs[i]? = some v → J i m₁ nx → (∀ p ∈ nx, p.1 ∉ [I, l]) → OwnOff own (nx.map (·.1)) → (∃ oi, (I, oi) ∈ own) → h.IsList l vs.toArray →
      Fr h₀ env.locals h (fun y => if y = x then some v else m₁ y) → News h₀ env.locals h (nx ++ own) →
      wpAny (model prog w) A (execs body env) (ForPost h₀ env.locals [I, l] own (J (i + 1)) { s with heap := h, toks := tk } Q) (fun _ _ => False) { s with heap := h, toks := tk })
    (done : ∀ h' tk m' nx, s.toks ≤ tk → Fr h₀ env.locals h' m' → News h₀ env.locals h' nx → J vs.length m' nx → Q .next { s with heap := h', toks := tk }) :
    wpAny (model prog w) A (exec (.For (.Name x px) iter body [] pos) env) Q E s := by
  refine wpAny_noRaise ?_
  refine wpAny_For (hiter _ _ ?_) hs
  obtain ⟨hoI, hIL, hIn⟩ := NI _ (List.Mem.head _)
  have hit : s.heap.IsListIter I l 0 := ⟨_, hoI, rfl, rfl⟩
  obtain ⟨ol, hol, hcl, kl, hdl⟩ := id hl
  refine wpAny_pyIter_listiter hit ?_
  refine forM (s := s) (Walks.list hh I l hne vs.toArray) hx hp ?_ ?_ (av := [I, l]) (fun b hb => by rw [List.mem_singleton.mp hb]; exact .head _) ?_ ?_ F N J hj ?_ ?_
  · intro hm
    rcases List.mem_cons.mp hm with e | hm
    · exact hIL e.symm
    · exact ns_ne_data F.ns hol hdl (List.mem_singleton.mp hm)
  · intro b hb
    rw [List.mem_singleton.mp hb]
    exact hIn
  · exact hnl
  · exact ⟨hit, hl⟩
  · intro i v m₁ nx h tk own htk hi hP hJ hnx hown hall hst F₁ N₁
    obtain ⟨oi, hoi, _⟩ := hst.1
    exact turn i v m₁ nx h tk own htk (by simpa using hP) hJ hnx (fun p hp b hb e => by obtain ⟨q, hq, rfl⟩ := List.mem_map.mp hb; exact hnx q hq (e ▸ hown p hp)) ⟨oi, hall _ (.head _) hIn _ hoi⟩ hst.2 F₁ N₁
  · intro h' tk m' nx htk F' N' hJ
    exact done h' tk m' nx htk F' N' (by simpa using hJ)

/-- behind a turn of a while: the frame and the ledger for the next one, by a lower measure -/
def WhEnd (h₀ : Heap) (L : Addr) (J : Nat → (Str → Option Value) → List (Addr × Obj) → Prop) (k : Nat) (s₁ s₂ : Shared) : Prop :=
  ∃ h' tk m' nx k', s₂ = { s₁ with heap := h', toks := tk } ∧ Fr h₀ L h' m' ∧ News h₀ L h' nx ∧ k' < k ∧ J k' m' nx
def WhPost (h₀ : Heap) (L : Addr) (J : Nat → (Str → Option Value) → List (Addr × Obj) → Prop) (k : Nat) (s₁ : Shared) (Q : Flow → Shared → Prop) (f : Flow) (s₂ : Shared) : Prop :=
  match f with
  | .ret v => Q (.ret v) s₂
  | .brk => Q .next s₂
  | _ => WhEnd h₀ L J k s₁ s₂

theorem whileM {test : Expr} {pos : Pos} {body : List Stmt} {m : Str → Option Value} {news : List (Addr × Obj)} (J : Nat → (Str → Option Value) → List (Addr × Obj) → Prop) (n : Nat)
    (F : Fr h₀ env.locals s.heap m) (N : News h₀ env.locals s.heap news) (hj : J n m news)
    (turn : ∀ k m₁ nx h tk, s.toks ≤ tk → J k m₁ nx → Fr h₀ env.locals h m₁ → News h₀ env.locals h nx →
      wpAny (model prog w) A (isTrue test env (eval test env)) (fun b s₂ => if b then wpAny (model prog w) A (execs body env) (WhPost h₀ env.locals J k { s with heap := h, toks := tk } Q) (fun _ _ => False) s₂ else Q .next s₂)
        (fun _ _ => False) { s with heap := h, toks := tk }) :
    wpAny (model prog w) A (exec (.While test body [] pos) env) Q E s := by
  refine wpAny_noRaise ?_
  refine wpAny_While ?_
  refine codeAny_whileLoop (fun k s' => ∃ h' tk m' nx, s' = { s with heap := h', toks := tk } ∧ s.toks ≤ tk ∧ Fr h₀ env.locals h' m' ∧ News h₀ env.locals h' nx ∧ J k m' nx) ?_ n ⟨s.heap, s.toks, m, news, rfl, Nat.le_refl _, F, N, hj⟩
  rintro k s' ⟨h', tk, m', nx, rfl, htk, F', N', hJ⟩
  refine wpAny_noRaise ?_
  refine wpAny_mono (wpAny_toks_of (Nat.le_refl _) (turn k m' nx h' tk htk hJ F' N')) (fun b s₂ h₂ => ?_) fun _ _ e => e.2
  obtain ⟨htk₂, h₂⟩ := h₂
  have htk₂ : tk ≤ s₂.toks := htk₂
  cases b with
  | false =>
    simp only [Bool.false_eq_true, if_false] at h₂ ⊢
    exact wpAny_execs_nil h₂
  | true =>
    simp only [if_true] at h₂ ⊢
    refine wpAny_noRaise (wpAny_mono (wpAny_toks_of (Nat.le_refl _) h₂) (fun f s₃ h₃ => ?_) fun _ _ e => e.2)
    obtain ⟨htk₃, h₃⟩ := h₃
    have fin : WhEnd h₀ env.locals J k { s with heap := h', toks := tk } s₃ → ∃ m, m < k ∧ ∃ h' tk m' nx, s₃ = { s with heap := h', toks := tk } ∧ s.toks ≤ tk ∧ Fr h₀ env.locals h' m' ∧ News h₀ env.locals h' nx ∧ J m m' nx := by
      rintro ⟨h₃', tk₃, m₂, nx₂, k', rfl, F₃, N₃, hk, hJ₃⟩
      have htk₃ : s₂.toks ≤ tk₃ := htk₃
      exact ⟨k', hk, h₃', tk₃, m₂, nx₂, rfl, by omega, F₃, N₃, hJ₃⟩
    cases f with
    | ret v => exact h₃
    | brk => exact h₃
    | cont => exact fin h₃
    | next => exact fin h₃
end
end
noncomputable section
open PySem PySem.W PyProof.Rows PySem.Spec PySem.Calls

structure Hid (p : Prop) : Prop where
  out : p
theorem strValues_get {l : List (Str × Tok)} {i : Nat} {v : Value} (h : (strValues l)[i]? = some v) : ∃ p, l[i]? = some p ∧ v = .str p.1 p.2 := by
  unfold strValues at h
  rw [List.getElem?_map] at h
  cases hp : l[i]? with
  | none => rw [hp] at h; cases h
  | some p => rw [hp] at h; exact ⟨p, rfl, (Option.some.inj h).symm⟩
theorem strValues_len (l : List (Str × Tok)) : (strValues l).length = l.length := by simp [strValues]
theorem le_of_item {l : List (Str × Tok)} {B i : Nat} {c : Str} {tc : Tok} (h : ∀ a ∈ l.map (fun x => x.fst), a.length ≤ B) (hp : l[i]? = some (c, tc)) : c.length ≤ B :=
  h c (List.mem_map.mpr ⟨_, List.mem_of_getElem? hp, rfl⟩)
theorem strsAre_of (l : List (Str × Tok)) : StrsAre (strValues l) (l.map (·.1)) := by
  induction l with
  | nil => exact .nil
  | cons p l ih => exact .cons _ _ ih
theorem take_succ_of {α : Type} {l : List α} {i : Nat} {x : α} (h : l[i]? = some x) : l.take (i + 1) = l.take i ++ [x] := by
  rw [List.take_add_one, h]; rfl

theorem glued_foldl (g : Str) (ps : List Str) : ∀ a : Array Nat, (ps.foldl (fun acc p => acc ++ g.cps ++ p.cps) a).size = a.size + (ps.map (·.length)).sum + ps.length * g.length := by
  induction ps with
  | nil => intro a; simp
  | cons p ps ih =>
    intro a
    rw [List.foldl_cons, ih]
    simp only [Array.size_append, List.map_cons, List.sum_cons, List.length_cons, Nat.add_mul, Nat.one_mul]
    show a.size + g.length + p.length + _ + _ = _
    omega
theorem join_bound {g : Str} {ys : List Str} {B : Nat} (h : (ys.map (·.length)).sum + ys.length * g.length ≤ B) : (Txt.join g ys).length ≤ B := by
  cases ys with
  | nil => exact Nat.zero_le _
  | cons y ys =>
    show (((y :: ys).drop 1).foldl (fun acc p => acc ++ g.cps ++ p.cps) ((y :: ys).headD Str.empty).cps).size ≤ B
    rw [glued_foldl]
    simp only [List.drop_succ_cons, List.drop_zero, List.headD_cons, List.map_cons, List.sum_cons, List.length_cons, Nat.add_mul, Nat.one_mul] at h ⊢
    show y.length + _ + _ ≤ B
    omega

section
variable {prog : Program} {w : World} {A : Around} {E : Value → Shared → Prop} {s : Shared} {h₀ : Heap} {L D : Addr} {m : Str → Option Value} {news news' : List (Addr × Obj)} {us : List (Str × Tok)} {n : Nat}
theorem truthy_strs {Q : Bool → Shared → Prop} (N : News h₀ L s.heap news) (hm : (D, listOf (strValues us).toArray n) ∈ news) (hz : us.length ≤ 10000000)
    (h1 : us = [] → Q false { s with toks := s.toks + 1 + 1 }) (h2 : us ≠ [] → Q true { s with toks := s.toks + 1 + 1 }) : wpAny (model prog w) A (truthy (.ref D)) Q E s := by
  refine wpAny_truthy_list (News.isList N hm) ?_ ?_
  · rw [List.size_toArray, strValues_len]; omega
  · cases us with
    | nil => exact h1 rfl
    | cons p us => exact h2 (by simp)
theorem append_strs {c : Str} {tc : Tok} {Q : Value → Shared → Prop} (F : Fr h₀ L s.heap m) (N : News h₀ L s.heap news) (hz : us.length ≤ 10000000)
    (U : Upd D (listOf (strValues us).toArray n) (listOf (strValues (us ++ [(c, tc)])).toArray (n + 1)) news news')
    (h : ∀ h', Fr h₀ L h' m → News h₀ L h' news' → Q .none { s with heap := h' }) : wpAny (model prog w) A (call (.builtin "list.append") [.ref D, .str c tc]) Q E s := by
  have e : (strValues (us ++ [(c, tc)])).toArray = (strValues us).toArray.push (.str c tc) := by simp [strValues]
  rw [e] at U
  exact append_K F N U h (by rw [List.size_toArray, strValues_len, sizeLine_eq]; omega)
theorem pop_strs {Q : Value → Shared → Prop} (F : Fr h₀ L s.heap m) (N : News h₀ L s.heap news) (hne : us ≠ []) (hz : us.length ≤ 10000000)
    (U : Upd D (listOf (strValues us).toArray n) (listOf (strValues us.dropLast).toArray (n + 1)) news news')
    (h : ∀ h' c tc, Fr h₀ L h' m → News h₀ L h' news' → Q (.str c tc) { s with heap := h' }) : wpAny (model prog w) A (call (.builtin "list.pop") [.ref D]) Q E s := by
  obtain ⟨p, x, rfl⟩ : ∃ p x, us = p ++ [x] := ⟨us.dropLast, us.getLast hne, (List.dropLast_concat_getLast hne).symm⟩
  rw [List.dropLast_concat] at U
  refine kl_pop F N (p := strValues p) (y := .str x.1 x.2) ?_ U ?_ fun h' F' N' => h h' x.1 x.2 F' N'
  · have : (strValues (p ++ [x])).toArray.toList = strValues p ++ [.str x.1 x.2] := by simp [strValues]
    rw [this]
    exact kpa_last _ _
  · have : (strValues (p ++ [x])).toArray.toList.length = (p ++ [x]).length := by simp [strValues]
    rw [this, sizeLine_eq]; omega
theorem last_strs {value slice : PySem.Expr} {k : Int} {u : Tok} {Q : Value → Shared → Prop} (N : News h₀ L s.heap news) (hm : (D, listOf (strValues us).toArray n) ∈ news) (hne : us ≠ []) (hk : k = -1)
    (h : ∀ c tc, us.getLast? = some (c, tc) → Q (.str c tc) s)
    (hs : subscripted slice false (.ref D) (.int k u) = operate [.ref D, .int k u] (getItem (.ref D) (.int k u))) :
    wpAny (model prog w) A (subscriptTail value slice (.ref D) (.int k u)) Q E s := by
  subst hk
  obtain ⟨p, x, rfl⟩ : ∃ p x, us = p ++ [x] := ⟨us.dropLast, us.getLast hne, (List.dropLast_concat_getLast hne).symm⟩
  have hl := News.isList N hm
  have hz : (strValues (p ++ [x])).toArray.size = p.length + 1 := by simp [strValues]
  refine tail_any hl.typeIs slot_list_getitem.lookup (wpAny_getItem_list_neg hl (by decide) ?_ (by decide) (x := .str x.1 x.2) ?_ (h x.1 x.2 (by simp))) hs
  · rw [hz]; omega
  · rw [hz]
    have : ((-1 : Int) + ((p.length + 1 : Nat) : Int)).toNat = p.length := by omega
    rw [this]
    simp [strValues]
end
end
noncomputable section
open PySem PySem.W PyProof.Rows PySem.Spec PySem.Calls

theorem paired_us {G : Value → Str → Prop} : ∀ {vs ys : List Value}, Paired (fun v y => ∃ x t, G v x ∧ y = .str x t) vs ys → ∃ us : List (Str × Tok), ys = strValues us ∧ Paired (fun v (u : Str × Tok) => G v u.1) vs us
  | _, _, .nil => ⟨[], rfl, .nil⟩
  | _, _, .cons ⟨x, t, h, e⟩ r => by
    obtain ⟨us, e', p⟩ := paired_us r
    exact ⟨(x, t) :: us, by rw [e, e']; rfl, .cons h p⟩

section
variable {prog : Program} {w : World} {A : Around} {s : Shared} {env : Env} {h₀ : Heap} {L : Addr} {m : Str → Option Value} {news : List (Addr × Obj)} {Q : Value → Shared → Prop} {E : Value → Shared → Prop}

theorem comp_strs {elt iter : Expr} {x : Str} {px : Pos} {ifs : List Expr} {scope : Scope} {cl : List (Str × Addr)} {pos : Pos} {l : Addr} {vs : List Value} (p : Value → Bool) (G : Value → Str → Prop)
    (hh : A.handled = none) (hclos : closureFor scope env = pure cl) (hcell : ∀ y ∈ scope.names, y.2 ≠ .cell) (hkind : scope.kind = .function)
    (hnames : ∀ y ∈ scope.names, y.2 = .local → scope.names.lookup y.1 = some .local) (hx : scope.names.lookup x = some .local) (hs : ∀ x, foldedSetIterable iter env x = pure x)
    (F : Fr h₀ L s.heap m) (N : News h₀ L s.heap news) (hl : s.heap.IsList l vs.toArray) (hsz : vs.length ≤ sizeLine)
    (hiter : ∀ Q' E', Q' (.ref l) s → wpAny (model prog w) A (eval iter env) Q' E' s)
    (htests : ∀ C v s₂ m₂ E', v ∈ vs → s₂.heap.Ns C m₂ → m₂ x = some v → s.heap.StaysIn s₂.heap → s.toks ≤ s₂.toks →
      wpAny (model prog w) A (forIn ifs true fun c r => if r = true then do let ok ← isTrue c (compEnvC scope cl C env) (eval c (compEnvC scope cl C env)); pure (ForInStep.yield ok) else pure (ForInStep.yield r))
        (fun ok s₃ => ok = p v ∧ Keeps s₂ s₃) E' s₂)
    (helt : ∀ C v s₂ m₂ E', v ∈ vs → p v = true → s₂.heap.Ns C m₂ → m₂ x = some v → s.heap.StaysIn s₂.heap → s.toks ≤ s₂.toks → Fr h₀ L s₂.heap m → News h₀ L s₂.heap news →
      wpAny (model prog w) A (eval elt (compEnvC scope cl C env)) (fun y s₃ => (∃ x t, G v x ∧ y = .str x t) ∧ Keeps s₂ s₃) E' s₂)
    (hQ : ∀ D h' tk us n, s.toks ≤ tk → Paired (fun v (u : Str × Tok) => G v u.1) (vs.filter p) us → Fr h₀ L h' m → News h₀ L h' ((D, listOf (strValues us).toArray n) :: news) → s.heap.StaysIn h' → s.heap.get? D = none → Q (.ref D) { s with heap := h', toks := tk }) :
    wpAny (model prog w) A (eval (.ListComp elt [⟨.Name x px, iter, ifs, 0⟩] scope pos) env) Q E s := by
  refine wpAny_toks_up (wpAny_ListComp_free p (fun v y => ∃ x t, G v x ∧ y = .str x t) hclos hcell hkind hnames hx (hiter _ _ ?_) hs)
  obtain ⟨ol, hol, hcl, kl, hdl⟩ := id hl
  have hlt : l < s.heap.objs.size := Heap.lt_size hol
  have up : ∀ (h₃ : Heap), (∀ b o, b ∉ [s.heap.objs.size] → (s.heap.push { cls := .type "list_iterator", data := .fields #[.ref l, .int 0 0] }).get? b = some o → h₃.get? b = some o) → s.heap.StaysIn h₃ :=
    fun h₃ hk b o e => hk b o (fun hm => by rcases List.mem_cons.mp hm with rfl | hm; exact Nat.lt_irrefl _ (Heap.lt_size e); cases hm) (Heap.get?_push_of_some _ e)
  refine wpAny_pyIter_list hl ⟨s.heap.objs.size, [s.heap.objs.size, l], [s.heap.objs.size], vs.toArray.size, _, _, rfl, Walks.list hh _ _ (Nat.ne_of_lt hlt) vs.toArray, (by rw [List.size_toArray]; exact hsz), ⟨⟨_, Heap.get?_push_size _ rfl, rfl, rfl⟩, hl.push _⟩, ?_, ⟨?_, ?_⟩, ?_⟩
  · intro b hb
    simp only [List.mem_cons, List.not_mem_nil, or_false] at hb
    exact Nat.lt_of_lt_of_eq (hb.elim (fun e => e ▸ Nat.lt_succ_self _) fun e => e ▸ Nat.lt_succ_of_lt hlt) (Heap.size_push ..).symm
  · intro C i v s₃ m₃ E' hC hP hn hm hk htk
    exact htests C v s₃ m₃ E' (by simpa using Array.mem_of_getElem? hP) hn hm (up _ hk) htk
  · intro C i v s₃ m₃ E' hC hP hp hn hm hk htk
    exact helt C v s₃ m₃ E' (by simpa using Array.mem_of_getElem? hP) hp hn hm (up _ hk) htk (F.keeps (up _ hk)) (N.grown (up _ hk))
  · intro D h' tk ys vs' hnew hlD hplD hlen hP hF hk htk
    have e : vs' = vs := by simpa using list_of_places hlen hP
    subst e
    have keep := up h' hk
    obtain ⟨us, e1, hp⟩ := paired_us hF
    have e2 : ys = (strValues us).toArray := by rw [← e1]
    subst e2
    obtain ⟨n, hD⟩ := hplD
    have hDn : s.heap.get? D = none := by
      cases e : s.heap.get? D with
      | none => rfl
      | some o' => rw [Heap.get?_push_of_some _ e] at hnew; cases hnew
    exact hQ D h' tk us n htk hp (F.keeps keep) (News.add (N.grown keep) F hD hDn) keep hDn
end
end
noncomputable section
open PySem PySem.W PyProof.Rows PySem.Spec PySem.Calls
section
variable {prog : Program} {w : World} {A : Around} {s : Shared} {env : Env} {h₀ : Heap} {L : Addr} {m : Str → Option Value} {news : List (Addr × Obj)} {Q : Value → Shared → Prop} {E : Value → Shared → Prop}
abbrev tupO (its : Array Value) : Obj := { cls := .type "tuple", data := .seq its }
theorem assign_tup_turns {elt iter : Expr} {x y : Str} {px py : Pos} {scope : Scope} {cl : List (Str × Addr)} {pos spos : Pos} {ax : Addr} {its : Array Value} {Q : Flow → Shared → Prop} (hLe : env.locals = L)
    (hsw : swapsWith (.ListComp elt [⟨.Name x px, iter, [], 0⟩] scope pos) (some (.Name y py)) spos.line env = pure true)
    (hh : A.handled = none) (hclos : closureFor scope env = pure cl) (hcell : ∀ z ∈ scope.names, z.2 ≠ .cell) (hkind : scope.kind = .function)
    (hnames : ∀ z ∈ scope.names, z.2 = .local → scope.names.lookup z.1 = some .local) (hx : scope.names.lookup x = some .local)
    (hy : env.kindOf y = some .local) (hp : (env.scope.kind == .class || (env.scope.kind == .module && env.locals != env.globals)) = false) (hs : ∀ x, foldedSetIterable iter env x = pure x)
    (F : Fr h₀ L s.heap m) (N : News h₀ L s.heap news) (hm : (ax, tupO its) ∈ news) (hsz : its.size ≤ sizeLine)
    (hiter : ∀ Q' E', Q' (.ref ax) s → wpAny (model prog w) A (eval iter env) Q' E' s)
    (R : ∀ g, LCg.CompRest prog w A h₀ L m env elt x scope cl { s with heap := g } (fun nw => (ax, tupO its) ∈ nw) (fun i v => its[i]? = some v) (LCg.FinA h₀ L m { s with heap := g } y Q) its.size 0 [] news) :
    wpAny (model prog w) A (exec (.Assign [.Name y py] (.ListComp elt [⟨.Name x px, iter, [], 0⟩] scope pos) spos) env) Q E s := by
  subst hLe
  rw [exec_Assign_Name_used _ _ _ _ hsw]
  refine wpAny_bind (wpAny_standAt (wpAny_bind ?_))
  show wpAny _ A (do let _ ← comprehension (.ListComp elt [⟨.Name x px, iter, [], 0⟩] scope pos) scope env _ (newList []) false (eval iter env) (some (assign (.Name y py) env))) _ _ s
  refine wpAny_bind (wpAny_mono (wpAny_comprehension_free (use := some (assign (.Name y py) env)) (Q := fun _ s' => Q .next s') rfl hs hclos hkind hnames
    (hiter _ E ?_)) (fun _ s' hq => wpAny_pure (wpAny_pure hq)) fun _ _ e => e)
  have hl : s.heap.IsTuple ax its := ⟨_, (N _ hm).1, rfl, _, rfl⟩
  have hlt : ax < s.heap.objs.size := Heap.lt_size (N _ hm).1
  refine wpAny_pyIter_tuple hl ?_
  have up : ∀ b o, s.heap.get? b = some o → (s.heap.push { cls := .type "tuple_iterator", data := .fields #[.ref ax, .int 0 0] }).get? b = some o := fun b o e => Heap.get?_push_of_some _ e
  refine LCg.block_U (Walks.tuple hh s.heap.objs.size ax (Nat.ne_of_lt hlt) its) hsz (fun i h st => by obtain ⟨o, e, _⟩ := st.1; exact ⟨o, e⟩)
    (fun i h h' o nw st e e' k N' S => ⟨by obtain ⟨o', q, r⟩ := st.1; rw [e] at q; cases q; exact ⟨o, e', r⟩, ⟨_, (N' _ S).1, rfl, _, rfl⟩⟩) hcell hkind hx ⟨⟨_, Heap.get?_push_size _ rfl, rfl, rfl⟩, ⟨_, up _ _ (N _ hm).1, rfl, _, rfl⟩⟩ (fun b hb => ?_)
    (F.keeps up) (N.grown up) (Nat.ne_of_lt F.ns.lt) (next_is_new F) (fun p hp => Nat.ne_of_lt (Heap.lt_size (N p hp).1)) hm (R _) ?_
  · simp only [List.mem_cons, List.not_mem_nil, or_false] at hb
    show b < (s.heap.push _).objs.size
    rw [Heap.size_push]
    exact hb.elim (fun e => e ▸ Nat.lt_succ_self _) (fun e => e ▸ Nat.lt_succ_of_lt hlt)
  · intro D C g tk m' ys nw F' N' o1 hn hC₀ hD₀ hCL hDL hCD offC fin
    change wpAny _ A (assign (.Name y py) env (.ref D)) _ _ _
    refine wpAny_assign_Name (wpAny_storeName_local hy F'.ns (fun g₂ ns₂ sb₂ => ⟨m', hn.sameBut sb₂ hCL, fun g₃ sb₃ => ?_⟩) hp)
    have N₂ := N'.set sb₂
    exact fin D g₃ _ ((F'.set ns₂ sb₂).change sb₃ hCL hC₀) (fun p hp => ⟨sb₃.extBut _ _ ((List.mem_cons.mp hp).elim (fun e => e ▸ Ne.symm hCD) (offC p)) (N₂ p hp).1, (N₂ p hp).2⟩) o1
end
end
noncomputable section
open PySem PySem.W PyProof.Rows PySem.Spec PySem.Calls
open PySem.AutoSeq1 (wpAny_loadPart')

theorem owner_seti : Manifest.owners.lookup "set_iterator" = some Manifest.sig_set_iterator := by kernel_rfl
theorem slot_seti_iter : Slot "set_iterator" "__iter__" "set_iterator.__iter__" :=
  .of (owner := "set_iterator") (n := "__iter__") (by rw [typeLookup_type, builtinLookup_eq_fast]; kernel_rfl) (by decide +kernel) (by decide +kernel) (by decide +kernel)
    (by first | exact .inl (by decide +kernel) | exact .inr (by decide +kernel)) (by rw [isSubtype_type]; kernel_rfl)
theorem slot_seti_next : Slot "set_iterator" "__next__" "set_iterator.__next__" :=
  .of (owner := "set_iterator") (n := "__next__") (by rw [typeLookup_type, builtinLookup_eq_fast]; kernel_rfl) (by decide +kernel) (by decide +kernel) (by decide +kernel)
    (by first | exact .inl (by decide +kernel) | exact .inr (by decide +kernel)) (by rw [isSubtype_type]; kernel_rfl)
theorem args_seti_next (a : Value) : argsOk "set_iterator.__next__" ⟨[a], []⟩ := by
  unfold argsOk; kernel_rfl
theorem entry_set_iter : entryFor table "set.__iter__" = some Builtin.«frozenset.__iter__» :=
  entryFor_alias (id' := "frozenset.__iter__") (by kernel_rfl) rfl (by decide +kernel) (by kernel_rfl)
theorem entry_seti_next : entryFor table "set_iterator.__next__" = some Builtin.«set_iterator.__next__» := entryFor_of_tree (by kernel_rfl)

abbrev setO0 (led : Bool) : Obj := { cls := .type "set", dict := none, data := .set #[] 0 (.fresh 0 0 led) }
abbrev tab1 (led : Bool) : SetTable := { mask := 7, place := #[1], dummies := #[], finger := 0, led, moves := 0, plain := true }
abbrev setO1 (led : Bool) (ep : Nat) : Obj := { cls := .type "set", dict := none, data := .set #[(1, .bool true)] ep (tab1 led) }
section
variable {prog : Program} {w : World} {A : Around} {E : Value → Shared → Prop} {s : Shared} {a : Addr} {led : Bool} {ep : Nat}
theorem fits0 (led : Bool) : (SetTable.fresh 0 0 led).fits (#[] : Array (Int × Value)).size = true := by rfl
theorem fits1 (led : Bool) : (tab1 led).fits (#[((1 : Int), Value.bool true)] : Array (Int × Value)).size = true := by rfl
theorem hash_true {Q : Int → Shared → Prop} (h : ∀ tk, s.toks ≤ tk → Q 1 { s with toks := tk }) : wpAny (model prog w) A (pyHash (.bool true)) Q E s := by
  have hT : s.TypeIs (.bool true) "bool" := rfl
  unfold pyHash
  have hv : [Value.bool true].any Value.onHeap = false := rfl
  refine wpAny_bind ?_
  rw [cRoomFor, if_neg (by rw [hv]; exact Bool.false_ne_true)]; refine wpAny_pure ?_
  refine wpAny_bind (wpAny_specialOf hT F.slot_bool_hash.lookup ?_)
  show wpAny _ _ (if (some (Value.builtin "int.__hash__") == some Value.none) = true then _ else _) Q E s
  rw [if_neg (by rw [beq_builtin_none]; exact Bool.false_ne_true)]
  refine wpAny_bind (wpAny_specialOf hT F.slot_bool_hash.lookup ?_)
  show wpAny _ _ (callSpecialIfBoundUnlessNone? (.bool true) "__hash__" _ >>= _) Q E s
  refine wpAny_bind (wpAny_callSpecialIfBoundUnlessNone?_slot hT F.slot_bool_hash
    (wpAny_call_entry F.slot_bool_hash hT F.entry_int_hash
      (show wpAny _ _ (do ret (← mkInt 1)) _ _ s from wpAny_ret_mkInt ?_) (F.args_int_hash_1 _)))
  exact wpAny_pure (h _ (Nat.le_succ _))
theorem add_true0 {Q : Value → Shared → Prop} (ho : s.heap.get? a = some (setO0 led)) (h : ∀ h' tk, s.toks ≤ tk → Heap.SameBut a s.heap h' → h'.get? a = some (setO1 led 1) → Q .none { s with heap := h', toks := tk }) :
    wpAny (model prog w) A (call (.builtin "set.add") [.ref a, .bool true]) Q E s := by
  have hT : s.TypeIs (.ref a) "set" := ⟨_, ho, rfl⟩
  refine wpAny_call_entry F.slot_set_add hT F.entry_set_add ?_ (F.args_set_add_2 _ _)
  unfold Builtin.«set.add» Builtin.Frozenset.oneOther Builtin.Frozenset.addrOf setAdd
  simp only [List.isEmpty_nil, bind_assoc]
  refine wpAny_bind (wpAny_pure (wpAny_bind (wpAny_pure (wpAny_bind (wpAny_holding (wpAny_bind (hash_true fun tk htk => ?_)))))))
  unfold setAddHashed
  refine wpAny_holding ?_
  unfold setAddHashedIn
  refine wpAny_bind (wpAny_setState_of ho rfl (fits0 led) ?_)
  dsimp only
  rw [if_pos (by simp [byScan, Value.scannable, scanBound])]
  unfold setAddByScan
  have e1 : layNew (.fresh 0 0 led) #[] 1 (.bool true) = (#[((1 : Int), Value.bool true)], tab1 led, false, false) := by cases led <;> decide +kernel
  refine wpAny_bind (wpAny_bind (wpAny_rule ?_))
  refine wpAny_bind (m := setScan _ _ _ _ _) (wpAny_pure ?_)
  dsimp only
  rw [e1]
  dsimp only
  refine wpAny_bind (wpAny_pure ?_)
  rw [if_pos rfl]
  refine wpAny_bind (m := hashByValue _ _) (wpAny_pure ?_)
  rw [if_pos rfl]
  refine wpAny_bind (wpAny_storeSet_of ho rfl ?_ (by decide))
  rw [if_neg (by cases led <;> decide)]
  refine wpAny_pure (wpAny_pure (wpAny_pure ⟨_, rfl, h _ tk htk (Heap.SameBut.update ..) ?_⟩))
  have := Heap.get?_update_self (Obj.putSet #[((1 : Int), Value.bool true)] (tab1 led)) ho rfl
  exact this
theorem add_true1 {Q : Value → Shared → Prop} (ho : s.heap.get? a = some (setO1 led ep)) (h : ∀ tk, s.toks ≤ tk → Q .none { s with toks := tk }) :
    wpAny (model prog w) A (call (.builtin "set.add") [.ref a, .bool true]) Q E s := by
  have hT : s.TypeIs (.ref a) "set" := ⟨_, ho, rfl⟩
  refine wpAny_call_entry F.slot_set_add hT F.entry_set_add ?_ (F.args_set_add_2 _ _)
  unfold Builtin.«set.add» Builtin.Frozenset.oneOther Builtin.Frozenset.addrOf setAdd
  simp only [List.isEmpty_nil, bind_assoc]
  refine wpAny_bind (wpAny_pure (wpAny_bind (wpAny_pure (wpAny_bind (wpAny_holding (wpAny_bind (hash_true fun tk htk => ?_)))))))
  unfold setAddHashed
  refine wpAny_holding ?_
  unfold setAddHashedIn
  refine wpAny_bind (wpAny_setState_of ho rfl (fits1 led) ?_)
  dsimp only
  rw [if_pos (by simp [byScan, Value.scannable, scanBound])]
  unfold setAddByScan
  refine wpAny_bind (wpAny_bind (wpAny_rule ?_))
  refine wpAny_bind (m := setScan _ _ _ _ _) ?_
  show wpAny _ _ (setScanFrom a (.bool true) 1 true [((1 : Int), Value.bool true)] 0) _ _ _
  unfold setScanFrom
  rw [if_pos (by rfl)]
  refine wpAny_bind (wpAny_setEpoch_of ho rfl (fits1 led) ?_)
  refine wpAny_bind (SeqAt.EqAt.same (.bool true) prog w _ _ ?_)
  refine wpAny_pure (wpAny_pure (wpAny_pure (wpAny_pure ⟨_, rfl, h tk htk⟩)))

abbrev setiO (a : Addr) (k i ep : Int) : Obj := { cls := .type "set_iterator", data := .fields #[.int k 0, .int i 0, .ref a, .int 1 0, .int ep 0] }
theorem iter_set1 {Q : Value → Shared → Prop} (ho : s.heap.get? a = some (setO1 led ep)) (h : Q (.ref s.heap.objs.size) { s with heap := s.heap.push (setiO a 0 0 ep) }) :
    wpAny (model prog w) A (pyIter (.ref a)) Q E s := by
  have hT : s.TypeIs (.ref a) "set" := ⟨_, ho, rfl⟩
  refine wpAny_pyIter_slot hT F.slot_set_iter (wpAny_call_entry F.slot_set_iter hT entry_set_iter ?_ (F.args_set_iter_1 _))
  unfold Builtin.«frozenset.__iter__»
  refine wpAny_bind (m := Builtin.Frozenset.slot0 _ _) (wpAny_pure ?_)
  unfold Builtin.Frozenset.sizeOf
  refine wpAny_bind (wpAny_bind (wpAny_setEntries_of ho rfl (fits1 led) (wpAny_pure ?_)))
  unfold setDrawn setsByText
  refine wpAny_bind (wpAny_bind (wpAny_setState_of ho rfl (fits1 led) ?_))
  dsimp only
  refine wpAny_bind (wpAny_bind (wpAny_askSetting (wpAny_pure ?_)))
  refine wpAny_pure ?_
  rw [if_neg (by intro hc; rw [Bool.and_eq_true] at hc; exact absurd hc.2 (by cases led <;> decide))]
  refine wpAny_bind (wpAny_pure ?_)
  refine wpAny_bind (wpAny_setEpoch_of ho rfl (fits1 led) ?_)
  refine wpAny_bind (wpAny_newObj_type ?_)
  exact wpAny_pure ⟨_, rfl, "set_iterator", _, ⟨_, Heap.get?_push_size _ rfl, rfl⟩, slot_seti_next.lookup, h⟩
theorem pick_one (f : Nat → Nat) (e : Int × Value) : pickOrder f #[e] = #[e] := by
  unfold pickOrder
  show pickOrder.go f 1 0 [e] #[] = _
  unfold pickOrder.go
  simp only [List.length_singleton, Nat.mod_one, List.getElem?_cons_zero]
  unfold pickOrder.go
  rfl
theorem walk_set1 {Q : Array (Int × Value) → Shared → Prop} (hb : w.params.followText "set-order" = true) (ho : s.heap.get? a = some (setO1 led ep)) (h : Q #[(1, .bool true)] s) : wpAny (model prog w) A (setWalk a) Q E s := by
  unfold setWalk setsByText
  refine wpAny_bind (wpAny_setState_of ho rfl (fits1 led) ?_)
  dsimp only
  refine wpAny_bind (wpAny_bind (wpAny_askSetting (wpAny_pure ?_)))
  rw [if_pos (show ({ program := (model prog w).prog, params := (model prog w).w.params } : Setting).params.followText "set-order" = true from hb)]
  refine wpAny_bind (wpAny_askSetting (wpAny_pure ?_))
  rw [pick_one]
  exact h
theorem setNext_first {Q : Option (Value × Nat) → Shared → Prop} (hled : led = !w.params.followText "set-order") (ho : s.heap.get? a = some (setO1 led ep))
    (h : ∀ k : Nat, (k = 2 ∨ led = false) → Q (some (.bool true, k)) s) : wpAny (model prog w) A (setNext a 0 0 ep) Q E s := by
  unfold setNext setsByText
  refine wpAny_bind (wpAny_setState_of ho rfl (fits1 led) ?_)
  dsimp only
  refine wpAny_bind (wpAny_bind (wpAny_askSetting (wpAny_pure ?_)))
  cases hb : w.params.followText "set-order" with
  | true =>
    rw [if_pos (show ({ program := (model prog w).prog, params := (model prog w).w.params } : Setting).params.followText "set-order" = true from hb), if_neg (by simp)]
    refine wpAny_bind (walk_set1 hb ho (wpAny_pure ?_))
    exact h 0 (.inr (by rw [hled, hb]; rfl))
  | false =>
    have hl : led = true := by rw [hled, hb]; rfl
    subst hl
    rw [if_neg (by rw [show (model prog w).w = w from rfl, hb]; decide), if_neg (by decide)]
    refine wpAny_bind (wpAny_pure (wpAny_pure ?_))
    exact h 2 (.inl rfl)
theorem setNext_second {k : Nat} {Q : Option (Value × Nat) → Shared → Prop} (hled : led = !w.params.followText "set-order") (hk : k = 2 ∨ led = false) (ho : s.heap.get? a = some (setO1 led ep))
    (h : Q none s) : wpAny (model prog w) A (setNext a k 1 ep) Q E s := by
  unfold setNext setsByText
  refine wpAny_bind (wpAny_setState_of ho rfl (fits1 led) ?_)
  dsimp only
  refine wpAny_bind (wpAny_bind (wpAny_askSetting (wpAny_pure ?_)))
  cases hb : w.params.followText "set-order" with
  | true =>
    rw [if_pos (show ({ program := (model prog w).prog, params := (model prog w).w.params } : Setting).params.followText "set-order" = true from hb), if_neg (by simp)]
    exact wpAny_bind (walk_set1 hb ho (wpAny_pure h))
  | false =>
    have hl : led = true := by rw [hled, hb]; rfl
    subst hl
    have hk2 : k = 2 := hk.elim id (fun e => nomatch e)
    subst hk2
    rw [if_neg (by rw [show (model prog w).w = w from rfl, hb]; decide), if_neg (by decide)]
    exact wpAny_bind (wpAny_pure (wpAny_pure h))
theorem next_set1 {I : Addr} {Q : Option Value → Shared → Prop} (hled : led = !w.params.followText "set-order") (hne : a ≠ I) (hI : s.heap.get? I = some (setiO a 0 0 ep)) (ho : s.heap.get? a = some (setO1 led ep))
    (h : ∀ h', Heap.SameBut I s.heap h' → (∃ k : Nat, h'.get? I = some (setiO a k 1 ep) ∧ (k = 2 ∨ led = false)) → Q (some (.bool true)) { s with heap := h' }) : wpAny (model prog w) A (pyNext (.ref I)) Q E s := by
  have hT : s.TypeIs (.ref I) "set_iterator" := ⟨_, hI, rfl⟩
  unfold pyNext
  refine wpAny_bind (wpAny_attempt (wpAny_callSpecial?_slot (name := Str.ofString "__next__") hT slot_seti_next (wpAny_call_entry slot_seti_next hT entry_seti_next ?_ (args_seti_next _))))
  unfold Builtin.«set_iterator.__next__»
  refine wpAny_bind (m := slotArgs _ _ _) (wpAny_pure ?_)
  refine wpAny_bind (wpAny_fieldsOf hI rfl ?_)
  dsimp only
  refine wpAny_bind (wpAny_setEntries_of ho rfl (fits1 led) ?_)
  rw [if_neg (by decide)]
  refine wpAny_bind (setNext_first hled ho fun k hk => ?_)
  dsimp only
  refine wpAny_bind (wpAny_setField_rec hI (show (0 : Nat) < 5 by decide) fun h1 hI1 s1 => ?_)
  refine wpAny_bind (wpAny_setField_rec hI1 (show (1 : Nat) < 5 by decide) fun h2 hI2 s2 => ?_)
  exact wpAny_pure ⟨_, rfl, wpAny_pure (h h2 (s1.trans s2) ⟨k, hI2, hk⟩)⟩
theorem next_set_end {I : Addr} {k : Nat} {Q : Option Value → Shared → Prop} (hh : A.handled = none) (hled : led = !w.params.followText "set-order") (hk : k = 2 ∨ led = false) (hI : s.heap.get? I = some (setiO a k 1 ep)) (ho : s.heap.get? a = some (setO1 led ep))
    (hQ : ∀ h', Heap.ExtBut I s.heap h' → Q none { s with heap := h' }) : wpAny (model prog w) A (pyNext (.ref I)) Q E s := by
  have hT : s.TypeIs (.ref I) "set_iterator" := ⟨_, hI, rfl⟩
  unfold pyNext
  refine wpAny_bind (wpAny_attempt (wpAny_callSpecial?_slot (name := Str.ofString "__next__") hT slot_seti_next (wpAny_call_entry slot_seti_next hT entry_seti_next ?_ (args_seti_next _))))
  unfold Builtin.«set_iterator.__next__»
  refine wpAny_bind (m := slotArgs _ _ _) (wpAny_pure ?_)
  refine wpAny_bind (wpAny_fieldsOf hI rfl ?_)
  dsimp only
  refine wpAny_bind (wpAny_setEntries_of ho rfl (fits1 led) ?_)
  rw [if_neg (by decide)]
  refine wpAny_bind (setNext_second hled hk ho ?_)
  dsimp only
  refine wpAny_bind (wpAny_setField_rec hI (show (2 : Nat) < 5 by decide) fun h1 hI1 s1 => ?_)
  simp only [newExc, newTuple, raiseNew]
  refine wpAny_bind (wpAny_bind (wpAny_newObj_type (wpAny_bind (m := firstArgMember _ _) (wpAny_of_eq (a := Value.none) (by simp only [firstArgMember]; rfl) (wpAny_newObj_type ?_ (by size_fits)))) (by size_fits)))
  refine wpAny_bind (wpAny_handled ?_)
  rw [show A.in1.handled = none from hh]
  refine wpAny_bind (wpAny_pure (wpAny_throw ?_))
  refine wpAny_bind (wpAny_isInstance (T := "StopIteration") (b := true) ?_ isSubtype_stop (wpAny_pure (hQ _ ?_)))
  · exact ⟨_, Heap.get?_push_size _ rfl, rfl⟩
  · exact (s1.extBut.push _).push _
theorem unpackItems_set1 {Q : List Value → Shared → Prop} (hh : A.handled = none) (hled : led = !w.params.followText "set-order") (ho : s.heap.get? a = some (setO1 led ep))
    (hQ : ∀ h', s.heap.StaysIn h' → Q [.bool true] { s with heap := h' }) : wpAny (model prog w) A (unpackItems (.ref a) 1 none) Q E s := by
  have hlt : a ≠ s.heap.objs.size := Nat.ne_of_lt (Heap.lt_size ho)
  have hT : s.TypeIs (.ref a) "set" := ⟨_, ho, rfl⟩
  unfold unpackItems
  refine wpAny_bind ?_
  unfold notIterableAtAll
  refine wpAny_bind (wpAny_specialOf hT F.slot_set_iter.lookup ?_)
  refine wpAny_pure ?_
  simp only [Bool.false_eq_true, if_false]
  refine wpAny_bind (wpAny_holding (iter_set1 ho ?_))
  have hI := Heap.get?_push_size s.heap (o := setiO a 0 0 ep) rfl
  have ho1 : (s.heap.push (setiO a 0 0 ep)).get? a = some (setO1 led ep) := Heap.get?_push_of_some _ ho
  refine wpAny_bind (wpAny_holding ?_)
  show wpAny _ _ (pyNext (.ref s.heap.objs.size) >>= _) _ _ _
  refine wpAny_bind (next_set1 hled hlt hI ho1 fun h1 s1 hx => ?_)
  obtain ⟨k, hI1, hk⟩ := hx
  have ho2 : h1.get? a = some (setO1 led ep) := (s1.2 _ hlt).trans ho1
  refine wpAny_bind (wpAny_holding (wpAny_pure (wpAny_pure ?_)))
  rw [if_neg (by simp)]
  refine wpAny_bind (wpAny_holding (next_set_end hh hled hk hI1 ho2 fun h2 he => ?_))
  simp only [Option.isSome_none, Bool.false_eq_true, if_false]
  refine wpAny_pure (hQ h2 fun b o e => ?_)
  have hb : b ≠ s.heap.objs.size := Nat.ne_of_lt (Heap.lt_size e)
  exact he b o hb ((s1.2 _ hb).trans (Heap.get?_push_of_some _ e))
theorem new_set {Q : Value → Shared → Prop} (h : Q (.ref s.heap.objs.size) { s with heap := s.heap.push (setO0 (!w.params.followText "set-order")) }) : wpAny (model prog w) A (newSet (.type "set")) Q E s := by
  unfold newSet setsByText
  refine wpAny_bind (wpAny_bind (wpAny_askSetting (wpAny_pure ?_)))
  dsimp only
  exact wpAny_newObj_type h
end
end
noncomputable section
open PySem PySem.W PyProof.Rows PySem.Spec PySem.Calls
open PySem.AutoSeq1 (wpAny_loadPart')

/-- the order of two lists of texts -/
def ltS (x y : Str) : Bool := decide (x.cps.toList < y.cps.toList)
def ltL : List Str → List Str → Bool
  | [], [] => false
  | [], _ :: _ => true
  | _ :: _, [] => false
  | x :: xs, y :: ys => if x = y then ltL xs ys else ltS x y

theorem ltL_irrefl : ∀ xs : List Str, ltL xs xs = false
  | [] => rfl
  | x :: xs => by rw [ltL, if_pos rfl, ltL_irrefl xs]

abbrev stLt (us vs : List (Str × Tok)) (i : Nat) : Bool := ltL ((us.drop i).map (·.1)) ((vs.drop i).map (·.1))
theorem sv_none {us : List (Str × Tok)} {i : Nat} (h : us.length ≤ i) : (strValues us).toArray[((i : Nat) : Int).toNat]? = none := by
  rw [Int.toNat_natCast, List.getElem?_toArray, strValues, List.getElem?_map, List.getElem?_eq_none h]; rfl
theorem sv_some {us : List (Str × Tok)} {i : Nat} (h : i < us.length) : (strValues us).toArray[((i : Nat) : Int).toNat]? = some (.str us[i].1 us[i].2) := by
  rw [Int.toNat_natCast, List.getElem?_toArray, strValues, List.getElem?_map, List.getElem?_eq_getElem h]; rfl
theorem drop_cons {us : List (Str × Tok)} {i : Nat} (h : i < us.length) : us.drop i = us[i] :: us.drop (i + 1) := List.drop_eq_getElem_cons h
theorem drop_nil {us : List (Str × Tok)} {i : Nat} (h : us.length ≤ i) : us.drop i = [] := List.drop_eq_nil_of_le h
theorem sv_size (us : List (Str × Tok)) : (strValues us).toArray.size = us.length := by rw [List.size_toArray, strValues_len]

abbrev lsO (us : List (Str × Tok)) (n : Nat) : Obj := { cls := .type "list", dict := none, data := .seq (strValues us).toArray n, slots := #[] }

theorem lt_loop (l b : Addr) (us vs : List (Str × Tok)) (n n2 : Nat) (k : Nat) :
    ∀ i : Nat, i ≤ us.length → i ≤ vs.length → us.length + vs.length - (i + i) = k → Meets (Builtin.«list.__eq__.loop» ⟨[.ref l, .ref b, rawInt i, rawInt 0], []⟩)
      (fun A R s => s.heap.get? l = some (lsO us n) ∧ s.heap.get? b = some (lsO vs n2) ∧ R (.ok (.ret (.bool (stLt us vs i)))) s) := by
  induction k using Nat.strongRecOn with
  | ind k ih =>
  intro i hi1 hi2 hk prog w A R s h
  obtain ⟨hp, g, d, tk, os⟩ := s; obtain ⟨hl, hb, h⟩ := h
  wp_walk using wpAny_loadPart' hl, wpAny_loadPart' hb
  by_cases h1 : i < us.length
  · by_cases h2 : i < vs.length
    · have hc : ((i : Int) + 1) = ((i + 1 : Nat) : Int) := by push_cast; rfl
      rw [sv_some h1, sv_some h2]
      refine wpAny_bind (SeqAt.EqAt.str_str (A := A.in1) (s := ⟨hp, g, d, tk, os⟩) us[i].1 us[i].2 vs[i].1 vs[i].2 prog w _ _ ?_)
      unfold stLt at h
      rw [drop_cons h1, drop_cons h2, List.map_cons, List.map_cons, ltL] at h
      cases hb' : us[i].1 == vs[i].1 with
      | true =>
        rw [if_pos (eq_of_beq hb')] at h
        wp_walk
        rw [hc]
        exact ⟨plainId_quiet MeetsSeq3.plain_eq_loop _, codeAny_builtin MeetsSeq3.entry_eq_loop (by
          rw [Around.under_plainId MeetsSeq3.plain_eq_loop _]
          exact ih _ (by omega) (i + 1) h1 h2 rfl prog w A R _ ⟨hl, hb, h⟩)⟩
      | false =>
        rw [if_neg (fun e => by rw [e] at hb'; simp at hb')] at h
        wp_walk using wpAny_loadPart' hl, wpAny_loadPart' hb
        rw [sv_some h1, sv_some h2]
        show wpAny _ _ (richCompare .Lt _ _ >>= _) _ _ _
        refine wpAny_bind (richCompare_gives (op := .Lt) (typeIs_str _ _ _) (typeIs_str _ _ _) F.slot_str_lt F.entry_str_lt (F.args_str_lt_2 _ _) (gives_str_lt _ _ _ _) (fun e => nomatch e) ?_)
        exact wpAny_pure h
    · have e1 : stLt us vs i = false := by unfold stLt; rw [drop_cons h1, drop_nil (us := vs) (by omega)]; rfl
      rw [e1] at h
      rw [sv_some h1, sv_none (by omega)]
      wp_walk using wpAny_loadPart' hl, wpAny_loadPart' hb
      show R (.ok (.ret (.bool (decide ((strValues us).toArray.size < (strValues vs).toArray.size))))) _
      rw [sv_size, sv_size, decide_eq_false (by omega)]
      exact h
  · by_cases h2 : i < vs.length
    · have e1 : stLt us vs i = true := by unfold stLt; rw [drop_cons h2, drop_nil (us := us) (by omega)]; rfl
      rw [e1] at h
      rw [sv_none (by omega), sv_some h2]
      wp_walk using wpAny_loadPart' hl, wpAny_loadPart' hb
      show R (.ok (.ret (.bool (decide ((strValues us).toArray.size < (strValues vs).toArray.size))))) _
      rw [sv_size, sv_size, decide_eq_true (by omega)]
      exact h
    · have e1 : stLt us vs i = false := by unfold stLt; rw [drop_nil (us := us) (by omega), drop_nil (us := vs) (by omega)]; rfl
      rw [e1] at h
      rw [sv_none (by omega), sv_none (by omega)]
      wp_walk using wpAny_loadPart' hl, wpAny_loadPart' hb
      show R (.ok (.ret (.bool (decide ((strValues us).toArray.size < (strValues vs).toArray.size))))) _
      rw [sv_size, sv_size, decide_eq_false (by omega)]
      exact h
theorem gt_loop (l b : Addr) (us vs : List (Str × Tok)) (n n2 : Nat) (k : Nat) :
    ∀ i : Nat, i ≤ us.length → i ≤ vs.length → us.length + vs.length - (i + i) = k → Meets (Builtin.«list.__eq__.loop» ⟨[.ref l, .ref b, rawInt i, rawInt 4], []⟩)
      (fun A R s => s.heap.get? l = some (lsO us n) ∧ s.heap.get? b = some (lsO vs n2) ∧ R (.ok (.ret (.bool (stLt vs us i)))) s) := by
  induction k using Nat.strongRecOn with
  | ind k ih =>
  intro i hi1 hi2 hk prog w A R s h
  obtain ⟨hp, g, d, tk, os⟩ := s; obtain ⟨hl, hb, h⟩ := h
  wp_walk using wpAny_loadPart' hl, wpAny_loadPart' hb
  by_cases h1 : i < us.length
  · by_cases h2 : i < vs.length
    · have hc : ((i : Int) + 1) = ((i + 1 : Nat) : Int) := by push_cast; rfl
      rw [sv_some h1, sv_some h2]
      refine wpAny_bind (SeqAt.EqAt.str_str (A := A.in1) (s := ⟨hp, g, d, tk, os⟩) us[i].1 us[i].2 vs[i].1 vs[i].2 prog w _ _ ?_)
      unfold stLt at h
      rw [drop_cons h2, drop_cons h1, List.map_cons, List.map_cons, ltL] at h
      cases hb' : us[i].1 == vs[i].1 with
      | true =>
        rw [if_pos (eq_of_beq hb').symm] at h
        wp_walk
        rw [hc]
        exact ⟨plainId_quiet MeetsSeq3.plain_eq_loop _, codeAny_builtin MeetsSeq3.entry_eq_loop (by
          rw [Around.under_plainId MeetsSeq3.plain_eq_loop _]
          exact ih _ (by omega) (i + 1) h1 h2 rfl prog w A R _ ⟨hl, hb, h⟩)⟩
      | false =>
        rw [if_neg (fun e => by rw [← e] at hb'; simp at hb')] at h
        wp_walk using wpAny_loadPart' hl, wpAny_loadPart' hb
        rw [sv_some h1, sv_some h2]
        show wpAny _ _ (richCompare .Gt _ _ >>= _) _ _ _
        refine wpAny_bind (richCompare_gives (op := .Gt) (typeIs_str _ _ _) (typeIs_str _ _ _) F.slot_str_gt F.entry_str_gt (F.args_str_gt_2 _ _) (gives_str_gt _ _ _ _) (fun e => nomatch e) ?_)
        exact wpAny_pure h
    · have e1 : stLt vs us i = true := by unfold stLt; rw [drop_cons h1, drop_nil (us := vs) (by omega)]; rfl
      rw [e1] at h
      rw [sv_some h1, sv_none (by omega)]
      wp_walk using wpAny_loadPart' hl, wpAny_loadPart' hb
      show R (.ok (.ret (.bool (decide ((strValues us).toArray.size > (strValues vs).toArray.size))))) _
      rw [sv_size, sv_size, decide_eq_true (by omega)]
      exact h
  · by_cases h2 : i < vs.length
    · have e1 : stLt vs us i = false := by unfold stLt; rw [drop_cons h2, drop_nil (us := us) (by omega)]; rfl
      rw [e1] at h
      rw [sv_none (by omega), sv_some h2]
      wp_walk using wpAny_loadPart' hl, wpAny_loadPart' hb
      show R (.ok (.ret (.bool (decide ((strValues us).toArray.size > (strValues vs).toArray.size))))) _
      rw [sv_size, sv_size, decide_eq_false (by omega)]
      exact h
    · have e1 : stLt vs us i = false := by unfold stLt; rw [drop_nil (us := us) (by omega), drop_nil (us := vs) (by omega)]; rfl
      rw [e1] at h
      rw [sv_none (by omega), sv_none (by omega)]
      wp_walk using wpAny_loadPart' hl, wpAny_loadPart' hb
      show R (.ok (.ret (.bool (decide ((strValues us).toArray.size > (strValues vs).toArray.size))))) _
      rw [sv_size, sv_size, decide_eq_false (by omega)]
      exact h

theorem list_lt (l b : Addr) (us vs : List (Str × Tok)) (n n2 : Nat) : Meets (Builtin.«list.__lt__» ⟨[.ref l, .ref b], []⟩)
    (fun A R s => s.heap.get? l = some (lsO us n) ∧ s.heap.get? b = some (lsO vs n2) ∧ R (.ok (.ret (.bool (ltL (us.map (·.1)) (vs.map (·.1)))))) s) := by
  intro prog w A R s h
  obtain ⟨hp, g, d, tk, os⟩ := s; obtain ⟨hl, hb, h⟩ := h
  have f3 := AutoSeq1.sub_list_list
  wp_walk using wpAny_loadPart' hl, wpAny_loadPart' hb
  exact ⟨plainId_quiet MeetsSeq3.plain_eq_loop _, codeAny_builtin MeetsSeq3.entry_eq_loop (by
    rw [Around.under_plainId MeetsSeq3.plain_eq_loop _]
    exact lt_loop l b us vs n n2 _ 0 (Nat.zero_le _) (Nat.zero_le _) rfl prog w A R _ ⟨hl, hb, h⟩)⟩
theorem list_gt (l b : Addr) (us vs : List (Str × Tok)) (n n2 : Nat) : Meets (Builtin.«list.__gt__» ⟨[.ref l, .ref b], []⟩)
    (fun A R s => s.heap.get? l = some (lsO us n) ∧ s.heap.get? b = some (lsO vs n2) ∧ R (.ok (.ret (.bool (ltL (vs.map (·.1)) (us.map (·.1)))))) s) := by
  intro prog w A R s h
  obtain ⟨hp, g, d, tk, os⟩ := s; obtain ⟨hl, hb, h⟩ := h
  have f3 := AutoSeq1.sub_list_list
  wp_walk using wpAny_loadPart' hl, wpAny_loadPart' hb
  exact ⟨plainId_quiet MeetsSeq3.plain_eq_loop _, codeAny_builtin MeetsSeq3.entry_eq_loop (by
    rw [Around.under_plainId MeetsSeq3.plain_eq_loop _]
    exact gt_loop l b us vs n n2 _ 0 (Nat.zero_le _) (Nat.zero_le _) rfl prog w A R _ ⟨hl, hb, h⟩)⟩
section
variable {prog : Program} {w : World} {A : Around} {E : Value → Shared → Prop} {s : Shared} {Q : Value → Shared → Prop} {l b : Addr} {us vs : List (Str × Tok)} {n n2 : Nat}
theorem rc_lt (hl : s.heap.get? l = some (lsO us n)) (hb : s.heap.get? b = some (lsO vs n2)) (hu : A.units < cLine) (h : Q (.bool (ltL (us.map (·.1)) (vs.map (·.1)))) s) :
    wpAny (model prog w) A (richCompare .Lt (.ref l) (.ref b)) Q E s :=
  richCompare_meets_room (op := .Lt) ⟨_, hl, rfl⟩ ⟨_, hb, rfl⟩ F.slot_list_lt F.entry_list_lt (F.args_list_lt_2 _ _) (list_lt l b us vs n n2) ⟨hl, hb, show _ ∧ _ from ⟨(fun e => nomatch e), h⟩⟩ hu
theorem rc_gt (hl : s.heap.get? l = some (lsO us n)) (hb : s.heap.get? b = some (lsO vs n2)) (hu : A.units < cLine) (h : Q (.bool (ltL (vs.map (·.1)) (us.map (·.1)))) s) :
    wpAny (model prog w) A (richCompare .Gt (.ref l) (.ref b)) Q E s :=
  richCompare_meets_room (op := .Gt) ⟨_, hl, rfl⟩ ⟨_, hb, rfl⟩ F.slot_list_gt F.entry_list_gt (F.args_list_gt_2 _ _) (list_gt l b us vs n n2) ⟨hl, hb, show _ ∧ _ from ⟨(fun e => nomatch e), h⟩⟩ hu

theorem upd_seq {h : Heap} {S : Addr} {xs ys : Array Value} {c : Nat} (hS : h.get? S = some { cls := .type "list", dict := none, data := .seq xs c, slots := #[] }) :
    (∃ c', (h.update S (Obj.mapSeq fun _ => ys)).get? S = some { cls := .type "list", dict := none, data := .seq ys c', slots := #[] }) ∧ ∀ b, b ≠ S → (h.update S (Obj.mapSeq fun _ => ys)).get? b = h.get? b :=
  ⟨⟨_, Heap.get?_update_self _ hS rfl⟩, fun b hb => Heap.get?_update_other _ _ (Ne.symm hb)⟩
/-- min, max of a list of two -/
theorem codeAny_min2 {R : Result → Shared → Prop} {I S lx : Addr} {v1 v2 : Value} {bt : Bool} {s : Shared} {c : Nat} (hh : A.handled = none) (hlI : lx ≠ I) (hSI : S ≠ I) (hSl : S ≠ lx)
    (hcmp : ∀ (s' : Shared) Q E, (∀ b o, b ≠ I → b ≠ S → s.heap.get? b = some o → s'.heap.get? b = some o) → Q (.bool bt) s' → wpAny (model prog w) A.in1 (richCompare .Lt v2 v1) Q E s')
    (hit : s.heap.IsListIter I lx 0) (hl : s.heap.IsList lx #[v1, v2])
    (hS : s.heap.get? S = some { cls := .type "list", dict := none, data := .seq #[] c, slots := #[] })
    (hR : ∀ h', (∀ b o, b ≠ I → b ≠ S → s.heap.get? b = some o → h'.get? b = some o) → R (.ok (.ret (if bt = true then v2 else v1))) { s with heap := h' }) :
    codeAny (model prog w) A (.builtin "min.loop" ⟨[.ref I, .none, .ref S], []⟩) R s := by
  have hname : (toString "min" ++ toString ".loop" : String) = "min.loop" := by decide
  refine codeAny_builtin F.entry_min_loop ?_
  rw [Around.under_plainId F.plain_min_loop _]
  show wpAny _ A.in1 (seqItems? (.ref S) >>= _) _ _ s
  refine wpAny_bind (wpAny_seqItems hS rfl ?_)
  show wpAny _ A.in1 (tryCatch (pyNext (.ref I)) _ >>= _) _ _ s
  refine wpAny_bind (wpAny_tryCatch (wpAny_pyNext_list_item hit hl (x := v1) rfl fun h1 hit1 hs1 => ?_))
  have hS1 : h1.get? S = _ := (hs1.2 _ hSI).trans hS
  have hl1 : h1.IsList lx #[v1, v2] := hl.extBut hs1.extBut hlI
  show wpAny _ A.in1 (updateSeq S (fun _ => #[v1, v1]) >>= _) _ _ _
  refine wpAny_bind ?_
  refine wpAny_updateSeq hS1 rfl ?_
  rw [hname]
  refine wpAny_pure ⟨plainId_quiet F.plain_min_loop _, ?_⟩
  dsimp only
  obtain ⟨⟨c2, hS2⟩, k2⟩ := upd_seq (ys := #[v1, v1]) hS1
  generalize h1.update S (Obj.mapSeq fun _ => #[v1, v1]) = h2 at hS2 k2
  have hit2 : h2.IsListIter I lx 1 := hit1.at fun o e => (k2 _ (Ne.symm hSI)).trans e
  have hl2 : h2.IsList lx #[v1, v2] := hl1.at fun o e => (k2 _ (Ne.symm hSl)).trans e
  have k02 : ∀ b o, b ≠ I → b ≠ S → s.heap.get? b = some o → h2.get? b = some o := fun b o b1 b2 e => (k2 b b2).trans ((hs1.2 b b1).trans e)
  refine codeAny_builtin F.entry_min_loop ?_
  rw [Around.under_plainId F.plain_min_loop _]
  show wpAny _ A.in1 (seqItems? (.ref S) >>= _) _ _ _
  refine wpAny_bind (wpAny_seqItems hS2 rfl ?_)
  show wpAny _ A.in1 (tryCatch (pyNext (.ref I)) _ >>= _) _ _ _
  refine wpAny_bind (wpAny_tryCatch (wpAny_pyNext_list_item hit2 hl2 (x := v2) rfl fun h3 hit3 hs3 => ?_))
  have hS3 : h3.get? S = _ := (hs3.2 _ hSI).trans hS2
  have hl3 : h3.IsList lx #[v1, v2] := hl2.extBut hs3.extBut hlI
  have k03 : ∀ b o, b ≠ I → b ≠ S → s.heap.get? b = some o → h3.get? b = some o := fun b o b1 b2 e => (hs3.2 b b1).trans (k02 b o b1 b2 e)
  show wpAny _ A.in1 (tryCatch (holding [v2, v2] (richCompare .Lt v2 v1 >>= _)) _ >>= _) _ _ _
  refine wpAny_bind (wpAny_tryCatch (wpAny_holding (wpAny_bind (hcmp _ _ _ k03 ?_))))
  refine wpAny_bind (wpAny_holding (wpAny_truthy_bool ?_))
  refine wpAny_bind (wpAny_letGo (wpAny_pure ?_))
  have fin : ∀ (h4 : Heap) (v : Value) (c4 : Nat), h4.IsListIter I lx 2 → h4.IsList lx #[v1, v2] → h4.get? S = some { cls := .type "list", dict := none, data := .seq #[v, v] c4, slots := #[] } →
      (∀ b o, b ≠ I → b ≠ S → s.heap.get? b = some o → h4.get? b = some o) → v = (if bt = true then v2 else v1) → codeAny (model prog w) A (.builtin "min.loop" ⟨[.ref I, .none, .ref S], []⟩) R { s with heap := h4 } := by
    intro h4 v c4 hit4 hl4 hS4 k04 hv
    refine codeAny_builtin F.entry_min_loop ?_
    rw [Around.under_plainId F.plain_min_loop _]
    show wpAny _ A.in1 (seqItems? (.ref S) >>= _) _ _ _
    refine wpAny_bind (wpAny_seqItems hS4 rfl ?_)
    show wpAny _ A.in1 (tryCatch (pyNext (.ref I)) _ >>= _) _ _ _
    refine wpAny_bind (wpAny_tryCatch (wpAny_pyNext_list_end hh hit4 hl4 rfl fun h5 he => ?_))
    have hS5 := he S _ hSI hS4
    show wpAny _ A.in1 (updateSeq S (fun _ => #[]) >>= _) _ _ _
    refine wpAny_bind ?_
    refine wpAny_updateSeq hS5 rfl (wpAny_bind (wpAny_letGo (wpAny_pure ?_)))
    subst hv
    exact hR _ fun b o b1 b2 e => (Heap.get?_update_other _ _ (Ne.symm b2)).trans (he b o b1 (k04 b o b1 b2 e))
  cases hb : bt with
  | true =>
    simp only [if_true]
    refine wpAny_bind ?_
    refine wpAny_updateSeq hS3 rfl (wpAny_bind (wpAny_letGo ?_))
    rw [hname]
    refine wpAny_pure ⟨plainId_quiet F.plain_min_loop _, ?_⟩
    dsimp only
    obtain ⟨⟨c4, hS4⟩, k4⟩ := upd_seq (ys := #[v2, v2]) hS3
    generalize h3.update S (Obj.mapSeq fun _ => #[v2, v2]) = h4 at hS4 k4
    exact fin h4 v2 c4 (hit3.at fun o e => (k4 _ (Ne.symm hSI)).trans e) (hl3.at fun o e => (k4 _ (Ne.symm hSl)).trans e) hS4 (fun b o b1 b2 e => (k4 b b2).trans (k03 b o b1 b2 e)) (by rw [hb]; rfl)
  | false =>
    simp only [Bool.false_eq_true, if_false]
    refine wpAny_bind (wpAny_letGo ?_)
    rw [hname]
    exact wpAny_pure ⟨plainId_quiet F.plain_min_loop _, fin h3 v1 c2 hit3 hl3 hS3 k03 (by rw [hb]; rfl)⟩
theorem call_min2 {lx : Addr} {v1 v2 : Value} {bt : Bool} (hh : A.handled = none) (hl : s.heap.IsList lx #[v1, v2])
    (hcmp : ∀ (s' : Shared) Q E, s.heap.StaysIn s'.heap → Q (.bool bt) s' → wpAny (model prog w) A.in1 (richCompare .Lt v2 v1) Q E s')
    (hQ : ∀ h', s.heap.StaysIn h' → Q (if bt = true then v2 else v1) { s with heap := h' }) : wpAny (model prog w) A (call (.builtin "min") [.ref lx]) Q E s := by
  have hname : (toString "min" ++ toString ".loop" : String) = "min.loop" := by decide
  have hlt : lx < s.heap.objs.size := by obtain ⟨o, e, _⟩ := hl; exact Heap.lt_size e
  refine call_function_tree F.kind_min F.plain_min F.entry_min (F.args_min1 _) ?_
  show wpAny _ A.in1 (Builtin.Builtins.bindParams "min" ["key", "default"] 0 ⟨[], []⟩ >>= _) _ _ s
  refine wpAny_bind (wpAny_of_eq (show Builtin.Builtins.bindParams "min" ["key", "default"] 0 ⟨[], []⟩ = pure [none, none] from rfl) ?_)
  refine wpAny_bind (wpAny_pure ?_)
  refine wpAny_bind (wpAny_pyIter_list hl ?_)
  refine wpAny_bind (wpAny_newObj_type ?_)
  rw [hname]
  have up : ∀ b o, s.heap.get? b = some o → ((s.heap.push { cls := .type "list_iterator", data := .fields #[.ref lx, .int 0 0] }).push { cls := .type "list", dict := none, data := .seq ([] : List Value).toArray }).get? b = some o := fun b o e => Heap.get?_push_of_some _ (Heap.get?_push_of_some _ e)
  have z : (s.heap.push { cls := .type "list_iterator", data := .fields #[.ref lx, .int 0 0] }).objs.size = s.heap.objs.size + 1 := Heap.size_push ..
  have off : ∀ b o, s.heap.get? b = some o → b ≠ s.heap.objs.size ∧ b ≠ (s.heap.push { cls := .type "list_iterator", data := .fields #[.ref lx, .int 0 0] }).objs.size := fun b o e => by
    have := Heap.lt_size e
    rw [z]; exact ⟨Nat.ne_of_lt this, Nat.ne_of_lt (Nat.lt_succ_of_lt this)⟩
  refine wpAny_pure ⟨plainId_quiet F.plain_min_loop _, codeAny_min2 (bt := bt) hh (Nat.ne_of_lt hlt) (by rw [z]; exact Nat.ne_of_gt (Nat.lt_succ_self _)) (by rw [z]; exact Nat.ne_of_gt (Nat.lt_succ_of_lt hlt)) (fun s' Q E k q => hcmp s' Q E (fun b o e => k b o (off b o e).1 (off b o e).2 (up b o e)) q)
    ⟨_, Heap.get?_push_of_some _ (Heap.get?_push_size _ rfl), rfl, rfl⟩ (hl.at (up lx)) (Heap.get?_push_size _ rfl) fun h' k => hQ h' fun b o e => k b o (off b o e).1 (off b o e).2 (up b o e)⟩
theorem codeAny_max2 {R : Result → Shared → Prop} {I S lx : Addr} {v1 v2 : Value} {bt : Bool} {s : Shared} {c : Nat} (hh : A.handled = none) (hlI : lx ≠ I) (hSI : S ≠ I) (hSl : S ≠ lx)
    (hcmp : ∀ (s' : Shared) Q E, (∀ b o, b ≠ I → b ≠ S → s.heap.get? b = some o → s'.heap.get? b = some o) → Q (.bool bt) s' → wpAny (model prog w) A.in1 (richCompare .Gt v2 v1) Q E s')
    (hit : s.heap.IsListIter I lx 0) (hl : s.heap.IsList lx #[v1, v2])
    (hS : s.heap.get? S = some { cls := .type "list", dict := none, data := .seq #[] c, slots := #[] })
    (hR : ∀ h', (∀ b o, b ≠ I → b ≠ S → s.heap.get? b = some o → h'.get? b = some o) → R (.ok (.ret (if bt = true then v2 else v1))) { s with heap := h' }) :
    codeAny (model prog w) A (.builtin "max.loop" ⟨[.ref I, .none, .ref S], []⟩) R s := by
  have hname : (toString "max" ++ toString ".loop" : String) = "max.loop" := by decide
  refine codeAny_builtin F.entry_max_loop ?_
  rw [Around.under_plainId F.plain_max_loop _]
  show wpAny _ A.in1 (seqItems? (.ref S) >>= _) _ _ s
  refine wpAny_bind (wpAny_seqItems hS rfl ?_)
  show wpAny _ A.in1 (tryCatch (pyNext (.ref I)) _ >>= _) _ _ s
  refine wpAny_bind (wpAny_tryCatch (wpAny_pyNext_list_item hit hl (x := v1) rfl fun h1 hit1 hs1 => ?_))
  have hS1 : h1.get? S = _ := (hs1.2 _ hSI).trans hS
  have hl1 : h1.IsList lx #[v1, v2] := hl.extBut hs1.extBut hlI
  show wpAny _ A.in1 (updateSeq S (fun _ => #[v1, v1]) >>= _) _ _ _
  refine wpAny_bind ?_
  refine wpAny_updateSeq hS1 rfl ?_
  rw [hname]
  refine wpAny_pure ⟨plainId_quiet F.plain_max_loop _, ?_⟩
  dsimp only
  obtain ⟨⟨c2, hS2⟩, k2⟩ := upd_seq (ys := #[v1, v1]) hS1
  generalize h1.update S (Obj.mapSeq fun _ => #[v1, v1]) = h2 at hS2 k2
  have hit2 : h2.IsListIter I lx 1 := hit1.at fun o e => (k2 _ (Ne.symm hSI)).trans e
  have hl2 : h2.IsList lx #[v1, v2] := hl1.at fun o e => (k2 _ (Ne.symm hSl)).trans e
  have k02 : ∀ b o, b ≠ I → b ≠ S → s.heap.get? b = some o → h2.get? b = some o := fun b o b1 b2 e => (k2 b b2).trans ((hs1.2 b b1).trans e)
  refine codeAny_builtin F.entry_max_loop ?_
  rw [Around.under_plainId F.plain_max_loop _]
  show wpAny _ A.in1 (seqItems? (.ref S) >>= _) _ _ _
  refine wpAny_bind (wpAny_seqItems hS2 rfl ?_)
  show wpAny _ A.in1 (tryCatch (pyNext (.ref I)) _ >>= _) _ _ _
  refine wpAny_bind (wpAny_tryCatch (wpAny_pyNext_list_item hit2 hl2 (x := v2) rfl fun h3 hit3 hs3 => ?_))
  have hS3 : h3.get? S = _ := (hs3.2 _ hSI).trans hS2
  have hl3 : h3.IsList lx #[v1, v2] := hl2.extBut hs3.extBut hlI
  have k03 : ∀ b o, b ≠ I → b ≠ S → s.heap.get? b = some o → h3.get? b = some o := fun b o b1 b2 e => (hs3.2 b b1).trans (k02 b o b1 b2 e)
  show wpAny _ A.in1 (tryCatch (holding [v2, v2] (richCompare .Gt v2 v1 >>= _)) _ >>= _) _ _ _
  refine wpAny_bind (wpAny_tryCatch (wpAny_holding (wpAny_bind (hcmp _ _ _ k03 ?_))))
  refine wpAny_bind (wpAny_holding (wpAny_truthy_bool ?_))
  refine wpAny_bind (wpAny_letGo (wpAny_pure ?_))
  have fin : ∀ (h4 : Heap) (v : Value) (c4 : Nat), h4.IsListIter I lx 2 → h4.IsList lx #[v1, v2] → h4.get? S = some { cls := .type "list", dict := none, data := .seq #[v, v] c4, slots := #[] } →
      (∀ b o, b ≠ I → b ≠ S → s.heap.get? b = some o → h4.get? b = some o) → v = (if bt = true then v2 else v1) → codeAny (model prog w) A (.builtin "max.loop" ⟨[.ref I, .none, .ref S], []⟩) R { s with heap := h4 } := by
    intro h4 v c4 hit4 hl4 hS4 k04 hv
    refine codeAny_builtin F.entry_max_loop ?_
    rw [Around.under_plainId F.plain_max_loop _]
    show wpAny _ A.in1 (seqItems? (.ref S) >>= _) _ _ _
    refine wpAny_bind (wpAny_seqItems hS4 rfl ?_)
    show wpAny _ A.in1 (tryCatch (pyNext (.ref I)) _ >>= _) _ _ _
    refine wpAny_bind (wpAny_tryCatch (wpAny_pyNext_list_end hh hit4 hl4 rfl fun h5 he => ?_))
    have hS5 := he S _ hSI hS4
    show wpAny _ A.in1 (updateSeq S (fun _ => #[]) >>= _) _ _ _
    refine wpAny_bind ?_
    refine wpAny_updateSeq hS5 rfl (wpAny_bind (wpAny_letGo (wpAny_pure ?_)))
    subst hv
    exact hR _ fun b o b1 b2 e => (Heap.get?_update_other _ _ (Ne.symm b2)).trans (he b o b1 (k04 b o b1 b2 e))
  cases hb : bt with
  | true =>
    simp only [if_true]
    refine wpAny_bind ?_
    refine wpAny_updateSeq hS3 rfl (wpAny_bind (wpAny_letGo ?_))
    rw [hname]
    refine wpAny_pure ⟨plainId_quiet F.plain_max_loop _, ?_⟩
    dsimp only
    obtain ⟨⟨c4, hS4⟩, k4⟩ := upd_seq (ys := #[v2, v2]) hS3
    generalize h3.update S (Obj.mapSeq fun _ => #[v2, v2]) = h4 at hS4 k4
    exact fin h4 v2 c4 (hit3.at fun o e => (k4 _ (Ne.symm hSI)).trans e) (hl3.at fun o e => (k4 _ (Ne.symm hSl)).trans e) hS4 (fun b o b1 b2 e => (k4 b b2).trans (k03 b o b1 b2 e)) (by rw [hb]; rfl)
  | false =>
    simp only [Bool.false_eq_true, if_false]
    refine wpAny_bind (wpAny_letGo ?_)
    rw [hname]
    exact wpAny_pure ⟨plainId_quiet F.plain_max_loop _, fin h3 v1 c2 hit3 hl3 hS3 k03 (by rw [hb]; rfl)⟩
theorem call_max2 {lx : Addr} {v1 v2 : Value} {bt : Bool} (hh : A.handled = none) (hl : s.heap.IsList lx #[v1, v2])
    (hcmp : ∀ (s' : Shared) Q E, s.heap.StaysIn s'.heap → Q (.bool bt) s' → wpAny (model prog w) A.in1 (richCompare .Gt v2 v1) Q E s')
    (hQ : ∀ h', s.heap.StaysIn h' → Q (if bt = true then v2 else v1) { s with heap := h' }) : wpAny (model prog w) A (call (.builtin "max") [.ref lx]) Q E s := by
  have hname : (toString "max" ++ toString ".loop" : String) = "max.loop" := by decide
  have hlt : lx < s.heap.objs.size := by obtain ⟨o, e, _⟩ := hl; exact Heap.lt_size e
  refine call_function_tree F.kind_max F.plain_max F.entry_max (F.args_max1 _) ?_
  show wpAny _ A.in1 (Builtin.Builtins.bindParams "max" ["key", "default"] 0 ⟨[], []⟩ >>= _) _ _ s
  refine wpAny_bind (wpAny_of_eq (show Builtin.Builtins.bindParams "max" ["key", "default"] 0 ⟨[], []⟩ = pure [none, none] from rfl) ?_)
  refine wpAny_bind (wpAny_pure ?_)
  refine wpAny_bind (wpAny_pyIter_list hl ?_)
  refine wpAny_bind (wpAny_newObj_type ?_)
  rw [hname]
  have up : ∀ b o, s.heap.get? b = some o → ((s.heap.push { cls := .type "list_iterator", data := .fields #[.ref lx, .int 0 0] }).push { cls := .type "list", dict := none, data := .seq ([] : List Value).toArray }).get? b = some o := fun b o e => Heap.get?_push_of_some _ (Heap.get?_push_of_some _ e)
  have z : (s.heap.push { cls := .type "list_iterator", data := .fields #[.ref lx, .int 0 0] }).objs.size = s.heap.objs.size + 1 := Heap.size_push ..
  have off : ∀ b o, s.heap.get? b = some o → b ≠ s.heap.objs.size ∧ b ≠ (s.heap.push { cls := .type "list_iterator", data := .fields #[.ref lx, .int 0 0] }).objs.size := fun b o e => by
    have := Heap.lt_size e
    rw [z]; exact ⟨Nat.ne_of_lt this, Nat.ne_of_lt (Nat.lt_succ_of_lt this)⟩
  refine wpAny_pure ⟨plainId_quiet F.plain_max_loop _, codeAny_max2 (bt := bt) hh (Nat.ne_of_lt hlt) (by rw [z]; exact Nat.ne_of_gt (Nat.lt_succ_self _)) (by rw [z]; exact Nat.ne_of_gt (Nat.lt_succ_of_lt hlt)) (fun s' Q E k q => hcmp s' Q E (fun b o e => k b o (off b o e).1 (off b o e).2 (up b o e)) q)
    ⟨_, Heap.get?_push_of_some _ (Heap.get?_push_size _ rfl), rfl, rfl⟩ (hl.at (up lx)) (Heap.get?_push_size _ rfl) fun h' k => hQ h' fun b o e => k b o (off b o e).1 (off b o e).2 (up b o e)⟩
end
end
noncomputable section
open PySem PySem.W PyProof.Rows PySem.Spec PySem.Calls

theorem compTurn_set (elt target iter : PySem.Expr) (scope : Scope) (pos : Pos) (it acc : Value) (env : Env) :
    compTurn (.SetComp elt [⟨target, iter, [], 0⟩] scope pos) 0 it acc env = (do
      standAt iter.pos
      match ← pyNext it with
      | none => pure (.done .next)
      | some v =>
        letOwnedTupleGo target it v
        assign target env v
        let mut ok := true
        for c in ([] : List PySem.Expr) do
          if ok then ok ← isTrue c env (eval c env)
        if ok then
          (do let v ← eval elt env; standAt elt.pos; let _ ← call (.builtin "set.add") [acc, v])
        again (.compLoop (.SetComp elt [⟨target, iter, [], 0⟩] scope pos) 0 it acc env)) := by rfl
section
variable {prog : Program} {w : World} {A : Around} {E : Value → Shared → Prop} {R : Result → Shared → Prop} {s : Shared}
theorem codeAny_compStart_set {elt target iter scope pos it acc env}
    (h0 : codeAny (model prog w) A (.compLoop (.SetComp elt [⟨target, iter, [], 0⟩] scope pos) 0 it acc env) R s)
    (h : wpAny (model prog w) A (pyIter it) (fun it' s' => codeAny (model prog w) A (.compLoop (.SetComp elt [⟨target, iter, [], 0⟩] scope pos) 0 it' acc env) R s')
      (notedBy (model prog w) A env fun x s' => R (.error x) s') s) :
    codeAny (model prog w) A (.compStart (.SetComp elt [⟨target, iter, [], 0⟩] scope pos) 0 it acc env) R s := by
  apply codeAny_of_tree
  change wpAny _ A ((compStart (.SetComp elt [⟨target, iter, [], 0⟩] scope pos) 0 it acc env).onRaise _) _ _ s
  apply wpAny_notedAt
  rw [compStart]
  refine wpAny_bind (wpAny_askSetting (wpAny_ite ?_))
  split
  · exact wpAny_bind (wpAny_pure (wpAny_pure ⟨rfl, h0⟩))
  · refine wpAny_bind (wpAny_rule (wpAny_bind (wpAny_standAt (wpAny_bind ?_))))
    exact wpAny_mono h (fun _ _ x => wpAny_pure ⟨rfl, x⟩) fun _ _ x => x
theorem codeAny_compLoop_set {elt target iter : PySem.Expr} {scope : Scope} {pos : Pos} {it acc : Value} {env : Env} (I : Nat → Shared → Prop)
    (turn : ∀ n s, I n s → wpAny (model prog w) A (pyNext it) (fun r s₁ => match r with
      | none => R (.ok .next) s₁
      | some v => wpAny (model prog w) A (assign target env v) (fun _ s₂ =>
            wpAny (model prog w) A (eval elt env) (fun x s₄ =>
              wpAny (model prog w) A (call (.builtin "set.add") [acc, x]) (fun _ s₅ => ∃ m, m < n ∧ I m s₅) (notedBy (model prog w) A env fun e s' => R (.error e) s') s₄) (notedBy (model prog w) A env fun e s' => R (.error e) s') s₂)
            (notedBy (model prog w) A env fun e s' => R (.error e) s') s₁) (notedBy (model prog w) A env fun e s' => R (.error e) s') s)
    (n : Nat) (h : I n s) (ht : ∀ v, letOwnedTupleGo target it v = pure () := by intro _; rfl) :
    codeAny (model prog w) A (.compLoop (.SetComp elt [⟨target, iter, [], 0⟩] scope pos) 0 it acc env) R s := by
  refine codeAny_loop rfl I (fun n s hI => ?_) n h
  show wpAny _ A ((compTurn (.SetComp elt [⟨target, iter, [], 0⟩] scope pos) 0 it acc env).onRaise (fun x => do noteFrame x env; theTreesLotGoes x)) _ _ s
  refine wpAny_noted ?_
  rw [compTurn_set]
  refine wpAny_bind (wpAny_standAt (wpAny_bind (wpAny_mono (turn n s hI) (fun r s₁ h₁ => ?_) fun _ _ h' => h')))
  cases r with
  | none => exact wpAny_pure h₁
  | some v =>
    refine wpAny_bind (wpAny_of_eq (ht v) ?_)
    refine wpAny_bind (wpAny_mono h₁ (fun _ s₂ h₂ => wpAny_bind (wpAny_tests_nil ?_)) fun _ _ h' => h')
    simp only [if_true]
    exact wpAny_bind (wpAny_bind (wpAny_mono h₂ (fun x s₄ h₄ => wpAny_bind (wpAny_standAt (wpAny_bind (wpAny_mono h₄ (fun _ s₅ h₅ => wpAny_pure (wpAny_pure ⟨rfl, h₅⟩)) fun _ _ h' => h')))) fun _ _ h' => h'))
end
section
variable {prog : Program} {w : World} {A : Around} {s : Shared} {env : Env} {h₀ : Heap} {L : Addr} {m : Str → Option Value} {news : List (Addr × Obj)} {Q : Value → Shared → Prop} {E : Value → Shared → Prop}
/-- the block of a set comprehension over a tuple, each element True -/
theorem set_block {elt iter : PySem.Expr} {x : Str} {px : Pos} {scope : Scope} {cl : List (Str × Addr)} {pos : Pos} {ax I D C : Addr} {its : Array Value} {led : Bool} {s₁ : Shared} {R : Result → Shared → Prop} {m' : Str → Option Value}
    (hh : A.handled = none) (hx : scope.names.lookup x = some .local) (hkind : scope.kind = .function) (F : Fr h₀ L s.heap m) (N : News h₀ L s.heap news) (hm : (ax, tupO its) ∈ news) (h0 : 0 < its.size)
    (helt : ∀ C v s₂ m₂ E', v ∈ its → s₂.heap.Ns C m₂ → m₂ x = some v → s.heap.StaysIn s₂.heap → s.toks ≤ s₂.toks → Fr h₀ L s₂.heap m → News h₀ L s₂.heap news →
      wpAny (model prog w) A (eval elt (compEnvC scope cl C env)) (fun y s₃ => y = .bool true ∧ Keeps s₂ s₃) E' s₂)
    (hIn : s.heap.get? I = none) (hDn : s.heap.get? D = none) (hCn : s.heap.get? C = none) (hID : I ≠ D) (hIC : I ≠ C) (hDC : D ≠ C)
    (e1 : ∃ h₁ tk, s₁ = { s with heap := h₁, toks := tk } ∧ s.toks ≤ tk ∧ s.heap.StaysIn h₁ ∧ h₁.IsTupleIter I ax 0 ∧ h₁.get? D = some (setO0 led) ∧ h₁.Ns C m')
    (hR : ∀ h' tk m'', s.toks ≤ tk → s.heap.StaysIn h' → h'.get? D = some (setO1 led 1) → h'.Ns C m'' → R (.ok .next) { s with heap := h', toks := tk }) :
    codeAny (model prog w) A (.compLoop (.SetComp elt [⟨.Name x px, iter, [], 0⟩] scope pos) 0 (.ref I) (.ref D) (compEnvC scope cl C env)) R s₁ := by
  have nI : ∀ b o, s.heap.get? b = some o → b ≠ I := fun b o e q => by rw [q, hIn] at e; cases e
  have nD : ∀ b o, s.heap.get? b = some o → b ≠ D := fun b o e q => by rw [q, hDn] at e; cases e
  have nC : ∀ b o, s.heap.get? b = some o → b ≠ C := fun b o e q => by rw [q, hCn] at e; cases e
  have hax := (N _ hm).1
  obtain ⟨h₁, tk₁, rfl, htk₁, hk₁, hit₁, hD₁, hn₁⟩ := e1
  refine codeAny_compLoop_set
    (fun k s' => ∃ h' tk i m', s' = { s with heap := h', toks := tk } ∧ i ≤ its.size ∧ k = its.size + 1 - i ∧ s.toks ≤ tk ∧ s.heap.StaysIn h' ∧ h'.IsTupleIter I ax i ∧ h'.get? D = some (if i = 0 then setO0 led else setO1 led 1) ∧ h'.Ns C m') ?_ (its.size + 1)
    ⟨h₁, tk₁, 0, m', rfl, Nat.zero_le _, rfl, htk₁, hk₁, hit₁, hD₁, hn₁⟩
  rintro k s' ⟨h', tk, i, m', rfl, hi, rfl, htk, hk, hit, hD, hn⟩
  have ht : h'.IsTuple ax its := ⟨_, hk _ _ hax, rfl, _, rfl⟩
  by_cases hlt : i < its.size
  · refine wpAny_pyNext_tuple_item hit ht (x := its[i]) (by simp [hlt]) fun h₂ hit₂ hs₂ => ?_
    have hD₂ : h₂.get? D = _ := (hs₂.2 _ (Ne.symm hID)).trans hD
    refine wpAny_assign_Name (wpAny_storeName_local (lookup_relabel_local hx) (hn.sameBut hs₂ (Ne.symm hIC)) (fun h₃ hn₃ hs₃ => ?_) (by simp [compEnvC, relabel, hkind]))
    have hk₃ : s.heap.StaysIn h₃ := fun b o e => (hs₃.2 b (nC b o e)).trans ((hs₂.2 b (nI b o e)).trans (hk b o e))
    have hit₃ : h₃.IsTupleIter I ax (i + 1) := hit₂.at fun o e => (hs₃.2 _ hIC).trans e
    have hD₃ : h₃.get? D = _ := (hs₃.2 _ hDC).trans hD₂
    refine wpAny_toks_up ?_
    refine wpAny_mono (helt C its[i] { s with heap := h₃, toks := tk + 1 } _ _ (Array.getElem_mem hlt) hn₃ (by simp) hk₃ (Nat.le_succ_of_le htk) (F.keeps hk₃) (N.grown hk₃)) (fun y s₄ q => ?_) fun _ _ e => e
    obtain ⟨rfl, h₄, tk₄, rfl, k₄⟩ := q
    intro htk₄
    have hk₄ : s.heap.StaysIn h₄ := fun b o e => k₄ b o (hk₃ b o e)
    have hit₄ : h₄.IsTupleIter I ax (i + 1) := hit₃.at fun o e => k₄ _ o e
    have hD₄ : h₄.get? D = _ := k₄ _ _ hD₃
    have hn₄ := hn₃.at' (h' := h₄) fun o e => k₄ _ o e
    have htk₅ : s.toks ≤ tk₄ := Nat.le_trans (Nat.le_succ_of_le htk) htk₄
    by_cases hi0 : i = 0
    · rw [if_pos hi0] at hD₄
      refine add_true0 hD₄ fun h₅ tk₅ h5 hs₅ hD₅ => ?_
      exact ⟨its.size + 1 - (i + 1), by omega, h₅, tk₅, i + 1, _, rfl, hlt, rfl, Nat.le_trans htk₅ h5, fun b o e => (hs₅.2 b (nD b o e)).trans (hk₄ b o e), hit₄.at fun o e => (hs₅.2 _ hID).trans e, by rw [if_neg (Nat.succ_ne_zero _)]; exact hD₅, hn₄.sameBut hs₅ (Ne.symm hDC)⟩
    · rw [if_neg hi0] at hD₄
      refine add_true1 hD₄ fun tk₅ h5 => ?_
      exact ⟨its.size + 1 - (i + 1), by omega, h₄, tk₅, i + 1, _, rfl, hlt, rfl, Nat.le_trans htk₅ h5, hk₄, hit₄, by rw [if_neg (Nat.succ_ne_zero _)]; exact hD₄, hn₄⟩
  · have hin : i = its.size := by omega
    subst hin
    rw [if_neg (by omega)] at hD
    refine wpAny_pyNext_tuple_end hh hit ht (by simp) fun h₂ he => ?_
    exact hR h₂ tk _ htk (fun b o e => he b o (nI b o e) (hk b o e)) (he _ _ (Ne.symm hID) hD) (hn.at' fun o e => he _ o (Ne.symm hIC) e)
theorem setcomp_true {elt iter : PySem.Expr} {x : Str} {px : Pos} {scope : Scope} {cl : List (Str × Addr)} {pos : Pos} {ax : Addr} {its : Array Value}
    (hh : A.handled = none) (hclos : closureFor scope env = pure cl) (hcell : ∀ y ∈ scope.names, y.2 ≠ .cell) (hkind : scope.kind = .function)
    (hnames : ∀ y ∈ scope.names, y.2 = .local → scope.names.lookup y.1 = some .local) (hx : scope.names.lookup x = some .local) (hs : ∀ x, foldedSetIterable iter env x = pure x)
    (F : Fr h₀ L s.heap m) (N : News h₀ L s.heap news) (hm : (ax, tupO its) ∈ news) (hsz : its.size ≤ sizeLine) (h0 : 0 < its.size)
    (hiter : ∀ Q' E', Q' (.ref ax) s → wpAny (model prog w) A (eval iter env) Q' E' s)
    (helt : ∀ C v s₂ m₂ E', v ∈ its → s₂.heap.Ns C m₂ → m₂ x = some v → s.heap.StaysIn s₂.heap → s.toks ≤ s₂.toks → Fr h₀ L s₂.heap m → News h₀ L s₂.heap news →
      wpAny (model prog w) A (eval elt (compEnvC scope cl C env)) (fun y s₃ => y = .bool true ∧ Keeps s₂ s₃) E' s₂)
    (hQ : ∀ D h' tk ep, Fr h₀ L h' m → News h₀ L h' ((D, setO1 (!w.params.followText "set-order") ep) :: news) → (∀ p ∈ news, p.1 < D) → Q (.ref D) { s with heap := h', toks := tk }) :
    wpAny (model prog w) A (eval (.SetComp elt [⟨.Name x px, iter, [], 0⟩] scope pos) env) Q E s := by
  refine wpAny_toks_up ?_
  rw [arm_eval_SetComp]
  refine wpAny_comprehension_free (use := none) rfl hs hclos hkind hnames (hiter _ _ ?_)
  have hl : s.heap.IsTuple ax its := ⟨_, (N _ hm).1, rfl, _, rfl⟩
  have hlt : ax < s.heap.objs.size := Heap.lt_size (N _ hm).1
  refine wpAny_pyIter_tuple hl ?_
  refine new_set ?_
  refine wpAny_newFunctionEnv hcell (by intro y hy; simp at hy) (fun h₁ hns₁ hsb₁ => ?_) hkind
  dsimp only at hns₁ hsb₁ ⊢
  generalize hH1 : s.heap.push { cls := .type "tuple_iterator", data := .fields #[.ref ax, .int 0 0] } = H1 at hns₁ hsb₁ ⊢
  generalize hH2 : H1.push (setO0 (!w.params.followText "set-order")) = H2 at hns₁ hsb₁ ⊢
  have z1 : H1.objs.size = s.heap.objs.size + 1 := by rw [← hH1, Heap.size_push]
  have z2 : H2.objs.size = s.heap.objs.size + 2 := by rw [← hH2, Heap.size_push, z1]
  have fresh : ∀ a, s.heap.objs.size ≤ a → s.heap.get? a = none := fun a ha => by
    cases e : s.heap.get? a with
    | none => rfl
    | some o' => exact absurd (Heap.lt_size e) (Nat.not_lt.mpr ha)
  have c2 : ∀ b o, b < s.heap.objs.size + 2 → H2.get? b = some o → h₁.get? b = some o := fun b o hb e => (hsb₁.2 b (by rw [z2]; exact Nat.ne_of_lt hb)).trans (Heap.get?_push_of_some _ e)
  have up1 : ∀ b o, s.heap.get? b = some o → H1.get? b = some o := fun b o e => hH1 ▸ Heap.get?_push_of_some _ e
  have up2 : ∀ b o, H1.get? b = some o → H2.get? b = some o := fun b o e => hH2 ▸ Heap.get?_push_of_some _ e
  have hk₁ : s.heap.StaysIn h₁ := fun b o e => c2 b o (Nat.lt_add_right 2 (Heap.lt_size e)) (up2 b o (up1 b o e))
  have hit : h₁.IsTupleIter s.heap.objs.size ax 0 := ⟨_, c2 _ _ (Nat.lt_add_of_pos_right (by decide)) (up2 _ _ (hH1 ▸ Heap.get?_push_size _ rfl)), rfl, rfl⟩
  have hD : h₁.get? H1.objs.size = some (setO0 (!w.params.followText "set-order")) := c2 _ _ (by rw [z1]; omega) (hH2 ▸ Heap.get?_push_size _ rfl)
  have loop : ∀ s₃ : Shared, s₃ = { s with heap := h₁, toks := s.toks + ([] : List (Str × Value)).length } → codeAny (model prog w) A (.compLoop (.SetComp elt [⟨.Name x px, iter, [], 0⟩] scope pos) 0 (.ref s.heap.objs.size) (.ref H1.objs.size) (compEnvC scope cl H2.objs.size env))
      (compPost (model prog w) A E none (fun v s' => s.toks ≤ s'.toks → Q v s') (.ref H1.objs.size) H2.objs.size) s₃ := by
    rintro s₃ rfl
    refine set_block (s := s) (news := news) hh hx hkind F N hm h0 helt (fresh _ (Nat.le_refl _)) (fresh _ (by rw [z1]; omega)) (fresh _ (by rw [z2]; omega)) (by rw [z1]; exact Nat.ne_of_lt (Nat.lt_succ_self _)) (by rw [z2]; exact Nat.ne_of_lt (by omega)) (by rw [z1, z2]; exact Nat.ne_of_lt (Nat.lt_succ_self _))
      ⟨h₁, _, rfl, Nat.le_refl _, hk₁, hit, hD, hns₁⟩ fun h' tk m'' htk hk hD' hn' => ?_
    refine ⟨m'', hn', fun h'' hs'' hle => ?_⟩
    have hk'' : s.heap.StaysIn h'' := fun b o e => (hs''.2 b (by rw [z2]; exact Nat.ne_of_lt (Nat.lt_add_right 2 (Heap.lt_size e)))).trans (hk b o e)
    refine hQ _ _ _ 1 (F.keeps hk'') (News.add (N.grown hk'') F ((hs''.2 _ (by rw [z1, z2]; exact Nat.ne_of_lt (Nat.lt_succ_self _))).trans hD') (fresh _ (by rw [z1]; omega))) fun p hp => ?_
    rw [z1]
    exact Nat.lt_succ_of_lt (Heap.lt_size (N p hp).1)
  exact codeAny_compStart_set (loop _ rfl) (wpAny_pyIter_tupleiter hit (loop _ rfl))
end
end
noncomputable section
open PySem PySem.W PyProof.Rows PySem.Spec PySem.Calls

def EnEnd (h₀ : Heap) (L : Addr) (all : List (Addr × Obj)) (J : (Str → Option Value) → Prop) (s₁ s₂ : Shared) : Prop :=
  ∃ h' tk m' news', s₂ = { s₁ with heap := h', toks := tk } ∧ Fr h₀ L h' m' ∧ News h₀ L h' news' ∧ (∀ p ∈ all, p ∈ news') ∧ J m'
def EnPost (h₀ : Heap) (L : Addr) (all : List (Addr × Obj)) (J : (Str → Option Value) → Prop) (s₁ : Shared) (Q : Flow → Shared → Prop) (f : Flow) (s₂ : Shared) : Prop :=
  match f with
  | .ret v => Q (.ret v) s₂
  | .brk => Q .next s₂
  | _ => EnEnd h₀ L all J s₁ s₂
section
variable {prog : Program} {w : World} {A : Around} {s : Shared} {env : Env} {h₀ : Heap} {Q : Flow → Shared → Prop} {E : Value → Shared → Prop}
theorem forE {xi xv : Str} {pi pv pt : Pos} {x1} {body : List Stmt} {e it l : Addr} {items : Array Value} {m : Str → Option Value} {news : List (Addr × Obj)}
    (hh : A.handled = none) (hxi : env.kindOf xi = some .local) (hxv : env.kindOf xv = some .local)
    (hp : (env.scope.kind == .class || (env.scope.kind == .module && env.locals != env.globals)) = false)
    (hei : e ≠ it) (heL : e ≠ env.locals) (hiL : it ≠ env.locals) (hle : l ≠ e) (hli : l ≠ it) (he0 : h₀.get? e = none) (hi0 : h₀.get? it = none)
    (hoff : ∀ p ∈ news, p.1 ≠ e ∧ p.1 ≠ it)
    (he : IsEnum s.heap e it 0 .none) (hit : s.heap.IsListIter it l 0) (hl : ∀ h, (∀ b o, h₀.get? b = some o → h.get? b = some o) → News h₀ env.locals h news → h.IsList l items)
    (F : Fr h₀ env.locals s.heap m) (N : News h₀ env.locals s.heap news)
    (J : Nat → (Str → Option Value) → Prop) (h0 : J 0 m)
    (step : ∀ i v tk' m₁ h tk oe oi, s.toks ≤ tk → items[i]? = some v → J i m₁ → Fr h₀ env.locals h (fun y => if y = xv then some v else if y = xi then some (.int i tk') else m₁ y) → News h₀ env.locals h ((e, oe) :: (it, oi) :: news) →
      wpAny (model prog w) A (execs body env) (EnPost h₀ env.locals ((e, oe) :: (it, oi) :: news) (J (i + 1)) { s with heap := h, toks := tk } Q) (fun _ _ => False) { s with heap := h, toks := tk })
    (done : ∀ h' tk m', s.toks ≤ tk → Fr h₀ env.locals h' m' → News h₀ env.locals h' news → J items.size m' → Q .next { s with heap := h', toks := tk }) :
    codeAny (model prog w) A (.forLoop (.Tuple [.Name xi pi, .Name xv pv] x1 pt) (.ref e) body [] env) (fun r s' => match r with | .ok f => Q f s' | .error e => cameBackBy (model prog w) A env (fun _ _ => False) e s') s := by
  refine codeAny_forLoop_any
    (fun k s' => ∃ h' tk m' i old, s' = { s with heap := h', toks := tk } ∧ s.toks ≤ tk ∧ IsEnum h' e it ((i : Nat) : Int) old ∧ h'.IsListIter it l i ∧ Fr h₀ env.locals h' m' ∧ News h₀ env.locals h' news ∧ J i m' ∧ i ≤ items.size ∧
      k = items.size + 1 - i) ?_ (items.size + 1)
    ⟨s.heap, s.toks, m, 0, .none, rfl, Nat.le_refl _, he, hit, F, N, h0, Nat.zero_le _, rfl⟩
  rintro k s' ⟨H, tk, m', i, old, rfl, htk, he', hit', F', N', hJ, hi, rfl⟩
  have hl' : H.IsList l items := hl H F'.keep N'
  cases hv : items[i]? with
  | none =>
    have hsz : i = items.size := Nat.le_antisymm hi (by simpa using hv)
    refine wpAny_toks_up (wpAny_pyNext_enum_end hh he' hit' hl' hv fun h₁ he₁ => ?_)
    intro htk₁
    refine wpAny_execs_nil ?_
    have F₁ : Fr h₀ env.locals h₁ m' := ⟨F'.ns.extBut he₁ (Ne.symm hiL), fun b o e => he₁ b o (fun q => by rw [q, hi0] at e; cases e) (F'.keep b o e), F'.above⟩
    exact done h₁ tk m' htk F₁ (fun p hp => ⟨he₁ _ _ (hoff p hp).2 (N' p hp).1, (N' p hp).2⟩) (hsz ▸ hJ)
  | some v =>
    have hlt : i < items.size := (Array.getElem?_eq_some_iff.mp hv).1
    have heH : e < H.objs.size := Heap.lt_size he'
    obtain ⟨oi, hoi, hoi2⟩ := id hit'
    have hiH : it < H.objs.size := Heap.lt_size hoi
    have hLH : env.locals < H.objs.size := F'.ns.lt
    refine wpAny_pyNext_enum_item he' hit' hl' hv hei fun h₁ heo hit₁ ht₁ hz₁ hk₁ => ?_
    refine wpAny_letOwnedTupleGo_enum heo fun h₂ he₂ hs₂ => ?_
    replace hs₂ : Heap.SameBut e h₁ h₂ := hs₂
    have ht₂ : h₂.IsTuple H.objs.size #[.int i tk, v] := ⟨_, (hs₂.2 _ (Nat.ne_of_gt heH)).trans ht₁, rfl, _, rfl⟩
    have hz₂ : h₂.objs.size = H.objs.size + 1 := hs₂.1.trans hz₁
    refine wpAny_toks_up (wpAny_assign_Tuple hh ht₂ rfl rfl fun h₃ hx₃ => ?_)
    replace hx₃ : Heap.ExtBut h₂.objs.size h₂ h₃ := hx₃
    have old₃ : ∀ b o, b < H.objs.size → h₂.get? b = some o → h₃.get? b = some o := fun b o hb x => hx₃ b o (by rw [hz₂]; exact Nat.ne_of_lt (Nat.lt_succ_of_lt hb)) x
    have keep₃ : ∀ b o, b ≠ e → b ≠ it → H.get? b = some o → h₃.get? b = some o := fun b o hbe hbi x => old₃ b o (Heap.lt_size x) ((hs₂.2 b hbe).trans (hk₁ b o hbe hbi x))
    have n0 : ∀ b o, h₀.get? b = some o → b ≠ e ∧ b ≠ it := fun b o x => ⟨(fun q => by rw [q, he0] at x; cases x), (fun q => by rw [q, hi0] at x; cases x)⟩
    have F₃ : Fr h₀ env.locals h₃ m' := ⟨F'.ns.at' fun o x => keep₃ _ o (Ne.symm heL) (Ne.symm hiL) x, fun b o x => keep₃ b o (n0 b o x).1 (n0 b o x).2 (F'.keep b o x), F'.above⟩
    have N₃ : News h₀ env.locals h₃ news := fun p hp => ⟨keep₃ _ _ (hoff p hp).1 (hoff p hp).2 (N' p hp).1, (N' p hp).2⟩
    have e₃ : h₃.get? e = some _ := old₃ e _ heH he₂
    have i₃ : h₃.IsListIter it l (i + 1) := (hit₁.extBut hs₂.extBut (Ne.symm hei)).at fun o x => old₃ it o hiH x
    show wpAny _ A (do holding [v] (assign (.Name xi pi) env (.int i tk)); do holding [] (assign (.Name xv pv) env v); pure ()) _ _ _
    refine wpAny_bind (wpAny_holding (wpAny_assign_Name (wpAny_storeName_local hxi F₃.ns (fun h₄ hn₄ hs₄ => ?_) hp)))
    have F₄ := F₃.set hn₄ hs₄
    have N₄ := N₃.set hs₄
    refine wpAny_bind (wpAny_holding (wpAny_assign_Name (wpAny_storeName_local hxv F₄.ns (fun h₅ hn₅ hs₅ => wpAny_pure ?_) hp)))
    have F₅ := F₄.set hn₅ hs₅
    have N₅ := N₄.set hs₅
    have e₅ : h₅.get? e = some _ := (hs₅.2 _ heL).trans ((hs₄.2 _ heL).trans e₃)
    have i₅ : h₅.IsListIter it l (i + 1) := (i₃.at fun o x => (hs₄.2 _ hiL).trans x).at fun o x => (hs₅.2 _ hiL).trans x
    obtain ⟨o5, ho5, hr5⟩ := id i₅
    intro htk₂
    have htk₃ : tk ≤ tk + 1 + 1 + 1 := by omega
    refine wpAny_noRaise ?_
    refine wpAny_mono (wpAny_toks_of (Nat.le_refl _) (step i v tk m' h₅ (tk + 1 + 1 + 1) { cls := .type "enumerate", data := .fields #[.none, .bool false, .ref it, rawInt ((i : Int) + 1), .none, v] } o5 (Nat.le_trans htk htk₃) hv hJ F₅ (fun p hp => ?_))) (fun f s₃ h₆ => ?_) fun _ _ e => e.2
    · rcases List.mem_cons.mp hp with rfl | hp
      · exact ⟨e₅, heL, he0⟩
      · rcases List.mem_cons.mp hp with rfl | hp
        · exact ⟨ho5, hiL, hi0⟩
        · exact N₅ p hp
    obtain ⟨htk₆, h₆⟩ := h₆
    have fin : ∀ {all : List (Addr × Obj)} {oe oi : Obj}, oe = { cls := .type "enumerate", data := .fields #[.none, .bool false, .ref it, rawInt ((i : Int) + 1), .none, v] } → all = (e, oe) :: (it, o5) :: news → EnEnd h₀ env.locals all (J (i + 1)) { s with heap := h₅, toks := tk + 1 + 1 + 1 } s₃ →
        ∃ m, m < items.size + 1 - i ∧ ∃ h' tk m' j old, s₃ = { s with heap := h', toks := tk } ∧ s.toks ≤ tk ∧ IsEnum h' e it ((j : Nat) : Int) old ∧ h'.IsListIter it l j ∧ Fr h₀ env.locals h' m' ∧ News h₀ env.locals h' news ∧ J j m' ∧ j ≤ items.size ∧ m = items.size + 1 - j := by
      rintro all oe oi rfl rfl ⟨h₇, tk₇, m₇, news₇, rfl, F₇, N₇, hsub, hJ₇⟩
      have htk₆ : tk + 1 + 1 + 1 ≤ tk₇ := htk₆
      refine ⟨items.size + 1 - (i + 1), by omega, h₇, tk₇, m₇, i + 1, v, rfl, by omega, ?_, ⟨o5, (N₇ _ (hsub _ (List.mem_cons_of_mem _ List.mem_cons_self))).1, hr5⟩, F₇, fun p hp => N₇ p (hsub p (List.mem_cons_of_mem _ (List.mem_cons_of_mem _ hp))), hJ₇, hlt, rfl⟩
      have : ((i + 1 : Nat) : Int) = (i : Int) + 1 := by push_cast; rfl
      rw [this]
      exact (N₇ _ (hsub _ List.mem_cons_self)).1
    cases f with
    | ret v => exact h₆
    | brk => exact h₆
    | cont => exact fin (oi := o5) rfl rfl h₆
    | next => exact fin (oi := o5) rfl rfl h₆
/-- what the iterable of such a for gives -/
def EnSrc (prog : Program) (w : World) (A : Around) (env : Env) (xi xv : Str) (body : List Stmt) (h₀ : Heap) (Q : Flow → Shared → Prop) (x : Value) (s : Shared) : Prop :=
  ∃ (e it l : Addr) (items : Array Value) (m : Str → Option Value) (news : List (Addr × Obj)) (J : Nat → (Str → Option Value) → Prop), x = .ref e ∧ A.handled = none ∧ e ≠ it ∧ e ≠ env.locals ∧ it ≠ env.locals ∧ l ≠ e ∧ l ≠ it ∧ h₀.get? e = none ∧ h₀.get? it = none ∧
    (∀ p ∈ news, p.1 ≠ e ∧ p.1 ≠ it) ∧ IsEnum s.heap e it 0 .none ∧ s.heap.IsListIter it l 0 ∧ (∀ h, (∀ b o, h₀.get? b = some o → h.get? b = some o) → News h₀ env.locals h news → h.IsList l items) ∧
    Fr h₀ env.locals s.heap m ∧ News h₀ env.locals s.heap news ∧ J 0 m ∧
    (∀ i v tk' m₁ h tk oe oi, s.toks ≤ tk → items[i]? = some v → J i m₁ → Fr h₀ env.locals h (fun y => if y = xv then some v else if y = xi then some (.int i tk') else m₁ y) → News h₀ env.locals h ((e, oe) :: (it, oi) :: news) →
      wpAny (model prog w) A (execs body env) (EnPost h₀ env.locals ((e, oe) :: (it, oi) :: news) (J (i + 1)) { s with heap := h, toks := tk } Q) (fun _ _ => False) { s with heap := h, toks := tk }) ∧
    (∀ h' tk m', s.toks ≤ tk → Fr h₀ env.locals h' m' → News h₀ env.locals h' news → J items.size m' → Q .next { s with heap := h', toks := tk })
theorem for_enum {xi xv : Str} {pi pv pt pos : Pos} {x1} {iter : PySem.Expr} {body : List Stmt} (hxi : env.kindOf xi = some .local) (hxv : env.kindOf xv = some .local)
    (hp : (env.scope.kind == .class || (env.scope.kind == .module && env.locals != env.globals)) = false) (hs : ∀ x, foldedSetIterable iter env x = pure x)
    (h : wpAny (model prog w) A (eval iter env) (EnSrc prog w A env xi xv body h₀ Q) (fun _ _ => False) s) :
    wpAny (model prog w) A (exec (.For (.Tuple [.Name xi pi, .Name xv pv] x1 pt) iter body [] pos) env) Q E s := by
  refine wpAny_noRaise ?_
  refine wpAny_For (wpAny_mono h (fun xval s₁ h₁ => ?_) fun _ _ x => x.elim) hs
  obtain ⟨e, it, l, items, m, news, J, rfl, hh, hei, heL, hiL, hle, hli, he0, hi0, hoff, he, hit, hl, F, N, h0, step, done⟩ := h₁
  exact wpAny_pyIter_enum he (forE hh hxi hxv hp hei heL hiL hle hli he0 hi0 hoff he hit hl F N J h0 step done)
end
end
noncomputable section
open PySem PySem.W PyProof.Rows PySem.Spec PySem.Calls
section
variable {prog : Program} {w : World} {A : Around} {s : Shared} {env : Env} {h₀ : Heap} {L : Addr} {m : Str → Option Value} {news : List (Addr × Obj)} {E : Value → Shared → Prop}
theorem assign_set1 {x : Str} {px pos : Pos} {k : Nat} {a : Addr} {led : Bool} {ep : Nat} {Q : Unit → Shared → Prop} (hLe : env.locals = L) (hh : A.handled = none) (hled : led = !w.params.followText "set-order")
    (hx : env.kindOf x = some .local) (hp : (env.scope.kind == .class || (env.scope.kind == .module && env.locals != env.globals)) = false)
    (F : Fr h₀ L s.heap m) (N : News h₀ L s.heap news) (hm : (a, setO1 led ep) ∈ news)
    (h : ∀ h' tk, Fr h₀ L h' (fun y => if y = x then some (.bool true) else m y) → News h₀ L h' news → Q () { s with heap := h', toks := tk }) :
    wpAny (model prog w) A (assign (.Tuple [.Name x px] k pos) env (.ref a)) Q E s := by
  subst hLe
  rw [arm_assign_Tuple]
  refine wpAny_bind (wpAny_standAt ?_)
  unfold unpack
  refine wpAny_bind (wpAny_holding (unpackItems_set1 hh hled (N _ hm).1 fun h₁ hk => ?_))
  show wpAny _ A (do holding [] (assign (.Name x px) env (.bool true)); pure ()) _ _ _
  refine wpAny_bind (wpAny_holding (wpAny_assign_Name (wpAny_storeName_local hx (F.keeps hk).ns (fun h₂ hn₂ hs₂ => wpAny_pure ?_) hp)))
  exact h h₂ _ ((F.keeps hk).set hn₂ hs₂) ((N.grown hk).set hs₂)
def minL (xs ys : List Str) : List Str := if ltL ys xs = true then ys else xs
def maxL (xs ys : List Str) : List Str := if ltL xs ys = true then ys else xs
variable {Q : Value → Shared → Prop} {lx a b : Addr} {us vs : List (Str × Tok)} {n n2 : Nat}
theorem min_strs {ys : List Value} (hys : ys = [.ref a, .ref b]) (hh : A.handled = none) (hu : A.units + 8 < cLine) (F : Fr h₀ L s.heap m) (N : News h₀ L s.heap news) (hm : (lx, LCg.lst ys) ∈ news) (ha : (a, W.listOf (strValues us).toArray n) ∈ news) (hb : (b, W.listOf (strValues vs).toArray n2) ∈ news) {A' B' : List Str} (hA : us.map (fun x => x.fst) = A') (hB : vs.map (fun x => x.fst) = B')
    (h : ∀ h' p us1 n1, Fr h₀ L h' m → News h₀ L h' news → (p, W.listOf (strValues us1).toArray n1) ∈ news → us1.map (fun x => x.fst) = minL A' B' → Q (.ref p) { s with heap := h' }) :
    wpAny (model prog w) A (call (.builtin "min") [.ref lx]) Q E s := by
  subst hys
  subst hA hB
  refine call_min2 (v1 := .ref a) (v2 := .ref b) (bt := ltL (vs.map (fun x => x.fst)) (us.map (fun x => x.fst))) hh ⟨_, (N _ hm).1, rfl, _, rfl⟩ (fun s' Q' E' k q => rc_lt (k _ _ (N _ hb).1) (k _ _ (N _ ha).1) ?_ q) fun h' hk => ?_
  · show A.units + 1 < cLine
    omega
  · cases hc : ltL (vs.map (fun x => x.fst)) (us.map (fun x => x.fst)) with
    | true => exact h h' b vs n2 (F.keeps hk) (N.grown hk) hb (by unfold minL; rw [if_pos hc])
    | false => exact h h' a us n (F.keeps hk) (N.grown hk) ha (by unfold minL; rw [if_neg (by rw [hc]; decide)])
theorem max_strs {ys : List Value} (hys : ys = [.ref a, .ref b]) (hh : A.handled = none) (hu : A.units + 8 < cLine) (F : Fr h₀ L s.heap m) (N : News h₀ L s.heap news) (hm : (lx, LCg.lst ys) ∈ news) (ha : (a, W.listOf (strValues us).toArray n) ∈ news) (hb : (b, W.listOf (strValues vs).toArray n2) ∈ news) {A' B' : List Str} (hA : us.map (fun x => x.fst) = A') (hB : vs.map (fun x => x.fst) = B')
    (h : ∀ h' p us1 n1, Fr h₀ L h' m → News h₀ L h' news → (p, W.listOf (strValues us1).toArray n1) ∈ news → us1.map (fun x => x.fst) = maxL A' B' → Q (.ref p) { s with heap := h' }) :
    wpAny (model prog w) A (call (.builtin "max") [.ref lx]) Q E s := by
  subst hys
  subst hA hB
  refine call_max2 (v1 := .ref a) (v2 := .ref b) (bt := ltL (us.map (fun x => x.fst)) (vs.map (fun x => x.fst))) hh ⟨_, (N _ hm).1, rfl, _, rfl⟩ (fun s' Q' E' k q => rc_gt (k _ _ (N _ hb).1) (k _ _ (N _ ha).1) ?_ q) fun h' hk => ?_
  · show A.units + 1 < cLine
    omega
  · cases hc : ltL (us.map (fun x => x.fst)) (vs.map (fun x => x.fst)) with
    | true => exact h h' b vs n2 (F.keeps hk) (N.grown hk) hb (by unfold maxL; rw [if_pos hc])
    | false => exact h h' a us n (F.keeps hk) (N.grown hk) ha (by unfold maxL; rw [if_neg (by rw [hc]; decide)])
end
/-! the plain law of least, greatest and what both begin with -/
theorem ltS_or {x y : Str} (h : x ≠ y) : ltS y x = !ltS x y := by
  unfold ltS
  have hne : x.cps.toList ≠ y.cps.toList := fun e => h (PySem.Str.ext' (Array.toList_inj.mp e))
  by_cases h1 : x.cps.toList < y.cps.toList
  · rw [decide_eq_true h1, decide_eq_false (fun h2 => List.lt_irrefl _ (List.lt_trans h1 h2))]; rfl
  · have h2 : y.cps.toList ≤ x.cps.toList := List.not_lt.mp h1
    rw [decide_eq_false h1]
    rcases List.le_iff_lt_or_eq.mp h2 with h3 | h3
    · rw [decide_eq_true h3]; rfl
    · exact absurd h3.symm hne
theorem ltL_or : ∀ {xs ys : List Str}, xs ≠ ys → ltL ys xs = !ltL xs ys
  | [], [], h => absurd rfl h
  | [], y :: ys, _ => rfl
  | x :: xs, [], _ => rfl
  | x :: xs, y :: ys, h => by
    rw [ltL, ltL]
    by_cases e : x = y
    · subst e
      rw [if_pos rfl, if_pos rfl]
      exact ltL_or fun e => h (by rw [e])
    · rw [if_neg e, if_neg (Ne.symm e)]
      exact ltS_or e
def both : List Str → List Str → List Str
  | x :: xs, y :: ys => if x = y then x :: both xs ys else []
  | _, _ => []
theorem both_comm : ∀ xs ys : List Str, both xs ys = both ys xs
  | [], [] => rfl
  | [], _ :: _ => rfl
  | _ :: _, [] => rfl
  | x :: xs, y :: ys => by
    rw [both, both]
    by_cases e : x = y
    · subst e; rw [if_pos rfl, if_pos rfl, both_comm xs ys]
    · rw [if_neg e, if_neg (Ne.symm e)]
theorem min_max (xs ys : List Str) : ltL (maxL xs ys) (minL xs ys) = false ∧ both (minL xs ys) (maxL xs ys) = both xs ys := by
  by_cases e : xs = ys
  · subst e
    have e1 : minL xs xs = xs := by unfold minL; split <;> rfl
    have e2 : maxL xs xs = xs := by unfold maxL; split <;> rfl
    rw [e1, e2]
    exact ⟨ltL_irrefl _, rfl⟩
  · have h := ltL_or e
    cases hc : ltL xs ys with
    | true =>
      rw [hc] at h
      have e1 : minL xs ys = xs := by unfold minL; rw [h]; rfl
      have e2 : maxL xs ys = ys := by unfold maxL; rw [hc]; rfl
      rw [e1, e2]
      exact ⟨h, rfl⟩
    | false =>
      rw [hc] at h
      have e1 : minL xs ys = ys := by unfold minL; rw [h]; rfl
      have e2 : maxL xs ys = xs := by unfold maxL; rw [hc]; rfl
      rw [e1, e2]
      exact ⟨hc, both_comm _ _⟩
theorem le_bound : ∀ {i : Nat} {xs ys : List Str}, ltL ys xs = false → xs.take i = ys.take i → i < xs.length → i < ys.length
  | 0, x :: xs, [], h, _, _ => nomatch h
  | 0, x :: xs, y :: ys, _, _, _ => Nat.succ_pos _
  | i + 1, x :: xs, [], h, _, _ => nomatch h
  | i + 1, x :: xs, y :: ys, h, e, hi => by
    simp only [List.take_succ_cons, List.cons.injEq] at e
    rw [ltL, if_pos e.1.symm] at h
    have := le_bound h e.2 (by simpa using hi)
    simpa using this
theorem both_of : ∀ {i : Nat} {xs ys : List Str}, xs.take i = ys.take i → i ≤ xs.length → i ≤ ys.length → (∀ x y, xs[i]? = some x → ys[i]? = some y → x ≠ y) → both xs ys = xs.take i
  | 0, [], ys, _, _, _, _ => by simp [both]
  | 0, x :: xs, [], _, _, _, _ => by simp [both]
  | 0, x :: xs, y :: ys, _, _, _, h => by
    have := h x y rfl rfl
    simp [both, this]
  | i + 1, [], ys, _, h, _, _ => by simp at h
  | i + 1, x :: xs, [], _, _, h, _ => by simp at h
  | i + 1, x :: xs, y :: ys, e, h1, h2, h => by
    simp only [List.take_succ_cons, List.cons.injEq] at e
    rw [both, if_pos e.1, List.take_succ_cons, both_of e.2 (by simpa using h1) (by simpa using h2) (fun a b ha hb => h a b (by simpa using ha) (by simpa using hb))]

def AllNe (d : Nat) : List (Addr × Obj) → Prop
  | [] => True
  | p :: r => @Ne Nat p.1 d ∧ AllNe d r
theorem allNe_of {h₀ h : Heap} {L D : Addr} : ∀ {news : List (Addr × Obj)}, News h₀ L h news → h.get? D = none → AllNe D news
  | [], _, _ => trivial
  | p :: r, N, e => by
    refine ⟨fun q => ?_, allNe_of (fun x hx => N x (List.mem_cons_of_mem _ hx)) e⟩
    have h1 := (N p List.mem_cons_self).1
    have q' : p.1 = D := q
    rw [q', e] at h1
    cases h1
theorem AllNe.mem {d : Addr} : ∀ {l : List (Addr × Obj)}, AllNe d l → ∀ p ∈ l, p.1 ≠ d
  | [], _, _, hp => nomatch hp
  | q :: r, h, p, hp => by
    rcases List.mem_cons.mp hp with rfl | hp
    · exact h.1
    · exact AllNe.mem h.2 p hp
theorem compEnd_of {h₀ h' : Heap} {L I C D d : Addr} {m : Str → Option Value} {s₁ : Shared} {o oI oC oD : Obj} {S : List (Addr × Obj) → Prop} {rst : Value → List (Addr × Obj) → Prop} {y : Value} {tk : Nat} {rest : List (Addr × Obj)}
    (F : Fr h₀ L h' m) (N : News h₀ L h' ((d, o) :: (I, oI) :: (C, oC) :: (D, oD) :: rest)) (hne : AllNe d ((I, oI) :: (C, oC) :: (D, oD) :: rest)) (off : LCg.Off3 I C D rest) (hS : S ((d, o) :: rest)) (r : rst y ((d, o) :: rest)) :
    LCg.CompEnd h₀ L m s₁ I oI C oC D oD S rst y { s₁ with heap := h', toks := tk } :=
  LCg.CompEnd.intro F N ((d, o) :: rest) (fun p hp => by
    rcases List.mem_cons.mp hp with rfl | hp
    · exact List.mem_cons_of_mem _ List.mem_cons_self
    · rcases List.mem_cons.mp hp with rfl | hp
      · exact List.mem_cons_of_mem _ (List.mem_cons_of_mem _ List.mem_cons_self)
      · rcases List.mem_cons.mp hp with rfl | hp
        · exact List.mem_cons_of_mem _ (List.mem_cons_of_mem _ (List.mem_cons_of_mem _ List.mem_cons_self))
        · rcases List.mem_cons.mp hp with rfl | hp
          · exact List.mem_cons_self
          · exact List.mem_cons_of_mem _ (List.mem_cons_of_mem _ (List.mem_cons_of_mem _ (List.mem_cons_of_mem _ hp))))
    ⟨⟨Ne.symm hne.1, Ne.symm hne.2.1, Ne.symm hne.2.2.1⟩, off⟩ hS r
def keptS (Y c : Str) : Bool := decide ((c.length : Int) ≠ 0) && (c != Y)
def keptV (Y : Str) : Value → Bool
  | .str c _ => keptS Y c
  | _ => false
theorem paired_kept {Y : Str} : ∀ {l us : List (Str × Tok)}, Paired (fun v (u : Str × Tok) => ∃ t, v = .str u.1 t) ((strValues l).filter (keptV Y)) us → us.map (fun x => x.fst) = (l.map (fun x => x.fst)).filter (keptS Y)
  | [], us, h => by
    cases h
    rfl
  | p :: l, us, h => by
    have e : strValues (p :: l) = .str p.1 p.2 :: strValues l := rfl
    rw [e, List.filter_cons, show keptV Y (.str p.1 p.2) = keptS Y p.1 from rfl] at h
    rw [List.map_cons, List.filter_cons]
    cases hk : keptS Y p.1 with
    | true =>
      rw [hk, if_pos rfl] at h
      cases h with
      | cons hg hr =>
        obtain ⟨t, q⟩ := hg
        injection q with q1 q2
        rw [if_pos rfl, List.map_cons, paired_kept hr, q1]
    | false =>
      rw [hk, if_neg (by decide)] at h
      rw [if_neg (by decide), paired_kept h]
section
variable {prog : Program} {w : World} {A : Around} {s : Shared} {env : Env} {h₀ : Heap} {L : Addr} {m : Str → Option Value} {news : List (Addr × Obj)} {E : Value → Shared → Prop} {Q : Value → Shared → Prop}
/-- [x for x in ITER if x and x != y], y in a cell: the texts that are neither empty nor y's -/
theorem comp_kept {iter : PySem.Expr} {x yn : Str} {p0 p1 p2 p3 p4 p5 p6 : Pos} {scope : Scope} {cl : List (Str × Addr)} {pos : Pos} {l cY : Addr} {oY : Obj} {us : List (Str × Tok)} {Y : Str} {tY : Tok}
    (hh : A.handled = none) (hclos : closureFor scope env = pure cl) (hcell : ∀ y ∈ scope.names, y.2 ≠ .cell) (hkind : scope.kind = .function)
    (hnames : ∀ y ∈ scope.names, y.2 = .local → scope.names.lookup y.1 = some .local) (hx : scope.names.lookup x = some .local) (hs : ∀ x, foldedSetIterable iter env x = pure x)
    (hlx : ∀ C, (compEnvC scope cl C env).kindOf x = some .local) (hlY : ∀ C, (compEnvC scope cl C env).kindOf yn = some .cell) (hdx : (x == ("__debug__" : Str)) = false) (hdY : (yn == ("__debug__" : Str)) = false)
    (hcY : cl.lookup yn = some cY) (hmY : (cY, oY) ∈ news) (hoY : oY.data = .cell (some (.str Y tY)))
    (F : Fr h₀ L s.heap m) (N : News h₀ L s.heap news) (hl : s.heap.IsList l (strValues us).toArray) (hsz : us.length ≤ sizeLine) (hB : ∀ p ∈ us, p.1.length ≤ 1000000) {SP : List Str} (hsp : us.map (fun x => x.fst) = SP)
    (hiter : ∀ Q' E', Q' (.ref l) s → wpAny (model prog w) A (eval iter env) Q' E' s)
    (hQ : ∀ D h' tk us' n, s.toks ≤ tk → us'.map (fun x => x.fst) = SP.filter (keptS Y) → Fr h₀ L h' m → News h₀ L h' ((D, W.listOf (strValues us').toArray n) :: news) → s.heap.StaysIn h' → AllNe D news → Q (.ref D) { s with heap := h', toks := tk }) :
    wpAny (model prog w) A (eval (.ListComp (.Name x p1) [⟨.Name x p0, iter, [.BoolOp .And [.Name x p2, .Compare (.Name x p3) [.NotEq] [.Name yn p4] p5] p6], 0⟩] scope pos) env) Q E s := by
  refine comp_strs (keptV Y) (fun v y => ∃ t, v = .str y t) hh hclos hcell hkind hnames hx hs F N hl (by rw [strValues_len]; exact hsz) hiter ?_ ?_ ?_
  · intro C v s2 m2 E2 hv hn hm hst htk
    obtain ⟨i, hi⟩ := List.mem_iff_getElem?.mp hv
    obtain ⟨⟨c, tc⟩, hp1, rfl⟩ := strValues_get hi
    have hc : c.length ≤ 1000000 := hB _ (List.mem_of_getElem? hp1)
    have N2 := N.grown hst
    have hfit : ¬ (c.length : Int) ≥ 2 ^ 63 := by omega
    refine wpAny_tests_one ?_
    refine isTrue_and (isTrue_plain (ldVarK hn hm (P.truthy_str hfit ?_) hkind (hlx C) hdx))
    cases hz : ((c.length : Int) != 0) with
    | false =>
      rw [if_neg (by decide)]
      refine ⟨?_, ⟨_, _, rfl, fun _ _ e => e⟩⟩
      have : (c.length : Int) = 0 := by simpa using hz
      show false = keptS Y c
      unfold keptS
      rw [decide_eq_false (fun q => q this)]; rfl
    | true =>
      rw [if_pos rfl]
      have hne : (c.length : Int) ≠ 0 := by simpa using hz
      refine isTrue_and (wpAny_isTrue_Compare1 (ldVarK hn hm (lcf_cell N2 hcY hmY hoY (PyProof.Rows.ne_str (wpAny_truthy_bool ?_)) hkind (hlY C) hdY) hkind (hlx C) hdx))
      have e : keptV Y (.str c tc) = (c != Y) := by
        show keptS Y c = _
        unfold keptS
        rw [decide_eq_true hne]; rfl
      cases hq : (c != Y) with
      | true =>
        rw [if_pos rfl]
        refine isTrue_and_nil ⟨by rw [e, hq], ⟨_, _, rfl, fun _ _ e => e⟩⟩
      | false =>
        rw [if_neg (by decide)]
        exact ⟨by rw [e, hq], ⟨_, _, rfl, fun _ _ e => e⟩⟩
  · intro C v s2 m2 E2 hv hpv hn hm hst htk F2 N2
    obtain ⟨i, hi⟩ := List.mem_iff_getElem?.mp hv
    obtain ⟨⟨c, tc⟩, hp1, rfl⟩ := strValues_get hi
    exact ldVarK hn hm ⟨⟨c, tc, ⟨tc, rfl⟩, rfl⟩, ⟨_, _, rfl, fun _ _ e => e⟩⟩ hkind (hlx C) hdx
  · intro D h2 tk2 us2 n2 htk2 hP F2 N2 K2 hD2
    exact hQ D h2 tk2 us2 n2 htk2 (hsp ▸ paired_kept hP) F2 N2 K2 (allNe_of N hD2)
end
section
variable {prog : Program} {w : World} {A : Around} {s : Shared} {env : Env} {h₀ : Heap} {L : Addr} {m : Str → Option Value} {news : List (Addr × Obj)} {E : Value → Shared → Prop}
theorem item_strs {value slice : PySem.Expr} {i : Nat} {k : Int} {u : Tok} {l : Addr} {us : List (Str × Tok)} {n : Nat} {Q : Value → Shared → Prop} (N : News h₀ L s.heap news) (hm : (l, W.listOf (strValues us).toArray n) ∈ news) (hk : k = (i : Nat)) (hi : i < us.length) (hx : us.length ≤ 10000000)
    (h : ∀ c tc, us[i]? = some (c, tc) → Q (.str c tc) s)
    (hs : subscripted slice false (.ref l) (.int k u) = operate [.ref l, .int k u] (getItem (.ref l) (.int k u))) :
    wpAny (model prog w) A (subscriptTail value slice (.ref l) (.int k u)) Q E s := by
  subst hk
  have hl := News.isList N hm
  have e : (strValues us)[i]? = some (.str us[i].1 us[i].2) := by unfold strValues; rw [List.getElem?_map, List.getElem?_eq_getElem hi]; rfl
  exact tail_any hl.typeIs slot_list_getitem.lookup (wpAny_getItem_list hl (by omega) (by omega) (x := .str us[i].1 us[i].2) (by simpa using e) (h _ _ (List.getElem?_eq_getElem hi))) hs
theorem enum_src {xi xv : Str} {body : List Stmt} {l : Addr} {us : List (Str × Tok)} {n : Nat} {Q : Flow → Shared → Prop} (hh : A.handled = none) (F : Fr h₀ env.locals s.heap m) (N : News h₀ env.locals s.heap news) (hm : (l, W.listOf (strValues us).toArray n) ∈ news)
    (J : Nat → (Str → Option Value) → Prop) (h0 : J 0 m)
    (step : ∀ i c tc tk' m₁ h tk e it oe oi, s.toks ≤ tk → us[i]? = some (c, tc) → J i m₁ → Fr h₀ env.locals h (fun y => if y = xv then some (.str c tc) else if y = xi then some (.int i tk') else m₁ y) → News h₀ env.locals h ((e, oe) :: (it, oi) :: news) →
      (∀ p ∈ news, p.1 < it) → (@LT.lt Nat _ it e) →
      wpAny (model prog w) A (execs body env) (EnPost h₀ env.locals ((e, oe) :: (it, oi) :: news) (J (i + 1)) { s with heap := h, toks := tk } Q) (fun _ _ => False) { s with heap := h, toks := tk })
    (done : ∀ h' tk m', s.toks ≤ tk → Fr h₀ env.locals h' m' → News h₀ env.locals h' news → J us.length m' → Q .next { s with heap := h', toks := tk }) :
    wpAny (model prog w) A (call (.type "enumerate") [.ref l]) (EnSrc prog w A env xi xv body h₀ Q) E s := by
  have hl := (N _ hm).1
  refine call_enumerate_1 hl fun h' he hit hz hk => ?_
  have fresh : ∀ a, s.heap.objs.size ≤ a → h₀.get? a = none := fun a ha => by
    cases e : h₀.get? a with
    | none => rfl
    | some o' => exact absurd (Heap.lt_size (F.keep a o' e)) (Nat.not_lt.mpr ha)
  have lt1 : ∀ p ∈ news, p.1 < s.heap.objs.size := fun p hp => Heap.lt_size (N p hp).1
  have hL : env.locals < s.heap.objs.size := F.ns.lt
  have ll := lt1 _ hm
  refine ⟨s.heap.objs.size + 1, s.heap.objs.size, l, (strValues us).toArray, m, news, J, rfl, hh, Nat.succ_ne_self _, Nat.ne_of_gt (Nat.lt_succ_of_lt hL), Nat.ne_of_gt hL, Nat.ne_of_lt (Nat.lt_succ_of_lt ll), Nat.ne_of_lt ll, fresh _ (Nat.le_succ _), fresh _ (Nat.le_refl _),
    fun p hp => ⟨Nat.ne_of_lt (Nat.lt_succ_of_lt (lt1 p hp)), Nat.ne_of_lt (lt1 p hp)⟩, he, hit, fun h _ N' => News.isList N' hm, F.keeps hk, N.grown hk, h0, ?_, ?_⟩
  · intro i v tk' m₁ h tk oe oi htk hv hJ F' N'
    obtain ⟨p, hp, rfl⟩ := strValues_get (l := us) (i := i) (v := v) (by simpa using hv)
    exact step i p.1 p.2 tk' m₁ h tk _ _ oe oi htk hp hJ F' N' lt1 (Nat.lt_succ_self _)
  · intro h' tk m' htk F' N' hJ
    exact done h' tk m' htk F' N' (by rw [sv_size] at hJ; exact hJ)
end
section
variable {A B : List Str} {us1 us2 : List (Str × Tok)} {i : Nat} {c c' : Str} {tc tc' : Tok}
theorem cp_lt (h1 : us1.map (fun x => x.fst) = minL A B) (h2 : us2.map (fun x => x.fst) = maxL A B) (hp : (us1.map (fun x => x.fst)).take i = (us2.map (fun x => x.fst)).take i) (hi : us1[i]? = some (c, tc)) : i < us2.length := by
  have hlt := (List.getElem?_eq_some_iff.mp hi).1
  have := le_bound (i := i) (xs := us1.map (fun x => x.fst)) (ys := us2.map (fun x => x.fst)) (by rw [h1, h2]; exact (min_max A B).1) hp (by simpa using hlt)
  simpa using this
theorem cp_next (hp : (us1.map (fun x => x.fst)).take i = (us2.map (fun x => x.fst)).take i) (hi : us1[i]? = some (c, tc)) (hi2 : us2[i]? = some (c', tc')) (e : (c != c') = false) : (us1.map (fun x => x.fst)).take (i + 1) = (us2.map (fun x => x.fst)).take (i + 1) := by
  have e' : c = c' := by simpa using e
  rw [take_succ_of (x := c) (by rw [List.getElem?_map, hi]; rfl), take_succ_of (x := c') (by rw [List.getElem?_map, hi2]; rfl), hp, e']
theorem cp_brk (h1 : us1.map (fun x => x.fst) = minL A B) (h2 : us2.map (fun x => x.fst) = maxL A B) (hp : (us1.map (fun x => x.fst)).take i = (us2.map (fun x => x.fst)).take i) (hi : us1[i]? = some (c, tc)) (hi2 : us2[i]? = some (c', tc')) (e : (c != c') = true) :
    (us1.take i).map (fun x => x.fst) = both A B := by
  have hlt := (List.getElem?_eq_some_iff.mp hi).1
  have hlt2 := (List.getElem?_eq_some_iff.mp hi2).1
  rw [← (min_max A B).2, ← h1, ← h2, both_of hp (by rw [List.length_map]; omega) (by rw [List.length_map]; omega), List.map_take]
  intro x y hx hy q
  rw [List.getElem?_map, hi] at hx
  rw [List.getElem?_map, hi2] at hy
  cases hx; cases hy
  simp at e
  exact e q
theorem cp_done (h1 : us1.map (fun x => x.fst) = minL A B) (h2 : us2.map (fun x => x.fst) = maxL A B) (hp : (us1.map (fun x => x.fst)).take us1.length = (us2.map (fun x => x.fst)).take us1.length) : us1.map (fun x => x.fst) = both A B := by
  have hlen := congrArg List.length hp
  simp only [List.length_take, List.length_map, Nat.min_self] at hlen
  have hle : us1.length ≤ us2.length := by omega
  rw [← (min_max A B).2, ← h1, ← h2, both_of hp (by simp) (by simpa using hle)]
  · rw [List.take_of_length_le (by simp)]
  · intro x y hx hy
    rw [List.getElem?_map, List.getElem?_eq_none (Nat.le_refl _)] at hx
    cases hx
end
theorem pick_strs {us : List (Str × Tok)} {i : Nat} : kms_pick (strValues us).toArray.toList none (some ((i : Nat) : Int)) = strValues (us.take i) := by
  unfold kms_pick kms_lo kms_hi
  simp only [List.drop_zero, Nat.sub_zero, if_neg (show ¬ ((i : Nat) : Int) < 0 by omega), Int.toNat_natCast]
  rw [kmk_take_min]
  simp [strValues]
theorem cp_len {A B : List Str} {us1 : List (Str × Tok)} {K : Nat} (hA : A.length ≤ K) (hB : B.length ≤ K) (h : us1.map (fun x => x.fst) = minL A B ∨ us1.map (fun x => x.fst) = maxL A B) : us1.length ≤ K := by
  rcases h with h | h
  · have e := congrArg List.length h
    rw [List.length_map] at e
    unfold minL at e
    split at e <;> omega
  · have e := congrArg List.length h
    rw [List.length_map] at e
    unfold maxL at e
    split at e <;> omega
noncomputable def compsS (V : Str) : List Str := (Txt.split V (Str.ofString "/")).filter (keptS (Str.ofString "."))
theorem compsS_len {V : Str} (h : V.length ≤ 1000000) : (compsS V).length ≤ 10000000 := by
  unfold compsS
  refine Nat.le_trans (List.length_filter_le _ _) ?_
  refine Nat.le_trans (split_le V (Str.ofString "/")) ?_
  omega
end
noncomputable section
open PySem PySem.W PyProof.Rows PySem.Spec PySem.Calls
section
variable {prog : Program} {w : World} {A : Around} {E : Value → Shared → Prop}
theorem kind_isn : builtinKind "issubclass.nested" = none := by decide +kernel
theorem plain_isn : plainId "issubclass.nested" = true := by decide +kernel
theorem args_isn (a b c : Value) : argsOk "issubclass.nested" ⟨[a, b, c], []⟩ := by unfold argsOk; kernel_rfl
theorem sub_strstr : isSubtype (.type "str") (.type "str") = pure true := by rw [isSubtype_type]; kernel_rfl
theorem type_str : typeOf (.type "str") = pure (.type "type") := by rfl
theorem isn_strstr {k : Value} {dep : Int} {tk : Tok} {s : Shared} {Q : Fin → Shared → Prop} (hk : k = .int dep tk) (hq : Q (.done (.ret (.bool true))) s) :
    wpAny (model prog w) A (Builtin.«issubclass.nested» ⟨[.type "str", .type "str", k], []⟩) Q E s := by
  subst hk
  have hm := type_str
  have hs := sub_strstr
  repeat (any_goals (first | assumption | (rw [if_pos rfl]) | (rw [hs]) | wp_step))
theorem isn_meets (k : Value) (hk : ∃ dep tk, k = .int dep tk) : Meets (Builtin.«issubclass.nested» ⟨[.type "str", .type "str", k], []⟩) (fun _ R s => R (.ok (.ret (.bool true))) s) := by
  obtain ⟨d, tk, e⟩ := hk
  exact fun _ _ _ _ _ hs => isn_strstr e hs
theorem isn_tuple {tp : Addr} {tk : Tok} {s : Shared} {Q : Fin → Shared → Prop} {cs : List Value} (hcs : cs = [.type "str", .type "bytes"]) (htp : s.heap.get? tp = some { cls := .type "tuple", data := .seq cs.toArray })
    (hq : Q (.done (.ret (.bool true))) s) : wpAny (model prog w) A (Builtin.«issubclass.nested» ⟨[.type "str", .ref tp, .int 0 tk], []⟩) Q E s := by
  obtain ⟨h, g, d, t, os⟩ := s
  have hT2 : (⟨h, g, d, t, os⟩ : Shared).TypeIs (.ref tp) "tuple" := ⟨_, htp, rfl⟩
  have f1 := F.isi_sub_tuple
  repeat (any_goals (first | assumption | wp_step))
  refine wpAny_arrayLoop ?_
  simp only [Option.getD_some, List.toList_toArray]
  subst hcs
  rw [List.forIn_cons]
  refine wpAny_bind (wpAny_bind (call_function_meets kind_isn plain_isn F.entry_issubclass_nested (args_isn _ _ _) (isn_meets _ ⟨_, _, rfl⟩) ?_))
  show wpAny _ _ (truthy (.bool true) >>= _) _ _ _
  refine wpAny_bind (m := truthy (.bool true)) (wpAny_pure ?_)
  refine wpAny_bind (wpAny_pure (wpAny_pure (wpAny_pure ?_)))
  repeat (any_goals (first | assumption | wp_step))
theorem issub_meets (tp : Addr) : Meets (Builtin.«issubclass» ⟨[.type "str", .ref tp], []⟩)
    (fun _ R s => s.heap.get? tp = some { cls := .type "tuple", data := .seq #[.type "str", .type "bytes"] } ∧ R (.ok (.ret (.bool true))) s) :=
  fun _ _ _ _ _ hs => issubclass_outer (isn_tuple rfl hs.1 hs.2)
theorem issub_call {tp : Addr} {s : Shared} {Q : Value → Shared → Prop} (htp : s.heap.get? tp = some { cls := .type "tuple", data := .seq #[.type "str", .type "bytes"] }) (h : Q (.bool true) s) :
    wpAny (model prog w) A (call (.builtin "issubclass") [.type "str", .ref tp]) Q E s :=
  call_issubclass (issub_meets tp) ⟨htp, h⟩
end
end
open PySem.Spec PySem.Calls
local macro_rules | `(tactic| walk_at "execs cons") => `(tactic| (k_here; (with_reducible refine wpAny_execs_cons ?_); try dsimp only))
local macro_rules | `(tactic| walk_at "execs nil") => `(tactic| (k_here; (with_reducible refine wpAny_execs_nil ?_); try dsimp only))
local macro_rules | `(tactic| walk_at "call builtin:str.replace") => `(tactic| (k_here; k_extra "replace"))
local macro_rules | `(tactic| walk_at "call builtin:issubclass") => `(tactic| (k_here; k_dflt (refine' issub_call ?k1 ?_; (case k1 => (refine' News.get ?kN ?km; (case kN => k_asm); (case km => k_mem))); k_whole)))
local macro_rules | `(tactic| walk_at "call ref") => `(tactic| (k_here; k_extra "use"))
local macro_rules | `(tactic| walk_at "exec For Name Name cons nil") => `(tactic| (k_here; k_dflt (k_extra "for")))
local macro_rules | `(tactic| walk_at "exec While Compare cons nil") => `(tactic| (k_here; k_dflt (k_extra "while")))
local macro_rules | `(tactic| walk_at "exec While Name cons nil") => `(tactic| (k_here; k_dflt (k_extra "while")))
local macro_rules | `(tactic| walk_at "exec While BoolOp cons nil") => `(tactic| (k_here; k_dflt (k_extra "while")))
local macro_rules | `(tactic| walk_at "call builtin:str.join") => `(tactic| (k_here; k_dflt (k_extra "join")))
local macro_rules | `(tactic| walk_at "truthy ref") => `(tactic| (k_here; k_dflt (k_extra "truthy")))
local macro_rules | `(tactic| walk_at "call builtin:list.append") => `(tactic| (k_here; k_dflt (k_extra "append")))
local macro_rules | `(tactic| walk_at "call builtin:list.pop") => `(tactic| (k_here; k_dflt (k_extra "pop")))
local macro_rules | `(tactic| walk_at "subscriptTail Name UnaryOp ref int") => `(tactic| (k_here; k_dflt (k_extra "item")))
local macro_rules | `(tactic| walk_at "call builtin:iter") => `(tactic| (k_here; k_dflt (k_extra "iter")))
local macro_rules | `(tactic| walk_at "compareOp Is str ref") => `(tactic| (k_here; refine is_str_ref ?_))
local macro_rules | `(tactic| walk_at "call builtin:isinstance") => `(tactic| (k_here; (with_reducible show wpAny _ _ (call (Value.builtin "isinstance") [Value.ref _, Value.type _]) _ _ _); k_dflt (k_extra "isi")))
local macro_rules | `(tactic| walk_at "eval ListComp") => `(tactic| (k_here; k_dflt (k_extra "comp")))
local macro_rules | `(tactic| walk_at "call builtin:len") => `(tactic| (k_here; (with_reducible show wpAny _ _ (call (Value.builtin "len") [Value.ref _]) _ _ _); k_dflt (k_extra "len")))
local macro_rules | `(tactic| walk_at "subscriptTail Name Name ref int") => `(tactic| (k_here; k_dflt (k_extra "item")))
local macro_rules | `(tactic| walk_at "subscriptTail Name Slice ref ref") => `(tactic| (k_here; k_dflt (k_extra "slice")))
local macro_rules | `(tactic| walk_at "binaryOp Add ref ref") => `(tactic| (k_here; k_dflt (k_extra "add")))
local macro_rules | `(tactic| walk_at "compareOp Eq") => `(tactic| (k_here; k_dflt (k_extra "eq")))
local macro_rules | `(tactic| walk_at "call type:tuple") => `(tactic| (k_here; k_dflt (k_extra "tuple")))
local macro_rules | `(tactic| walk_at "call type:map") => `(tactic| (k_here; k_dflt (k_extra "map")))
local macro_rules | `(tactic| walk_at "call builtin:sum") => `(tactic| (k_here; k_dflt (k_extra "sum")))
local macro_rules | `(tactic| walk_at "call builtin:min") => `(tactic| (k_here; k_dflt (k_extra "min")))
local macro_rules | `(tactic| walk_at "call builtin:max") => `(tactic| (k_here; k_dflt (k_extra "max")))
local macro_rules | `(tactic| walk_at "getMethod ref") => `(tactic| (k_here; k_dflt (k_extra "method")))
local macro_rules | `(tactic| walk_at "exec Try") => `(tactic| (k_here; (with_reducible show wpAny _ _ (exec (PySem.Stmt.Try _ (_ :: _) _ [] _) _) _ _ _); refine wpAny_Try_except ?_))
local macro_rules | `(tactic| walk_at "exec Assign cons ListComp") => `(tactic| (k_here; k_dflt (k_extra "acomp")))
local macro_rules | `(tactic| lcg_src) => `(tactic| k_mem)
local macro_rules | `(tactic| walk_at "call builtin:str.split") => `(tactic| (k_here; k_dflt (k_extra "split")))
local macro_rules | `(tactic| walk_at "eval SetComp") => `(tactic| (k_here; k_dflt (k_extra "setcomp")))
local macro_rules | `(tactic| walk_at "assign Tuple") => `(tactic| (k_here; k_dflt (k_extra "unpack")))
local macro_rules | `(tactic| walk_at "exec For Tuple Call cons nil") => `(tactic| (k_here; k_dflt (k_extra "forenum")))
local macro_rules | `(tactic| walk_at "call type:enumerate") => `(tactic| (k_here; k_dflt (k_extra "enumerate")))
local macro_rules | `(tactic| walk_at "EnSrc") => `(tactic| (k_here; k_dflt (k_extra "ensrc")))
local macro_rules | `(tactic| k_ne) => `(tactic| (refine neN ?_; (try dsimp only); first | assumption | exact Nat.ne_of_gt (by assumption) | exact Nat.ne_of_lt (by assumption) | exact Nat.ne_of_gt (Nat.lt_succ_self _)))

noncomputable section
open PySem PySem.W PyProof.Rows PySem.Spec PySem.Calls
theorem fspath_does (w mean mg mb) (V : Str) (t : Tok) : Does w mean mg mb 110 1 [.str V t] (fun _ => True) (fun _ _ r => r = .str V t) := by
  k_with_none
  k_with "replace" => (refine' replaceM ?k1 ?k2 ?k3 ?k4 ?k5 ?k6 ?_; (case k1 => (show @Ne Nat _ _); omega); (case k2 => (show @Ne Nat _ _); omega); (case k3 => (show @Ne Nat _ _); omega); (case k4 => decide); (case k5 => omega); (case k6 => decide); k_whole; intro tR kR hR; dsimp only at hR)
  k_with "used" => ((case uB => k_asm); (case uF => k_asm); (case uX => k_asm); (case uN => k_asm); (case uT => k_asm); (case uk => first | assumption | exact rfl); (case ud => ktr_room); (case uu => ktr_units); (case ut => (first | exact Nat.succ_pos _ | assumption | omega | (dsimp only; omega))); (case up => k_extra "pre"); k_whole; intro r9 h9 tk9 K9 F9 N9 ht9 hP9; (try dsimp only at ht9 K9))
  k_with "pre" => (first | trivial | assumption)
  k_with "enter" => (refine' enterM ?k1 ?k2 ?k3 ?k5 ?kA ?kF ?kK ?k6 ?k7 ?k8 ?k9 ?kB ?_ ?c2 ?c3 ?c4 ?c5 ?ct; (case kA => exact rfl); (case kF => exact rfl); (case kK => first | assumption | exact rfl); (case k1 => k_asm); (case k2 => k_asm); (case k3 => k_asm); (case k5 => k_asm); (case k6 => k_is); (case k7 => k_is); (case k8 => ktr_room); (case k9 => first | exact BindsTo.of_eq rfl | exact binds_K (by k_in) rfl (by k_is) rfl rfl rfl | exact kp_binds (by k_in) (fun _ => rfl)); (case c5 => decide); (case kB => exact locs rfl); (case c2 => exact rfl); (case c3 => exact rfl); (case c4 => exact rfl); (case ct => assumption); k_whole; intro L' h' tk0 htk0 F' N' B' X' T'; (try dsimp only); (try k_fold))
  k_with "enterR" => (refine' enterR ?k1 ?k2 ?k3 ?k5 ?kA ?kF ?kK ?k6 ?k7 ?k8 ?kV ?kP ?kG ?kB ?_ ?c2 ?c3 ?c4 ?c5 ?ct; (case kA => exact rfl); (case kF => exact rfl); (case kK => first | assumption | exact rfl); (case k1 => k_asm); (case k2 => k_asm); (case k3 => k_asm); (case k5 => k_asm); (case k6 => k_is); (case k7 => k_is); (case k8 => ktr_room); (case kV => kl_lit); (case kP => exact rfl); (case kG => exact fun _ => rfl); (case kB => exact fun _ => locs rfl); (case c5 => decide); (case c2 => exact rfl); (case c3 => exact rfl); (case c4 => exact rfl); (case ct => assumption); k_whole; intro D' L' h' tk0 htk0 hD' F' N' B' X' T'; (try dsimp only); (try k_fold))
  k_with "enterC" => (refine' enterC ?k1 ?k2 ?k3 ?k5 ?kA ?kF ?kK ?k6 ?k7 ?k8 ?k9 ?kB ?kD ?_ ?c2 ?c3 ?c4 ?ct; (case kA => exact rfl); (case kF => exact rfl); (case kK => first | assumption | exact rfl); (case k1 => k_asm); (case k2 => k_asm); (case k3 => k_asm); (case k5 => k_asm); (case k6 => k_is); (case k7 => k_is); (case k8 => ktr_room); (case k9 => first | exact BindsTo.of_eq rfl | exact binds_K (by k_in) rfl (by k_is) rfl rfl rfl | exact kp_binds (by k_in) (fun _ => rfl)); (case kB => exact rfl); (case kD => decide +kernel); (case c2 => exact rfl); (case c3 => exact rfl); (case c4 => exact rfl); (case ct => assumption); k_whole; intro L' h' tk0 cells' htk0 F' N' Y' B' X' T'; (try dsimp only); (try k_fold))
  unfold Does; k_fill
  intro dp un gd cn cs a ccd cl outer A₀ base h₀ L m s Q E B F X T hk hd hu htk hp hret
  refine wpAny_call ?_
  k_extra "enter"
  k_steps
  exact hret _ _ _ (Fr.keep (by k_asm)) rfl
theorem get_sep_does (w mean mg mb) (V : Str) (t : Tok) : Does w mean mg mb 124 1 [.str V t] (fun _ => True) (fun _ _ r => ∃ t', r = .str (Str.ofString "/") t' ∧ t' ≠ 0) := by
  k_with_none
  k_with "replace" => (refine' replaceM ?k1 ?k2 ?k3 ?k4 ?k5 ?k6 ?_; (case k1 => (show @Ne Nat _ _); omega); (case k2 => (show @Ne Nat _ _); omega); (case k3 => (show @Ne Nat _ _); omega); (case k4 => decide); (case k5 => omega); (case k6 => decide); k_whole; intro tR kR hR; dsimp only at hR)
  k_with "used" => ((case uB => k_asm); (case uF => k_asm); (case uX => k_asm); (case uN => k_asm); (case uT => k_asm); (case uk => first | assumption | exact rfl); (case ud => ktr_room); (case uu => ktr_units); (case ut => (first | exact Nat.succ_pos _ | assumption | omega | (dsimp only; omega))); (case up => k_extra "pre"); k_whole; intro r9 h9 tk9 K9 F9 N9 ht9 hP9; (try dsimp only at ht9 K9))
  k_with "pre" => (first | trivial | assumption)
  k_with "enter" => (refine' enterM ?k1 ?k2 ?k3 ?k5 ?kA ?kF ?kK ?k6 ?k7 ?k8 ?k9 ?kB ?_ ?c2 ?c3 ?c4 ?c5 ?ct; (case kA => exact rfl); (case kF => exact rfl); (case kK => first | assumption | exact rfl); (case k1 => k_asm); (case k2 => k_asm); (case k3 => k_asm); (case k5 => k_asm); (case k6 => k_is); (case k7 => k_is); (case k8 => ktr_room); (case k9 => first | exact BindsTo.of_eq rfl | exact binds_K (by k_in) rfl (by k_is) rfl rfl rfl | exact kp_binds (by k_in) (fun _ => rfl)); (case c5 => decide); (case kB => exact locs rfl); (case c2 => exact rfl); (case c3 => exact rfl); (case c4 => exact rfl); (case ct => assumption); k_whole; intro L' h' tk0 htk0 F' N' B' X' T'; (try dsimp only); (try k_fold))
  k_with "enterR" => (refine' enterR ?k1 ?k2 ?k3 ?k5 ?kA ?kF ?kK ?k6 ?k7 ?k8 ?kV ?kP ?kG ?kB ?_ ?c2 ?c3 ?c4 ?c5 ?ct; (case kA => exact rfl); (case kF => exact rfl); (case kK => first | assumption | exact rfl); (case k1 => k_asm); (case k2 => k_asm); (case k3 => k_asm); (case k5 => k_asm); (case k6 => k_is); (case k7 => k_is); (case k8 => ktr_room); (case kV => kl_lit); (case kP => exact rfl); (case kG => exact fun _ => rfl); (case kB => exact fun _ => locs rfl); (case c5 => decide); (case c2 => exact rfl); (case c3 => exact rfl); (case c4 => exact rfl); (case ct => assumption); k_whole; intro D' L' h' tk0 htk0 hD' F' N' B' X' T'; (try dsimp only); (try k_fold))
  k_with "enterC" => (refine' enterC ?k1 ?k2 ?k3 ?k5 ?kA ?kF ?kK ?k6 ?k7 ?k8 ?k9 ?kB ?kD ?_ ?c2 ?c3 ?c4 ?ct; (case kA => exact rfl); (case kF => exact rfl); (case kK => first | assumption | exact rfl); (case k1 => k_asm); (case k2 => k_asm); (case k3 => k_asm); (case k5 => k_asm); (case k6 => k_is); (case k7 => k_is); (case k8 => ktr_room); (case k9 => first | exact BindsTo.of_eq rfl | exact binds_K (by k_in) rfl (by k_is) rfl rfl rfl | exact kp_binds (by k_in) (fun _ => rfl)); (case kB => exact rfl); (case kD => decide +kernel); (case c2 => exact rfl); (case c3 => exact rfl); (case c4 => exact rfl); (case ct => assumption); k_whole; intro L' h' tk0 cells' htk0 F' N' Y' B' X' T'; (try dsimp only); (try k_fold))
  unfold Does; k_fill
  intro dp un gd cn cs a ccd cl outer A₀ base h₀ L m s Q E B F X T hk hd hu htk hp hret
  refine wpAny_call ?_
  k_extra "enter"
  k_steps
  refine hret _ _ _ (Fr.keep (by k_asm)) ⟨_, rfl, ?_⟩
  show @Ne Nat (tk0 + 1) 0
  omega
noncomputable def hideS (V : Str) : Str := Txt.replace (Txt.replace V (Str.ofString "~") (Str.ofString "~0")) (Str.ofString "/") (Str.ofString "~1")
noncomputable def showS (V : Str) : Str := Txt.replace (Txt.replace V (Str.ofString "~1") (Str.ofString "/")) (Str.ofString "~0") (Str.ofString "~")
theorem hide_does (w mean mg mb) (V : Str) (t : Tok) (hV : V.length ≤ 1000000) (hV2 : (Txt.replace V (Str.ofString "~") (Str.ofString "~0")).length ≤ 1000000) : Does w mean mg mb 178 1 [.str V t] (fun _ => True) (fun _ _ r => ∃ t', r = .str (hideS V) t') := by
  k_with_none
  k_with "replace" => (refine' replaceM ?k1 ?k2 ?k3 ?k4 ?k5 ?k6 ?_; (case k1 => (show @Ne Nat _ _); omega); (case k2 => (show @Ne Nat _ _); omega); (case k3 => (show @Ne Nat _ _); omega); (case k4 => decide); (case k5 => omega); (case k6 => decide); k_whole; intro tR kR hR; dsimp only at hR)
  k_with "used" => ((case uB => k_asm); (case uF => k_asm); (case uX => k_asm); (case uN => k_asm); (case uT => k_asm); (case uk => first | assumption | exact rfl); (case ud => ktr_room); (case uu => ktr_units); (case ut => (first | exact Nat.succ_pos _ | assumption | omega | (dsimp only; omega))); (case up => k_extra "pre"); k_whole; intro r9 h9 tk9 K9 F9 N9 ht9 hP9; (try dsimp only at ht9 K9))
  k_with "pre" => (first | trivial | assumption)
  k_with "enter" => (refine' enterM ?k1 ?k2 ?k3 ?k5 ?kA ?kF ?kK ?k6 ?k7 ?k8 ?k9 ?kB ?_ ?c2 ?c3 ?c4 ?c5 ?ct; (case kA => exact rfl); (case kF => exact rfl); (case kK => first | assumption | exact rfl); (case k1 => k_asm); (case k2 => k_asm); (case k3 => k_asm); (case k5 => k_asm); (case k6 => k_is); (case k7 => k_is); (case k8 => ktr_room); (case k9 => first | exact BindsTo.of_eq rfl | exact binds_K (by k_in) rfl (by k_is) rfl rfl rfl | exact kp_binds (by k_in) (fun _ => rfl)); (case c5 => decide); (case kB => exact locs rfl); (case c2 => exact rfl); (case c3 => exact rfl); (case c4 => exact rfl); (case ct => assumption); k_whole; intro L' h' tk0 htk0 F' N' B' X' T'; (try dsimp only); (try k_fold))
  k_with "enterR" => (refine' enterR ?k1 ?k2 ?k3 ?k5 ?kA ?kF ?kK ?k6 ?k7 ?k8 ?kV ?kP ?kG ?kB ?_ ?c2 ?c3 ?c4 ?c5 ?ct; (case kA => exact rfl); (case kF => exact rfl); (case kK => first | assumption | exact rfl); (case k1 => k_asm); (case k2 => k_asm); (case k3 => k_asm); (case k5 => k_asm); (case k6 => k_is); (case k7 => k_is); (case k8 => ktr_room); (case kV => kl_lit); (case kP => exact rfl); (case kG => exact fun _ => rfl); (case kB => exact fun _ => locs rfl); (case c5 => decide); (case c2 => exact rfl); (case c3 => exact rfl); (case c4 => exact rfl); (case ct => assumption); k_whole; intro D' L' h' tk0 htk0 hD' F' N' B' X' T'; (try dsimp only); (try k_fold))
  k_with "enterC" => (refine' enterC ?k1 ?k2 ?k3 ?k5 ?kA ?kF ?kK ?k6 ?k7 ?k8 ?k9 ?kB ?kD ?_ ?c2 ?c3 ?c4 ?ct; (case kA => exact rfl); (case kF => exact rfl); (case kK => first | assumption | exact rfl); (case k1 => k_asm); (case k2 => k_asm); (case k3 => k_asm); (case k5 => k_asm); (case k6 => k_is); (case k7 => k_is); (case k8 => ktr_room); (case k9 => first | exact BindsTo.of_eq rfl | exact binds_K (by k_in) rfl (by k_is) rfl rfl rfl | exact kp_binds (by k_in) (fun _ => rfl)); (case kB => exact rfl); (case kD => decide +kernel); (case c2 => exact rfl); (case c3 => exact rfl); (case c4 => exact rfl); (case ct => assumption); k_whole; intro L' h' tk0 cells' htk0 F' N' Y' B' X' T'; (try dsimp only); (try k_fold))
  unfold Does; k_fill
  intro dp un gd cn cs a ccd cl outer A₀ base h₀ L m s Q E B F X T hk hd hu htk hp hret
  refine wpAny_call ?_
  k_extra "enter"
  k_steps
  exact hret _ _ _ (Fr.keep (by k_asm)) ⟨_, rfl⟩
theorem show_does (w mean mg mb) (V : Str) (t : Tok) (hV : V.length ≤ 1000000) (hV2 : (Txt.replace V (Str.ofString "~1") (Str.ofString "/")).length ≤ 1000000) : Does w mean mg mb 185 1 [.str V t] (fun _ => True) (fun _ _ r => ∃ t', r = .str (showS V) t') := by
  k_with_none
  k_with "replace" => (refine' replaceM ?k1 ?k2 ?k3 ?k4 ?k5 ?k6 ?_; (case k1 => (show @Ne Nat _ _); omega); (case k2 => (show @Ne Nat _ _); omega); (case k3 => (show @Ne Nat _ _); omega); (case k4 => decide); (case k5 => omega); (case k6 => decide); k_whole; intro tR kR hR; dsimp only at hR)
  k_with "used" => ((case uB => k_asm); (case uF => k_asm); (case uX => k_asm); (case uN => k_asm); (case uT => k_asm); (case uk => first | assumption | exact rfl); (case ud => ktr_room); (case uu => ktr_units); (case ut => (first | exact Nat.succ_pos _ | assumption | omega | (dsimp only; omega))); (case up => k_extra "pre"); k_whole; intro r9 h9 tk9 K9 F9 N9 ht9 hP9; (try dsimp only at ht9 K9))
  k_with "pre" => (first | trivial | assumption)
  k_with "enter" => (refine' enterM ?k1 ?k2 ?k3 ?k5 ?kA ?kF ?kK ?k6 ?k7 ?k8 ?k9 ?kB ?_ ?c2 ?c3 ?c4 ?c5 ?ct; (case kA => exact rfl); (case kF => exact rfl); (case kK => first | assumption | exact rfl); (case k1 => k_asm); (case k2 => k_asm); (case k3 => k_asm); (case k5 => k_asm); (case k6 => k_is); (case k7 => k_is); (case k8 => ktr_room); (case k9 => first | exact BindsTo.of_eq rfl | exact binds_K (by k_in) rfl (by k_is) rfl rfl rfl | exact kp_binds (by k_in) (fun _ => rfl)); (case c5 => decide); (case kB => exact locs rfl); (case c2 => exact rfl); (case c3 => exact rfl); (case c4 => exact rfl); (case ct => assumption); k_whole; intro L' h' tk0 htk0 F' N' B' X' T'; (try dsimp only); (try k_fold))
  k_with "enterR" => (refine' enterR ?k1 ?k2 ?k3 ?k5 ?kA ?kF ?kK ?k6 ?k7 ?k8 ?kV ?kP ?kG ?kB ?_ ?c2 ?c3 ?c4 ?c5 ?ct; (case kA => exact rfl); (case kF => exact rfl); (case kK => first | assumption | exact rfl); (case k1 => k_asm); (case k2 => k_asm); (case k3 => k_asm); (case k5 => k_asm); (case k6 => k_is); (case k7 => k_is); (case k8 => ktr_room); (case kV => kl_lit); (case kP => exact rfl); (case kG => exact fun _ => rfl); (case kB => exact fun _ => locs rfl); (case c5 => decide); (case c2 => exact rfl); (case c3 => exact rfl); (case c4 => exact rfl); (case ct => assumption); k_whole; intro D' L' h' tk0 htk0 hD' F' N' B' X' T'; (try dsimp only); (try k_fold))
  k_with "enterC" => (refine' enterC ?k1 ?k2 ?k3 ?k5 ?kA ?kF ?kK ?k6 ?k7 ?k8 ?k9 ?kB ?kD ?_ ?c2 ?c3 ?c4 ?ct; (case kA => exact rfl); (case kF => exact rfl); (case kK => first | assumption | exact rfl); (case k1 => k_asm); (case k2 => k_asm); (case k3 => k_asm); (case k5 => k_asm); (case k6 => k_is); (case k7 => k_is); (case k8 => ktr_room); (case k9 => first | exact BindsTo.of_eq rfl | exact binds_K (by k_in) rfl (by k_is) rfl rfl rfl | exact kp_binds (by k_in) (fun _ => rfl)); (case kB => exact rfl); (case kD => decide +kernel); (case c2 => exact rfl); (case c3 => exact rfl); (case c4 => exact rfl); (case ct => assumption); k_whole; intro L' h' tk0 cells' htk0 F' N' Y' B' X' T'; (try dsimp only); (try k_fold))
  unfold Does; k_fill
  intro dp un gd cn cs a ccd cl outer A₀ base h₀ L m s Q E B F X T hk hd hu htk hp hret
  refine wpAny_call ?_
  k_extra "enter"
  k_steps
  exact hret _ _ _ (Fr.keep (by k_asm)) ⟨_, rfl⟩
end
noncomputable section
open PySem
open PySem.AutoSeq1 (wpAny_loadPart')

theorem owner_map : Manifest.owners.lookup (String.ofList ['p', 'a', 'm'].reverse) = some Manifest.sig_map := by kernel_rfl
theorem slot_map_iter : Slot "map" "__iter__" "map.__iter__" :=
  .of (owner := "map") (n := "__iter__") (by rw [typeLookup_type, builtinLookup_eq_fast]; kernel_rfl) (by decide +kernel) (by decide +kernel) (by decide +kernel)
    (by first | exact .inl (by decide +kernel) | exact .inr (by decide +kernel)) (by rw [isSubtype_type]; kernel_rfl)
theorem slot_map_next : Slot "map" "__next__" "map.__next__" :=
  .of (owner := "map") (n := "__next__") (by rw [typeLookup_type, builtinLookup_eq_fast]; kernel_rfl) (by decide +kernel) (by decide +kernel) (by decide +kernel)
    (by first | exact .inl (by decide +kernel) | exact .inr (by decide +kernel)) (by rw [isSubtype_type]; kernel_rfl)
theorem slot_map_init : Slot "map" "__init__" "object.__init__" :=
  .of (owner := "object") (n := "__init__") (by rw [typeLookup_type, builtinLookup_eq_fast]; kernel_rfl) (by decide +kernel) (by decide +kernel) (by decide +kernel)
    (by first | exact .inl (by decide +kernel) | exact .inr (by decide +kernel)) (by rw [isSubtype_type]; kernel_rfl)
theorem args_map_iter (a : Value) : argsOk "map.__iter__" ⟨[a], []⟩ := by
  unfold argsOk; rw [signature?_of (id := "map.__iter__") (n := ['_', '_', 'r', 'e', 't', 'i', '_', '_']) (o := ['p', 'a', 'm']) (by kernel_rfl) owner_map]; kernel_rfl
theorem args_map_next (a : Value) : argsOk "map.__next__" ⟨[a], []⟩ := by
  unfold argsOk; rw [signature?_of (id := "map.__next__") (n := ['_', '_', 't', 'x', 'e', 'n', '_', '_']) (o := ['p', 'a', 'm']) (by kernel_rfl) owner_map]; kernel_rfl
theorem entry_map_iter : entryFor table "map.__iter__" = some Builtin.«dict_keyiterator.__iter__» :=
  entryFor_alias (id' := "dict_keyiterator.__iter__") (by kernel_rfl) (by first | rfl | decide +kernel | (unfold String.splitOn; simp +decide [String.splitOnAux])) (by decide +kernel) (by kernel_rfl)
theorem entry_map_next : entryFor table "map.__next__" = some Builtin.«map.__next__» := entryFor_of_tree (by kernel_rfl)
theorem entry_map_new : entryFor table "map.__new__" = some Builtin.«map.__new__» := entryFor_of_tree (by kernel_rfl)
theorem mro_map : mroOf (.type "map") = pure [.type "map", .type "object"] := by rw [mroOf_type]; kernel_rfl
theorem lookup_map_new : typeLookup (.type "map") "__new__" = pure (some (.builtin "map.__new__")) := by rw [typeLookup_type, builtinLookup_eq_fast]; kernel_rfl
theorem called_map : TypeCalled "map" "map.__new__" "object.__init__" :=
  ⟨by decide +kernel, by decide +kernel, ⟨_, _, mro_map⟩, madeBy_type mro_map lookup_map_new (by decide +kernel), by decide +kernel, by rw [isSubtype_type]; kernel_rfl, slot_map_init⟩
theorem typeCall_map_2 (a b : Value) : checkTypeCall "map" ⟨[a, b], []⟩ = pure () := by kernel_rfl
theorem newCall_map_2 (a b : Value) : checkBuiltinCall "map.__new__" ⟨[.type "map", a, b], []⟩ = pure () := by kernel_rfl
theorem sub_map : isSubtype (.type "map") (.type "map") = pure true := by rw [isSubtype_type]; kernel_rfl
theorem map_no_len : typeLookup (.type "map") "__len__" = pure none := by rw [typeLookup_type, builtinLookup_eq_fast]; kernel_rfl
theorem map_no_hint : typeLookup (.type "map") "__length_hint__" = pure none := by rw [typeLookup_type, builtinLookup_eq_fast]; kernel_rfl

abbrev mapOf (T : Addr) (f : Value) : Obj := { cls := .type "map", data := .fields #[.ref T, f] }
abbrev lit (l : Addr) : Obj := { cls := .type "list_iterator", data := .fields #[.ref l, .int 0 0] }
abbrev tupOf (vs : Array Value) : Obj := { cls := .type "tuple", data := .seq vs }
def mapHeap (h : Heap) (f : Value) (l : Addr) : Heap := (((h.push (lit l)).push (tupOf #[.ref h.objs.size])).push (mapOf (h.push (lit l)).objs.size f))
theorem meets_map_new (f : Value) (l : Addr) (items : Array Value) (n : Nat) :
    Meets (Builtin.«map.__new__» ⟨[.type "map", f, .ref l], []⟩) (fun _ R s => s.heap.get? l = some { cls := .type "list", dict := none, data := .seq items n, slots := #[] } ∧
      R (.ok (.ret (.ref ((s.heap.push (lit l)).push (tupOf #[.ref s.heap.objs.size])).objs.size))) { s with heap := mapHeap s.heap f l }) :=
  .of_wp fun prog w A R s h => by
    obtain ⟨hp, g, d, tk, os⟩ := s; obtain ⟨hl, h⟩ := h
    have hsub := sub_map
    have hL : Heap.IsList (Shared.heap ⟨hp, g, d, tk, os⟩) l items := ⟨_, hl, rfl, n, rfl⟩
    wp_walk using wpAny_loadPart' hl, wpAny_pyIter_list hL
    exact ⟨_, rfl, h⟩
section
variable {prog : Program} {w : World} {A : Around} {E : Value → Shared → Prop} {s : Shared}
theorem call_map {f : Value} {l : Addr} {items : Array Value} {n : Nat} {Q : Value → Shared → Prop}
    (hl : s.heap.get? l = some { cls := .type "list", dict := none, data := .seq items n, slots := #[] })
    (h : ∀ h', h'.get? (s.heap.objs.size + 2) = some (mapOf (s.heap.objs.size + 1) f) → h'.get? (s.heap.objs.size + 1) = some (tupOf #[.ref s.heap.objs.size]) → h'.get? s.heap.objs.size = some (lit l) → h'.objs.size = s.heap.objs.size + 3 →
      (∀ b o, s.heap.get? b = some o → h'.get? b = some o) → Q (.ref (s.heap.objs.size + 2)) { s with heap := h' }) :
    wpAny (model prog w) A (call (.type "map") [f, .ref l]) Q E s := by
  have z1 : (s.heap.push (lit l)).objs.size = s.heap.objs.size + 1 := Heap.size_push ..
  have z2 : ((s.heap.push (lit l)).push (tupOf #[.ref s.heap.objs.size])).objs.size = s.heap.objs.size + 2 := by rw [Heap.size_push, z1]
  refine callType_new called_map (by decide) (typeCall_map_2 _ _) (newCall_map_2 _ _) (fun obj => PySem.F.args_object_init_3 obj _ _) entry_map_new
    (meets_map_new f l items n) ⟨hl, ?_⟩
  show _ ∧ _
  rw [z2]
  have e1 : (mapHeap s.heap f l).get? (s.heap.objs.size + 2) = some (mapOf (s.heap.objs.size + 1) f) := by
    have := Heap.get?_push_size ((s.heap.push (lit l)).push (tupOf #[.ref s.heap.objs.size])) (o := mapOf (s.heap.push (lit l)).objs.size f) rfl
    rw [z2] at this
    unfold mapHeap
    rw [this, z1]
  have e2 : (mapHeap s.heap f l).get? (s.heap.objs.size + 1) = some (tupOf #[.ref s.heap.objs.size]) := by
    have := Heap.get?_push_size (s.heap.push (lit l)) (o := tupOf #[.ref s.heap.objs.size]) rfl
    rw [z1] at this
    exact Heap.get?_push_of_some _ this
  have e3 : (mapHeap s.heap f l).get? s.heap.objs.size = some (lit l) := Heap.get?_push_of_some _ (Heap.get?_push_of_some _ (Heap.get?_push_size _ rfl))
  refine ⟨⟨_, e1, rfl⟩, h _ e1 e2 e3 ?_ fun b o x => Heap.get?_push_of_some _ (Heap.get?_push_of_some _ (Heap.get?_push_of_some _ x))⟩
  show (Heap.push _ _).objs.size = _
  rw [Heap.size_push, z2]
variable {M T it l : Addr} {f : Value} {i : Nat} {items : Array Value} {x : Value}
theorem pyIter_map {Q : Value → Shared → Prop} (hm : s.heap.get? M = some (mapOf T f)) (h : Q (.ref M) s) : wpAny (model prog w) A (pyIter (.ref M)) Q E s := by
  have hT : s.TypeIs (.ref M) "map" := ⟨_, hm, rfl⟩
  refine wpAny_pyIter_slot hT slot_map_iter (wpAny_call_entry slot_map_iter hT entry_map_iter ?_ (args_map_iter _))
  show wpAny _ _ (ret (.ref M)) _ _ s
  exact wpAny_pure ⟨_, rfl, "map", _, hT, slot_map_next.lookup, h⟩
theorem next_map {Q : Option Value → Shared → Prop} (hm : s.heap.get? M = some (mapOf T f)) (ht : s.heap.get? T = some (tupOf #[.ref it])) (hit : s.heap.IsListIter it l i) (hl : s.heap.IsList l items) (hx : items[i]? = some x)
    (hq : ∀ h' E', h'.IsListIter it l (i + 1) → Heap.SameBut it s.heap h' → h'.get? M = some (mapOf T f) → wpAny (model prog w) A.in1 (call f [x]) (fun v s' => Q (some v) s') E' { s with heap := h' }) (hMi : M ≠ it) :
    wpAny (model prog w) A (pyNext (.ref M)) Q E s := by
  have hT : s.TypeIs (.ref M) "map" := ⟨_, hm, rfl⟩
  unfold pyNext
  refine wpAny_bind (wpAny_attempt (wpAny_callSpecial?_slot (name := Str.ofString "__next__") hT slot_map_next (wpAny_call_entry slot_map_next hT entry_map_next ?_ (args_map_next _))))
  show wpAny _ _ (field (.ref M) 0 >>= _) _ _ _
  refine wpAny_bind (wpAny_field hm rfl (x := .ref T) rfl ?_)
  refine wpAny_bind (wpAny_seqItems ht rfl ?_)
  simp only [← Array.forIn_toList, List.forIn_cons, List.forIn_nil]
  refine wpAny_bind (wpAny_bind (wpAny_bind (wpAny_holding (PySem.wpAny_nextOf_list_item hit hl hx fun h' hit' hs' => wpAny_pure (wpAny_pure ?_)))))
  have hm' : h'.get? M = some (mapOf T f) := (hs'.2 _ hMi).trans hm
  show wpAny _ _ (field (.ref M) 1 >>= _) _ _ _
  refine wpAny_bind (wpAny_field hm' rfl (x := f) rfl ?_)
  refine wpAny_bind (wpAny_holding (wpAny_mono (hq h' _ hit' hs' hm') (fun v s' hv => ?_) fun _ _ e => e))
  refine wpAny_bind (wpAny_letGo ?_)
  exact wpAny_pure ⟨_, rfl, wpAny_pure hv⟩
theorem next_map_end {Q : Option Value → Shared → Prop} (hh : A.handled = none) (hm : s.heap.get? M = some (mapOf T f)) (ht : s.heap.get? T = some (tupOf #[.ref it])) (hit : s.heap.IsListIter it l i) (hl : s.heap.IsList l items) (hx : items[i]? = none)
    (hQ : ∀ h', Heap.ExtBut it s.heap h' → Q none { s with heap := h' }) : wpAny (model prog w) A (pyNext (.ref M)) Q E s := by
  have hT : s.TypeIs (.ref M) "map" := ⟨_, hm, rfl⟩
  unfold pyNext
  refine wpAny_bind (wpAny_attempt (wpAny_callSpecial?_slot (name := Str.ofString "__next__") hT slot_map_next (wpAny_call_entry slot_map_next hT entry_map_next ?_ (args_map_next _))))
  show wpAny _ _ (field (.ref M) 0 >>= _) _ _ _
  refine wpAny_bind (wpAny_field hm rfl (x := .ref T) rfl ?_)
  refine wpAny_bind (wpAny_seqItems ht rfl ?_)
  simp only [← Array.forIn_toList, List.forIn_cons, List.forIn_nil]
  refine wpAny_bind (wpAny_bind (wpAny_bind (wpAny_holding (PySem.wpAny_nextOf_list_end hh hit hl hx fun h' x he' hx' => ?_))))
  obtain ⟨o, ho, hc⟩ := hx'
  refine wpAny_bind (wpAny_isInstance (T := "StopIteration") (b := true) ⟨o, ho, hc⟩ isSubtype_stop ?_)
  exact wpAny_pure (hQ _ he')
end
open PySem.W PyProof.Rows PySem.Spec PySem.Calls
theorem map_walks {w : World} {mean : ExcName → Option Value} {mg mb : Str → Option Value} {dp un : Nat} {gd : Option (List Code)} {cn : Str} {cs : Scope} {L a : Addr} {ccd : Value} {cl : List (Str × Addr)} {outer : List Env} {A₀ : Around} {base h₀ : Heap} {m : Str → Option Value}
    {M T it l : Addr} {us : List (Str × Tok)} {sz : Nat} (B : Below A₀ base outer h₀) (X : (hd.heap_39 w.params).In h₀) (Tp : Top hd.view_39 LP mean mg mb h₀) (hk : cs.kind = .function) (hd' : dp + 1 < recursionLimit) (hu : un + 1 + 8 * 1 < cLine)
    (hM : M < sz) (hT : T < sz) (hi : it < sz) (hl : l < sz) (hL : L < sz) (hab : h₀.objs.size ≤ L) (hin : h₀.get? it = none) (hiL : it ≠ L) (hMi : M ≠ it) (hTi : T ≠ it) (hli : l ≠ it) :
    WalksS PySem.Challenge.rw_il0066_01.row.prog w (ktrTop dp un gd cn cs L a ccd cl outer) M (List.range sz) [it] (fun a b => b = a) us.length (fun i v => (strValues us)[i]? = some v)
      (fun i s => s.heap.get? M = some (mapOf T (.ref 110)) ∧ s.heap.get? T = some (tupOf #[.ref it]) ∧ s.heap.IsListIter it l i ∧ s.heap.IsList l (strValues us).toArray ∧ Fr h₀ L s.heap m ∧ 0 < s.toks) where
  sub := fun b hb => by rw [List.mem_singleton.mp hb]; exact List.mem_range.mpr hi
  grefl := fun _ => rfl
  gtrans := fun _ _ _ e1 e2 => e2.trans e1
  frame := fun i s h' tk st htk hk' => by
    obtain ⟨s1, s2, s3, s4, s5, s6⟩ := st
    have k : ∀ b, b < sz → ∀ o, s.heap.get? b = some o → h'.get? b = some o := fun b hb o e => hk' b (List.mem_range.mpr hb) o e
    refine ⟨k _ hM _ s1, k _ hT _ s2, s3.at fun o e => k _ hi o e, s4.at fun o e => k _ hl o e, ⟨s5.ns.at' fun o e => k _ hL o e, fun b o e => k b (Nat.lt_of_lt_of_le (Nat.lt_of_lt_of_le (Heap.lt_size e) hab) (Nat.le_of_lt hL)) o (s5.keep b o e), s5.above⟩, Nat.lt_of_lt_of_le s6 htk⟩
  item := fun i s Q E hlt st hQ => by
    obtain ⟨s1, s2, s3, s4, s5, s6⟩ := st
    have hx : (strValues us)[i]? = some (.str us[i].1 us[i].2) := by unfold strValues; rw [List.getElem?_map, List.getElem?_eq_getElem hlt]; rfl
    refine next_map s1 s2 s3 s4 (x := .str us[i].1 us[i].2) (by simpa using hx) (fun h' E' hit' hs' hm' => ?_) hMi
    have F' : Fr h₀ L h' m := s5.change hs' hiL hin
    refine wpAny_toks_up (fspath_does w mean mg mb us[i].1 us[i].2 dp (un + 1) gd cn cs a ccd cl outer A₀ base h₀ L m _ _ E' B F' X Tp hk hd' hu s6 trivial fun r h2 tk2 hst hr => ?_)
    intro hle
    subst hr
    have hle : s.toks ≤ tk2 := hle
    have hst : h'.StaysIn h2 := hst
    refine hQ _ _ hx ⟨hst _ _ hm', hst _ _ ((hs'.2 _ hTi).trans s2), hit'.at fun o e => hst _ o e, (s4.extBut hs'.extBut hli).at fun o e => hst _ o e, F'.keeps hst, Nat.lt_of_lt_of_le s6 hle⟩
      ⟨fun b o hb e => hst _ _ ((hs'.2 _ fun q => hb (List.mem_singleton.mpr q)).trans e), rfl, rfl, rfl, hle⟩
  done := fun s Q E st hQ => by
    obtain ⟨s1, s2, s3, s4, s5, s6⟩ := st
    refine next_map_end rfl s1 s2 s3 s4 ?_ fun h' he' => hQ _ ⟨fun b o hb e => he' b o (fun q => hb (List.mem_singleton.mpr q)) e, rfl, rfl, rfl, Nat.le_refl _⟩
    simp [strValues]
  self := fun i s Q E st hQ => pyIter_map st.1 hQ
end
noncomputable section
open PySem
open PySem.AutoSeq1 (wpAny_loadPart')
section
variable {prog : Program} {w : World} {A : Around} {E : Value → Shared → Prop} {s : Shared} {I : Addr} {fp wr : List Addr} {G : Array GenState → Array GenState → Prop} {n : Nat} {P : Nat → Value → Prop} {St : Nat → Shared → Prop}
/-- the empty list that a map's things are gathered in, and its cells once room was made and given back -/
abbrev nilO : Obj := { cls := .type "list", data := .seq ([] : List Value).toArray }
abbrev touched (h : Heap) (S : Addr) : Heap := (h.update S (Obj.mapSeq (·.push Value.none))).update S (Obj.mapSeq (·.pop))
theorem touched_off (h : Heap) {S b : Addr} (hb : b ≠ S) : (touched h S).get? b = h.get? b := by
  rw [touched, Heap.get?_update_other _ _ (Ne.symm hb), Heap.get?_update_other _ _ (Ne.symm hb)]
theorem touch_list {R : Unit → Shared → Prop} {S : Addr} (e : s.heap.get? S = some nilO) (h : R () { s with heap := touched s.heap S }) :
    wpAny (model prog w) A (Builtin.List.listTouch (.ref S)) R E s :=
  wpAny_bind (wpAny_updateSeq e rfl (wpAny_updateSeq (Heap.get?_update_self (Obj.mapSeq (·.push Value.none)) e rfl) rfl h))
theorem collect_map {Q : List Value → Shared → Prop} (W : WalksS prog w A.in1 I fp wr G n P St) (hT : ∀ i s, St i s → s.TypeIs (.ref I) "map") (hst : St 0 s) (hfp : ∀ b ∈ fp, b < s.heap.objs.size) (hI : I ∈ fp)
    (hQ : ∀ s' acc, Moved wr G s s' → ItemsOf P acc n → Q acc.toList s') (hn : n ≤ sizeLine := by size_fits) : wpAny (model prog w) A (collect (.ref I)) Q E s := by
  have off : s.heap.objs.size ∉ fp := fun h => absurd (hfp _ h) (Nat.lt_irrefl _)
  have apart : Builtin.List.listSameRef (.ref s.heap.objs.size) (.ref I) = false := by
    have : ¬ s.heap.objs.size = I := fun h => off (h ▸ hI)
    simp [Builtin.List.listSameRef, this]
  have e0 : (s.heap.push nilO).get? s.heap.objs.size = some nilO := Heap.get?_push_size _ rfl
  have e1 := Heap.get?_update_self (Obj.mapSeq (·.push Value.none)) e0 rfl
  have st1 := W.frame 0 s (s.heap.push nilO) s.toks hst (Nat.le_refl _) fun _ _ _ => Heap.get?_push_of_some _
  have st2 := W.frame 0 _ (touched (s.heap.push nilO) s.heap.objs.size) s.toks st1 (Nat.le_refl _) fun b hb o e => (touched_off (s.heap.push nilO) (S := s.heap.objs.size) (b := b) fun q => off (q ▸ hb)).trans e
  have typ := hT 0 _ st1
  -- the call: an empty list, and list.__iadd__ on it
  rw [collect]
  refine wpAny_bind (wpAny_runValue (codeAny_builtin F.entry_proto_collect ?_))
  rw [Around.under_plainId F.plain_proto_collect]
  change wpAny _ A.in1 (newList [] >>= fun l => again (.builtin "list.__iadd__" ⟨[l, .ref I], []⟩)) _ _ s
  refine wpAny_bind (wpAny_newObj_type (wpAny_pure ⟨plainId_quiet F.plain_list_iadd _, codeAny_builtin F.entry_list_iadd ?_⟩))
  rw [Around.under_plainId F.plain_list_iadd]
  -- no length is told: no room but the one touched
  change wpAny _ A.in1 (Builtin.List.listExtendWith (.ref s.heap.objs.size) (.ref I) (.ref s.heap.objs.size)) _ _ { s with heap := s.heap.push nilO }
  rw [Builtin.List.listExtendWith]
  refine wpAny_bind (wpAny_typeOf typ ?_)
  rw [apart, if_neg (by decide)]
  refine wpAny_bind (W.self 0 _ _ _ st1 (wpAny_bind (wpAny_holding ?_)))
  rw [Builtin.List.listLengthHint]
  refine wpAny_bind (wpAny_specialOf typ map_no_len ?_)
  change wpAny _ A.in1 (specialOf (.ref I) (Str.ofString "__length_hint__") >>= _) _ _ _
  refine wpAny_bind (wpAny_specialOf typ map_no_hint (wpAny_pure ?_))
  change wpAny _ A.in1 (rule "list.extend.makes-room" >>= fun _ => Builtin.List.listTouch (.ref s.heap.objs.size) >>= fun _ => again (.builtin "list.extend.loop" ⟨[.ref s.heap.objs.size, .ref I, .ref s.heap.objs.size], []⟩)) _ _ _
  refine wpAny_bind (wpAny_rule (wpAny_bind (touch_list e0 (wpAny_pure ⟨plainId_quiet F.plain_extend_loop _, ?_⟩))))
  -- the loop, and the list read
  refine codeAny_extend_loopS W hn _ off _ n 0 _ _ _ rfl (Nat.zero_le _) st2 (Heap.get?_update_self (Obj.mapSeq (·.pop)) e1 rfl) (ItemsOf.nil P) fun s' acc c' hm hl hacc => ?_
  change wpAny _ A (load s.heap.objs.size >>= _) _ _ s'
  refine wpAny_bind (wpAny_load hl (wpAny_pure (hQ s' acc ?_ hacc)))
  have first : Moved (s.heap.objs.size :: wr) G { s with heap := s.heap.push nilO } { s with heap := touched (s.heap.push nilO) s.heap.objs.size } :=
    (Moved.refl W.grefl).then_heap (Nat.le_refl _) fun b o hb e => (touched_off (s.heap.push nilO) (S := s.heap.objs.size) (b := b) fun q => hb (q ▸ List.mem_cons_self)).trans e
  exact Moved.drop_new (o := nilO) (tk := s.toks) (Moved.trans W.gtrans first hm) (Nat.le_refl _)
theorem code_tuple_new_map {Q₁ : Value → Shared → Prop} (W : WalksS prog w A.in1.in1 I fp wr G n P St) (hT : ∀ i s, St i s → s.TypeIs (.ref I) "map") (hst : St 0 s) (hfp : ∀ b ∈ fp, b < s.heap.objs.size) (hI : I ∈ fp)
    (h : ∀ s' acc, Moved wr G s s' → ItemsOf P acc n → Q₁ (.ref s'.heap.objs.size) { s' with heap := s'.heap.push { cls := .type "tuple", data := .seq acc } }) (hsz : n ≤ sizeLine := by size_fits) :
    codeAny (model prog w) A (.call (.builtin "tuple.__new__") ⟨[.type "tuple", .ref I], []⟩) (wants Q₁ E) s := by
  have typ := hT 0 s hst
  have hsub := sub_tuple_self
  have hinit := init_tuple_lookup
  have hmade := madeHere_tuple
  apply codeAny_of_tree
  change wpAny _ A.in1 (do checkBuiltinCall "tuple.__new__" ⟨[.type "tuple", .ref I], []⟩; again (.builtin "tuple.__new__" ⟨[.type "tuple", .ref I], []⟩)) _ _ s
  refine wpAny_bind (wpAny_of_eq (F.newCall_tuple_1 _) (wpAny_pure ⟨plainId_quiet F.plain_tuple_new _, codeAny_builtin F.entry_tuple_new ?_⟩))
  rw [Around.under_plainId F.plain_tuple_new]
  wp_walk using wpAny_typeOf typ, collect_map (hn := hsz) W hT hst hfp hI
  intro s' acc hm hacc
  have same : acc.toList.toArray = acc := by simp
  change wpAny _ _ (Builtin.Tuple.tupleExact acc.toList.toArray >>= fun v => ret v) _ _ _
  rw [same]
  unfold Builtin.Tuple.tupleExact
  exact wpAny_bind (wpAny_newObj_type (wpAny_pure (h s' acc hm hacc)) (show acc.size ≤ sizeLine from hacc.1 ▸ hsz))

theorem call_tuple_map {Q : Value → Shared → Prop} (W : WalksS prog w A.in1.in1.in1 I fp wr G n P St) (hT : ∀ i s, St i s → s.TypeIs (.ref I) "map") (hst : St 0 s) (hfp : ∀ b ∈ fp, b < s.heap.objs.size) (hI : I ∈ fp)
    (hQ : ∀ s' acc, Moved wr G s s' → ItemsOf P acc n → Q (.ref s'.heap.objs.size) { s' with heap := s'.heap.push { cls := .type "tuple", data := .seq acc } }) (hsz : n ≤ sizeLine := by size_fits) :
    wpAny (model prog w) A (call (.type "tuple") [.ref I]) Q E s := by
  refine callType_codes (Q₁ := fun obj s₁ => s₁.TypeIs obj "tuple" ∧ Q obj s₁) F.called_tuple (F.typeCall_tuple_1 _) F.entry_object_init
    (code_tuple_new_map (hsz := hsz) W hT hst hfp hI fun s' acc hm hacc => ⟨⟨_, Heap.get?_push_size _ rfl, rfl⟩, hQ s' acc hm hacc⟩) fun obj s₁ h₁ => ?_
  exact ⟨h₁.1, F.args_object_init_2 obj _, object_init_meets F.called_tuple.init.lookup F.called_tuple.made (by decide) prog w A.in1 _ s₁ ⟨h₁.1, rfl, h₁.2⟩⟩
end
open PySem.W PyProof.Rows PySem.Spec PySem.Calls
theorem itemsOf_strs {us : List (Str × Tok)} {acc : Array Value} (h : ItemsOf (fun i v => (strValues us)[i]? = some v) acc us.length) : acc = (strValues us).toArray := by
  apply Array.ext'
  apply List.ext_getElem?
  intro i
  rw [Array.getElem?_toList]
  cases e : acc[i]? with
  | some v => exact (h.2 i v e).symm
  | none =>
    have : acc.size ≤ i := Array.getElem?_eq_none_iff.mp e
    rw [h.1] at this
    exact (List.getElem?_eq_none (by rw [strValues_len]; exact this)).symm
theorem tuple_map_strs {w : World} {mean : ExcName → Option Value} {mg mb : Str → Option Value} {dp un : Nat} {gd : Option (List Code)} {cn : Str} {cs : Scope} {L a : Addr} {ccd : Value} {cl : List (Str × Addr)} {outer : List Env} {A₀ : Around} {base h₀ : Heap} {m : Str → Option Value}
    {M T it l : Addr} {us : List (Str × Tok)} {s : Shared} {Q E : Value → Shared → Prop} {news : List (Addr × Obj)} (B : Below A₀ base outer h₀) (F : Fr h₀ L s.heap m) (N : News h₀ L s.heap news) (X : (hd.heap_39 w.params).In h₀) (Tp : Top hd.view_39 LP mean mg mb h₀) (hk : cs.kind = .function) (hd' : dp + 1 < recursionLimit) (hu : un + 3 + 1 + 8 * 1 < cLine)
    (hm : s.heap.get? M = some (mapOf T (.ref 110))) (ht : s.heap.get? T = some (tupOf #[.ref it])) (hi : s.heap.get? it = some (lit l)) (hl : s.heap.IsList l (strValues us).toArray) (hin : h₀.get? it = none) (hiL : it ≠ L) (hMi : M ≠ it) (hTi : T ≠ it) (hli : l ≠ it)
    (hz : us.length ≤ sizeLine) (h0 : 0 < s.toks) (hni : ∀ p ∈ news, p.1 ≠ it)
    (h : ∀ D h' tk', Fr h₀ L h' m → News h₀ L h' ((D, tupOf (strValues us).toArray) :: news) → (∀ p ∈ news, p.1 < D) → s.toks ≤ tk' → Q (.ref D) { s with heap := h', toks := tk' }) :
    wpAny (model PySem.Challenge.rw_il0066_01.row.prog w) (ktrTop dp un gd cn cs L a ccd cl outer) (call (.type "tuple") [.ref M]) Q E s := by
  have ll : l < s.heap.objs.size := by obtain ⟨o, ho, _⟩ := hl; exact Heap.lt_size ho
  have W := map_walks (us := us) (sz := s.heap.objs.size) (m := m) (dp := dp) (un := un + 3) (gd := gd) (cn := cn) (a := a) (ccd := ccd) (cl := cl) B X Tp hk hd' hu (Heap.lt_size hm) (Heap.lt_size ht) (Heap.lt_size hi) ll F.ns.lt F.above hin hiL hMi hTi hli
  refine call_tuple_map (hsz := hz) (A := ktrTop dp un gd cn cs L a ccd cl outer) W (fun i s st => ⟨_, st.1, rfl⟩) ⟨hm, ht, ⟨_, hi, rfl, rfl⟩, hl, F, h0⟩ (fun b hb => List.mem_range.mp hb) (List.mem_range.mpr (Heap.lt_size hm)) fun s' acc hmv hacc => ?_
  rw [itemsOf_strs hacc]
  have k : ∀ b o, b ≠ it → s.heap.get? b = some o → s'.heap.get? b = some o := fun b o hb e => hmv.heap b o (fun q => hb (List.mem_singleton.mp q)) e
  have F' : Fr h₀ L s'.heap m := ⟨F.ns.at' fun o e => k _ o (Ne.symm hiL) e, fun b o e => k b o (fun q => by rw [q, hin] at e; cases e) (F.keep b o e), F.above⟩
  have N' : News h₀ L s'.heap news := fun p hp => ⟨k _ _ (hni p hp) (N p hp).1, (N p hp).2⟩
  have es := hmv.eq_with
  have := h s'.heap.objs.size (s'.heap.push (tupOf (strValues us).toArray)) s'.toks (F'.push _) (N'.push F' _) (fun p hp => Heap.lt_size (N' p hp).1) hmv.toks
  rw [es]
  exact this
end
noncomputable section
open PySem PySem.W PyProof.Rows PySem.Spec PySem.Calls
noncomputable def splitT (V : Str) : Str := Txt.slice V (some (Txt.rfind V (Str.ofString "/") + 1)) none
noncomputable def splitH0 (V : Str) : Str := Txt.slice V none (some (Txt.rfind V (Str.ofString "/") + 1))
noncomputable def splitH (V : Str) : Str := if (splitH0 V).length = 0 then splitH0 V else if (splitH0 V != Txt.mul (Str.ofString "/") (splitH0 V).length) = true then Txt.rstripChars (splitH0 V) (Str.ofString "/") else splitH0 V
theorem split_does (w mean mg mb) (V : Str) (t : Tok) (hV : V.length ≤ 1000000) : Does w mean mg mb 138 2 [.str V t] (fun _ => True)
    (fun h h' r => ∃ D t1 t2, r = .ref D ∧ h.get? D = none ∧ h'.get? D = some { cls := .type "tuple", data := .seq #[.str (splitH V) t1, .str (splitT V) t2] }) := by
  k_with_none
  k_with "replace" => (refine' replaceM ?k1 ?k2 ?k3 ?k4 ?k5 ?k6 ?_; (case k1 => (show @Ne Nat _ _); omega); (case k2 => (show @Ne Nat _ _); omega); (case k3 => (show @Ne Nat _ _); omega); (case k4 => decide); (case k5 => omega); (case k6 => decide); k_whole; intro tR kR hR; dsimp only at hR)
  k_with "used" => ((case uB => k_asm); (case uF => k_asm); (case uX => k_asm); (case uN => k_asm); (case uT => k_asm); (case uk => first | assumption | exact rfl); (case ud => ktr_room); (case uu => ktr_units); (case ut => (first | exact Nat.succ_pos _ | assumption | omega | (dsimp only; omega))); (case up => k_extra "pre"); k_whole; intro r9 h9 tk9 K9 F9 N9 ht9 hP9; (try dsimp only at ht9 K9))
  k_with "pre" => (first | trivial | assumption)
  k_with "enter" => (refine' enterM ?k1 ?k2 ?k3 ?k5 ?kA ?kF ?kK ?k6 ?k7 ?k8 ?k9 ?kB ?_ ?c2 ?c3 ?c4 ?c5 ?ct; (case kA => exact rfl); (case kF => exact rfl); (case kK => first | assumption | exact rfl); (case k1 => k_asm); (case k2 => k_asm); (case k3 => k_asm); (case k5 => k_asm); (case k6 => k_is); (case k7 => k_is); (case k8 => ktr_room); (case k9 => first | exact BindsTo.of_eq rfl | exact binds_K (by k_in) rfl (by k_is) rfl rfl rfl | exact kp_binds (by k_in) (fun _ => rfl)); (case c5 => decide); (case kB => exact locs rfl); (case c2 => exact rfl); (case c3 => exact rfl); (case c4 => exact rfl); (case ct => assumption); k_whole; intro L' h' tk0 htk0 F' N' B' X' T'; (try dsimp only); (try k_fold))
  k_with "enterR" => (refine' enterR ?k1 ?k2 ?k3 ?k5 ?kA ?kF ?kK ?k6 ?k7 ?k8 ?kV ?kP ?kG ?kB ?_ ?c2 ?c3 ?c4 ?c5 ?ct; (case kA => exact rfl); (case kF => exact rfl); (case kK => first | assumption | exact rfl); (case k1 => k_asm); (case k2 => k_asm); (case k3 => k_asm); (case k5 => k_asm); (case k6 => k_is); (case k7 => k_is); (case k8 => ktr_room); (case kV => kl_lit); (case kP => exact rfl); (case kG => exact fun _ => rfl); (case kB => exact fun _ => locs rfl); (case c5 => decide); (case c2 => exact rfl); (case c3 => exact rfl); (case c4 => exact rfl); (case ct => assumption); k_whole; intro D' L' h' tk0 htk0 hD' F' N' B' X' T'; (try dsimp only); (try k_fold))
  k_with "enterC" => (refine' enterC ?k1 ?k2 ?k3 ?k5 ?kA ?kF ?kK ?k6 ?k7 ?k8 ?k9 ?kB ?kD ?_ ?c2 ?c3 ?c4 ?ct; (case kA => exact rfl); (case kF => exact rfl); (case kK => first | assumption | exact rfl); (case k1 => k_asm); (case k2 => k_asm); (case k3 => k_asm); (case k5 => k_asm); (case k6 => k_is); (case k7 => k_is); (case k8 => ktr_room); (case k9 => first | exact BindsTo.of_eq rfl | exact binds_K (by k_in) rfl (by k_is) rfl rfl rfl | exact kp_binds (by k_in) (fun _ => rfl)); (case kB => exact rfl); (case kD => decide +kernel); (case c2 => exact rfl); (case c3 => exact rfl); (case c4 => exact rfl); (case ct => assumption); k_whole; intro L' h' tk0 cells' htk0 F' N' Y' B' X' T'; (try dsimp only); (try k_fold))
  unfold Does; k_fill
  intro dp un gd cn cs a ccd cl outer A₀ base h₀ L m s Q E B F X T hk hd hu htk hp hret
  refine wpAny_call ?_
  k_extra "enter"
  k_with "use" => (refine' Does.use (fspath_does _ _ _ _ _ _) ?uB ?uF ?uX ?uN ?uT ?uk ?ud ?uu ?ut ?up ?_; k_extra "used"; subst hP9; (try k_sweep))
  k_with "use" => (refine' Does.use (get_sep_does _ _ _ _ _ _) ?uB ?uF ?uX ?uN ?uT ?uk ?ud ?uu ?ut ?up ?_; k_extra "used"; (obtain ⟨t9, rfl, hn9⟩ := hP9); (try k_sweep))
  k_steps
  all_goals (
    show Q _ _
    unfold splitH splitH0 splitT at hret
    first
      | rw [if_neg (by omega), if_pos (by assumption)] at hret
      | rw [if_neg (by omega), if_neg (Bool.eq_false_iff.mp (by assumption))] at hret
      | rw [if_pos (by omega)] at hret
    exact hret _ _ _ (Fr.keep (by k_asm)) ⟨_, _, _, rfl, News.fresh (by k_asm) (by k_mem), News.get (by k_asm) (by k_mem)⟩)
end
noncomputable section
open PySem PySem.W PyProof.Rows PySem.Spec PySem.Calls
noncomputable def strip1 (V : Str) : Str := if Txt.startswith V (Str.ofString "\"") = true then Txt.slice V (some 1) none else V
noncomputable def stripS (V : Str) : Str := if Txt.endswith (strip1 V) (Str.ofString "\"") = true then Txt.slice (strip1 V) none (some (-1)) else strip1 V
abbrev qS : Str := Str.ofString "\""
theorem stripS_tt {V : Str} (h1 : Txt.startswith V qS = true) (h2 : Txt.endswith (Txt.slice V (some 1) none) qS = true) : stripS V = Txt.slice (Txt.slice V (some 1) none) none (some (-1)) := by
  unfold stripS strip1; rw [if_pos h1, if_pos h2]
theorem stripS_tf {V : Str} (h1 : Txt.startswith V qS = true) (h2 : Txt.endswith (Txt.slice V (some 1) none) qS = false) : stripS V = Txt.slice V (some 1) none := by
  unfold stripS strip1; rw [if_pos h1, if_neg (Bool.eq_false_iff.mp h2)]
theorem stripS_ft {V : Str} (h1 : Txt.startswith V qS = false) (h2 : Txt.endswith V qS = true) : stripS V = Txt.slice V none (some (-1)) := by
  unfold stripS strip1; rw [if_neg (Bool.eq_false_iff.mp h1), if_pos h2]
theorem stripS_ff {V : Str} (h1 : Txt.startswith V qS = false) (h2 : Txt.endswith V qS = false) : stripS V = V := by
  unfold stripS strip1; rw [if_neg (Bool.eq_false_iff.mp h1), if_neg (Bool.eq_false_iff.mp h2)]
theorem strip_does (w mean mg mb) (V : Str) (t : Tok) (hV : V.length ≤ 1000000) : Does w mean mg mb 28 1 [.str V t] (fun _ => True)
    (fun _ _ r => ∃ t', r = .str (stripS V) t') := by
  k_with_none
  k_with "replace" => (refine' replaceM ?k1 ?k2 ?k3 ?k4 ?k5 ?k6 ?_; (case k1 => (show @Ne Nat _ _); omega); (case k2 => (show @Ne Nat _ _); omega); (case k3 => (show @Ne Nat _ _); omega); (case k4 => decide); (case k5 => omega); (case k6 => decide); k_whole; intro tR kR hR; dsimp only at hR)
  k_with "used" => ((case uB => k_asm); (case uF => k_asm); (case uX => k_asm); (case uN => k_asm); (case uT => k_asm); (case uk => first | assumption | exact rfl); (case ud => ktr_room); (case uu => ktr_units); (case ut => (first | exact Nat.succ_pos _ | assumption | omega | (dsimp only; omega))); (case up => k_extra "pre"); k_whole; intro r9 h9 tk9 K9 F9 N9 ht9 hP9; (try dsimp only at ht9 K9))
  k_with "pre" => (first | trivial | assumption)
  k_with "enter" => (refine' enterM ?k1 ?k2 ?k3 ?k5 ?kA ?kF ?kK ?k6 ?k7 ?k8 ?k9 ?kB ?_ ?c2 ?c3 ?c4 ?c5 ?ct; (case kA => exact rfl); (case kF => exact rfl); (case kK => first | assumption | exact rfl); (case k1 => k_asm); (case k2 => k_asm); (case k3 => k_asm); (case k5 => k_asm); (case k6 => k_is); (case k7 => k_is); (case k8 => ktr_room); (case k9 => first | exact BindsTo.of_eq rfl | exact binds_K (by k_in) rfl (by k_is) rfl rfl rfl | exact kp_binds (by k_in) (fun _ => rfl)); (case c5 => decide); (case kB => exact locs rfl); (case c2 => exact rfl); (case c3 => exact rfl); (case c4 => exact rfl); (case ct => assumption); k_whole; intro L' h' tk0 htk0 F' N' B' X' T'; (try dsimp only); (try k_fold))
  k_with "enterR" => (refine' enterR ?k1 ?k2 ?k3 ?k5 ?kA ?kF ?kK ?k6 ?k7 ?k8 ?kV ?kP ?kG ?kB ?_ ?c2 ?c3 ?c4 ?c5 ?ct; (case kA => exact rfl); (case kF => exact rfl); (case kK => first | assumption | exact rfl); (case k1 => k_asm); (case k2 => k_asm); (case k3 => k_asm); (case k5 => k_asm); (case k6 => k_is); (case k7 => k_is); (case k8 => ktr_room); (case kV => kl_lit); (case kP => exact rfl); (case kG => exact fun _ => rfl); (case kB => exact fun _ => locs rfl); (case c5 => decide); (case c2 => exact rfl); (case c3 => exact rfl); (case c4 => exact rfl); (case ct => assumption); k_whole; intro D' L' h' tk0 htk0 hD' F' N' B' X' T'; (try dsimp only); (try k_fold))
  k_with "enterC" => (refine' enterC ?k1 ?k2 ?k3 ?k5 ?kA ?kF ?kK ?k6 ?k7 ?k8 ?k9 ?kB ?kD ?_ ?c2 ?c3 ?c4 ?ct; (case kA => exact rfl); (case kF => exact rfl); (case kK => first | assumption | exact rfl); (case k1 => k_asm); (case k2 => k_asm); (case k3 => k_asm); (case k5 => k_asm); (case k6 => k_is); (case k7 => k_is); (case k8 => ktr_room); (case k9 => first | exact BindsTo.of_eq rfl | exact binds_K (by k_in) rfl (by k_is) rfl rfl rfl | exact kp_binds (by k_in) (fun _ => rfl)); (case kB => exact rfl); (case kD => decide +kernel); (case c2 => exact rfl); (case c3 => exact rfl); (case c4 => exact rfl); (case ct => assumption); k_whole; intro L' h' tk0 cells' htk0 F' N' Y' B' X' T'; (try dsimp only); (try k_fold))
  unfold Does; k_fill
  intro dp un gd cn cs a ccd cl outer A₀ base h₀ L m s Q E B F X T hk hd hu htk hp hret
  refine wpAny_call ?_
  k_extra "enter"
  k_steps
  all_goals (
    show Q _ _
    first
      | rw [stripS_tt (V := V) (by with_reducible assumption) (by with_reducible assumption)] at hret
      | rw [stripS_tf (V := V) (by with_reducible assumption) (by with_reducible assumption)] at hret
      | rw [stripS_ft (V := V) (by with_reducible assumption) (by with_reducible assumption)] at hret
      | rw [stripS_ff (V := V) (by with_reducible assumption) (by with_reducible assumption)] at hret
    exact hret _ _ _ (Fr.keep (by k_asm)) ⟨_, rfl⟩)
end
noncomputable section
open PySem PySem.W PyProof.Rows PySem.Spec PySem.Calls
noncomputable def joinS (V W : Str) : Str := if Txt.startswith W (Str.ofString "/") = true ∨ V.length = 0 then W else if Txt.endswith V (Str.ofString "/") = true then V ++ W else V ++ (Str.ofString "/" ++ W)
abbrev slS : Str := Str.ofString "/"
theorem joinS_t {V W : Str} (h : Txt.startswith W slS = true) : joinS V W = W := by unfold joinS; rw [if_pos (.inl h)]
theorem joinS_0 {V W : Str} (h : (V.length : Int) = 0) : joinS V W = W := by unfold joinS; rw [if_pos (.inr (by omega))]
theorem joinS_e {V W : Str} (h : Txt.startswith W slS = false) (h0 : (V.length : Int) ≠ 0) (he : Txt.endswith V slS = true) : joinS V W = V ++ W := by
  unfold joinS; rw [if_neg (by rintro (q | q); exact absurd (h.symm.trans q) (by decide); omega), if_pos he]
theorem joinS_n {V W : Str} (h : Txt.startswith W slS = false) (h0 : (V.length : Int) ≠ 0) (he : Txt.endswith V slS = false) : joinS V W = V ++ (slS ++ W) := by
  unfold joinS; rw [if_neg (by rintro (q | q); exact absurd (h.symm.trans q) (by decide); omega), if_neg (Bool.eq_false_iff.mp he)]
theorem join_does (w mean mg mb) (V W : Str) (t u : Tok) (hV : V.length ≤ 1000000) (hW : W.length ≤ 1000000) : Does w mean mg mb 131 2 [.str V t, .str W u] (fun _ => True) (fun _ _ r => ∃ t', r = .str (joinS V W) t') := by
  k_with_none
  k_with "replace" => (refine' replaceM ?k1 ?k2 ?k3 ?k4 ?k5 ?k6 ?_; (case k1 => (show @Ne Nat _ _); omega); (case k2 => (show @Ne Nat _ _); omega); (case k3 => (show @Ne Nat _ _); omega); (case k4 => decide); (case k5 => omega); (case k6 => decide); k_whole; intro tR kR hR; dsimp only at hR)
  k_with "used" => ((case uB => k_asm); (case uF => k_asm); (case uX => k_asm); (case uN => k_asm); (case uT => k_asm); (case uk => first | assumption | exact rfl); (case ud => ktr_room); (case uu => ktr_units); (case ut => (first | exact Nat.succ_pos _ | assumption | omega | (dsimp only; omega))); (case up => k_extra "pre"); k_whole; intro r9 h9 tk9 K9 F9 N9 ht9 hP9; (try dsimp only at ht9 K9))
  k_with "pre" => (first | trivial | assumption)
  k_with "enter" => (refine' enterM ?k1 ?k2 ?k3 ?k5 ?kA ?kF ?kK ?k6 ?k7 ?k8 ?k9 ?kB ?_ ?c2 ?c3 ?c4 ?c5 ?ct; (case kA => exact rfl); (case kF => exact rfl); (case kK => first | assumption | exact rfl); (case k1 => k_asm); (case k2 => k_asm); (case k3 => k_asm); (case k5 => k_asm); (case k6 => k_is); (case k7 => k_is); (case k8 => ktr_room); (case k9 => first | exact BindsTo.of_eq rfl | exact binds_K (by k_in) rfl (by k_is) rfl rfl rfl | exact kp_binds (by k_in) (fun _ => rfl)); (case c5 => decide); (case kB => exact locs rfl); (case c2 => exact rfl); (case c3 => exact rfl); (case c4 => exact rfl); (case ct => assumption); k_whole; intro L' h' tk0 htk0 F' N' B' X' T'; (try dsimp only); (try k_fold))
  k_with "enterR" => (refine' enterR ?k1 ?k2 ?k3 ?k5 ?kA ?kF ?kK ?k6 ?k7 ?k8 ?kV ?kP ?kG ?kB ?_ ?c2 ?c3 ?c4 ?c5 ?ct; (case kA => exact rfl); (case kF => exact rfl); (case kK => first | assumption | exact rfl); (case k1 => k_asm); (case k2 => k_asm); (case k3 => k_asm); (case k5 => k_asm); (case k6 => k_is); (case k7 => k_is); (case k8 => ktr_room); (case kV => kl_lit); (case kP => exact rfl); (case kG => exact fun _ => rfl); (case kB => exact fun _ => locs rfl); (case c5 => decide); (case c2 => exact rfl); (case c3 => exact rfl); (case c4 => exact rfl); (case ct => assumption); k_whole; intro D' L' h' tk0 htk0 hD' F' N' B' X' T'; (try dsimp only); (try k_fold))
  k_with "enterC" => (refine' enterC ?k1 ?k2 ?k3 ?k5 ?kA ?kF ?kK ?k6 ?k7 ?k8 ?k9 ?kB ?kD ?_ ?c2 ?c3 ?c4 ?ct; (case kA => exact rfl); (case kF => exact rfl); (case kK => first | assumption | exact rfl); (case k1 => k_asm); (case k2 => k_asm); (case k3 => k_asm); (case k5 => k_asm); (case k6 => k_is); (case k7 => k_is); (case k8 => ktr_room); (case k9 => first | exact BindsTo.of_eq rfl | exact binds_K (by k_in) rfl (by k_is) rfl rfl rfl | exact kp_binds (by k_in) (fun _ => rfl)); (case kB => exact rfl); (case kD => decide +kernel); (case c2 => exact rfl); (case c3 => exact rfl); (case c4 => exact rfl); (case ct => assumption); k_whole; intro L' h' tk0 cells' htk0 F' N' Y' B' X' T'; (try dsimp only); (try k_fold))
  unfold Does; k_fill
  intro dp un gd cn cs a ccd cl outer A₀ base h₀ L m s Q E B F X T hk hd hu htk hp hret
  refine wpAny_call ?_
  k_extra "enterR"
  k_with "use" => (refine' Does.use (fspath_does _ _ _ _ _ _) ?uB ?uF ?uX ?uN ?uT ?uk ?ud ?uu ?ut ?up ?_; k_extra "used"; subst hP9; (try k_sweep))
  k_with "use" => (refine' Does.use (get_sep_does _ _ _ _ _ _) ?uB ?uF ?uX ?uN ?uT ?uk ?ud ?uu ?ut ?up ?_; k_extra "used"; (obtain ⟨t9, rfl, hn9⟩ := hP9); (try k_sweep))
  k_steps
  all_goals (
    show Q _ _
    first
      | rw [joinS_t (V := V) (W := W) (by with_reducible assumption)] at hret
      | rw [joinS_0 (V := V) (W := W) (by with_reducible assumption)] at hret
      | rw [joinS_e (V := V) (W := W) (by with_reducible assumption) (by with_reducible assumption) (by with_reducible assumption)] at hret
      | rw [joinS_n (V := V) (W := W) (by with_reducible assumption) (by with_reducible assumption) (by with_reducible assumption)] at hret
    exact hret _ _ _ (Fr.keep (by k_asm)) ⟨_, rfl⟩)
end
noncomputable section
open PySem PySem.W PyProof.Rows PySem.Spec PySem.Calls
theorem splitroot_does (w mean mg mb) (V : Str) (t : Tok) (hV : V.length ≤ 1000000) (h1 : (Txt.slice V none (some 1) != Str.ofString "/") = false) (h2 : (Txt.slice V (some 1) (some 2) != Str.ofString "/") = true) :
    Does w mean mg mb 145 2 [.str V t] (fun _ => True)
    (fun h h' r => ∃ D t1 t2 t3, r = .ref D ∧ h.get? D = none ∧ h'.get? D = some { cls := .type "tuple", data := .seq #[.str (Str.ofString "") t1, .str (Str.ofString "/") t2, .str (Txt.slice V (some 1) none) t3] }) := by
  k_with_none
  k_with "replace" => (refine' replaceM ?k1 ?k2 ?k3 ?k4 ?k5 ?k6 ?_; (case k1 => (show @Ne Nat _ _); omega); (case k2 => (show @Ne Nat _ _); omega); (case k3 => (show @Ne Nat _ _); omega); (case k4 => decide); (case k5 => omega); (case k6 => decide); k_whole; intro tR kR hR; dsimp only at hR)
  k_with "used" => ((case uB => k_asm); (case uF => k_asm); (case uX => k_asm); (case uN => k_asm); (case uT => k_asm); (case uk => first | assumption | exact rfl); (case ud => ktr_room); (case uu => ktr_units); (case ut => (first | exact Nat.succ_pos _ | assumption | omega | (dsimp only; omega))); (case up => k_extra "pre"); k_whole; intro r9 h9 tk9 K9 F9 N9 ht9 hP9; (try dsimp only at ht9 K9))
  k_with "pre" => (first | trivial | assumption)
  k_with "enter" => (refine' enterM ?k1 ?k2 ?k3 ?k5 ?kA ?kF ?kK ?k6 ?k7 ?k8 ?k9 ?kB ?_ ?c2 ?c3 ?c4 ?c5 ?ct; (case kA => exact rfl); (case kF => exact rfl); (case kK => first | assumption | exact rfl); (case k1 => k_asm); (case k2 => k_asm); (case k3 => k_asm); (case k5 => k_asm); (case k6 => k_is); (case k7 => k_is); (case k8 => ktr_room); (case k9 => first | exact BindsTo.of_eq rfl | exact binds_K (by k_in) rfl (by k_is) rfl rfl rfl | exact kp_binds (by k_in) (fun _ => rfl)); (case c5 => decide); (case kB => exact locs rfl); (case c2 => exact rfl); (case c3 => exact rfl); (case c4 => exact rfl); (case ct => assumption); k_whole; intro L' h' tk0 htk0 F' N' B' X' T'; (try dsimp only); (try k_fold))
  k_with "enterR" => (refine' enterR ?k1 ?k2 ?k3 ?k5 ?kA ?kF ?kK ?k6 ?k7 ?k8 ?kV ?kP ?kG ?kB ?_ ?c2 ?c3 ?c4 ?c5 ?ct; (case kA => exact rfl); (case kF => exact rfl); (case kK => first | assumption | exact rfl); (case k1 => k_asm); (case k2 => k_asm); (case k3 => k_asm); (case k5 => k_asm); (case k6 => k_is); (case k7 => k_is); (case k8 => ktr_room); (case kV => kl_lit); (case kP => exact rfl); (case kG => exact fun _ => rfl); (case kB => exact fun _ => locs rfl); (case c5 => decide); (case c2 => exact rfl); (case c3 => exact rfl); (case c4 => exact rfl); (case ct => assumption); k_whole; intro D' L' h' tk0 htk0 hD' F' N' B' X' T'; (try dsimp only); (try k_fold))
  k_with "enterC" => (refine' enterC ?k1 ?k2 ?k3 ?k5 ?kA ?kF ?kK ?k6 ?k7 ?k8 ?k9 ?kB ?kD ?_ ?c2 ?c3 ?c4 ?ct; (case kA => exact rfl); (case kF => exact rfl); (case kK => first | assumption | exact rfl); (case k1 => k_asm); (case k2 => k_asm); (case k3 => k_asm); (case k5 => k_asm); (case k6 => k_is); (case k7 => k_is); (case k8 => ktr_room); (case k9 => first | exact BindsTo.of_eq rfl | exact binds_K (by k_in) rfl (by k_is) rfl rfl rfl | exact kp_binds (by k_in) (fun _ => rfl)); (case kB => exact rfl); (case kD => decide +kernel); (case c2 => exact rfl); (case c3 => exact rfl); (case c4 => exact rfl); (case ct => assumption); k_whole; intro L' h' tk0 cells' htk0 F' N' Y' B' X' T'; (try dsimp only); (try k_fold))
  unfold Does; k_fill
  intro dp un gd cn cs a ccd cl outer A₀ base h₀ L m s Q E B F X T hk hd hu htk hp hret
  refine wpAny_call ?_
  k_extra "enter"
  k_with "use" => (refine' Does.use (fspath_does _ _ _ _ _ _) ?uB ?uF ?uX ?uN ?uT ?uk ?ud ?uu ?ut ?up ?_; k_extra "used"; subst hP9; (try k_sweep))
  k_steps
  show Q _ _
  exact hret _ _ _ (Fr.keep (by k_asm)) ⟨_, _, _, _, rfl, News.fresh (by k_asm) (by k_mem), News.get (by k_asm) (by k_mem)⟩
end
noncomputable section
open PySem PySem.W PyProof.Rows PySem.Spec PySem.Calls
def normStep (acc : List Str) (c : Str) : List Str :=
  if (c.length : Int) = 0 ∨ c = Str.ofString "." then acc
  else if (c != Str.ofString "..") = true ∨ (acc ≠ [] ∧ acc.getLast? = some (Str.ofString "..")) then acc ++ [c]
  else acc.dropLast
noncomputable def normL (V : Str) : List Str := (Txt.split (Txt.slice V (some 1) none) (Str.ofString "/")).foldl normStep []
noncomputable def normS (V : Str) : Str := Str.ofString "/" ++ Txt.join (Str.ofString "/") (normL V)
theorem norm_result {V : Str} {us l : List (Str × Tok)} (hl : l.map (fun x => x.fst) = Txt.split (Txt.slice V (some 1) none) (Str.ofString "/"))
    (hus : us.map (fun x => x.fst) = ((Txt.split (Txt.slice V (some 1) none) (Str.ofString "/")).take (strValues l).length).foldl normStep []) :
    normS V = Str.ofString "/" ++ Txt.join (Str.ofString "/") (us.map (fun x => x.fst)) := by
  unfold normS normL
  have : (strValues l).length = (Txt.split (Txt.slice V (some 1) none) (Str.ofString "/")).length := by rw [← hl]; simp [strValues]
  rw [hus, this, List.take_length]
theorem norm_bound {V : Str} {us l : List (Str × Tok)} (hB : ((normL V).map (·.length)).sum + (normL V).length ≤ 1000000)
    (hl : l.map (fun x => x.fst) = Txt.split (Txt.slice V (some 1) none) (Str.ofString "/"))
    (hus : us.map (fun x => x.fst) = ((Txt.split (Txt.slice V (some 1) none) (Str.ofString "/")).take (strValues l).length).foldl normStep []) :
    ((us.map (·.1)).map (·.length)).sum + (us.map (·.1)).length * (Str.ofString "/").length ≤ 1000000 := by
  have e1 : us.map (fun x => x.fst) = normL V := by
    rw [hus, ← hl]
    unfold normL
    have : (strValues l).length = (l.map (fun x => x.fst)).length := by simp [strValues]
    rw [this, List.take_length, hl]
  have e2 : (Str.ofString "/").length = 1 := by decide
  rw [e1, e2, Nat.mul_one]
  exact hB
section
variable {us l : List (Str × Tok)} {ps : List Str} {i : Nat} {c c' : Str} {tc tc' : Tok}
theorem hus_next (hl : l.map (fun x => x.fst) = ps) (hp : l[i]? = some (c, tc)) (hus : us.map (fun x => x.fst) = (ps.take i).foldl normStep []) :
    (ps.take (i + 1)).foldl normStep [] = normStep (us.map (fun x => x.fst)) c := by
  have h : ps[i]? = some c := by rw [← hl, List.getElem?_map, hp]; rfl
  rw [take_succ_of h, List.foldl_append, hus]; rfl
abbrev dotS : Str := Str.ofString "."
abbrev ddS : Str := Str.ofString ".."
theorem step_dot (hl : l.map (fun x => x.fst) = ps) (hp : l[i]? = some (c, tc)) (hus : us.map (fun x => x.fst) = (ps.take i).foldl normStep []) (h1 : (c == dotS) = true) :
    us.map (fun x => x.fst) = (ps.take (i + 1)).foldl normStep [] := by
  rw [hus_next hl hp hus]; unfold normStep; rw [if_pos (.inr (eq_of_beq h1))]
theorem step_nil (hl : l.map (fun x => x.fst) = ps) (hp : l[i]? = some (c, tc)) (hus : us.map (fun x => x.fst) = (ps.take i).foldl normStep []) (h1 : (c.length : Int) = 0) :
    us.map (fun x => x.fst) = (ps.take (i + 1)).foldl normStep [] := by
  rw [hus_next hl hp hus]; unfold normStep; rw [if_pos (.inl h1)]
theorem step_app (hl : l.map (fun x => x.fst) = ps) (hp : l[i]? = some (c, tc)) (hus : us.map (fun x => x.fst) = (ps.take i).foldl normStep []) (h1 : (c.length : Int) ≠ 0) (h2 : (c == dotS) = false) (h3 : (c != ddS) = true) :
    (us ++ [(c, tc)]).map (fun x => x.fst) = (ps.take (i + 1)).foldl normStep [] := by
  rw [hus_next hl hp hus]; unfold normStep
  rw [if_neg (by rintro (q | q); exact h1 q; rw [q] at h2; exact absurd h2 (by decide)), if_pos (.inl h3)]
  simp
theorem step_up0 (hl : l.map (fun x => x.fst) = ps) (hp : l[i]? = some (c, tc)) (hus : us.map (fun x => x.fst) = (ps.take i).foldl normStep []) (h1 : (c.length : Int) ≠ 0) (h2 : (c == dotS) = false) (h3 : (c != ddS) = false) (h4 : us = []) :
    us.map (fun x => x.fst) = (ps.take (i + 1)).foldl normStep [] := by
  rw [hus_next hl hp hus]; unfold normStep
  rw [if_neg (by rintro (q | q); exact h1 q; rw [q] at h2; exact absurd h2 (by decide)), if_neg (by rintro (q | q); rw [q] at h3; exact absurd h3 (by decide); exact q.1 (by rw [h4]; rfl))]
  subst h4; rfl
theorem step_up1 (hl : l.map (fun x => x.fst) = ps) (hp : l[i]? = some (c, tc)) (hus : us.map (fun x => x.fst) = (ps.take i).foldl normStep []) (h1 : (c.length : Int) ≠ 0) (h2 : (c == dotS) = false) (h3 : (c != ddS) = false) (h4 : us ≠ [])
    (h5 : us.getLast? = some (c', tc')) (h6 : (c' == ddS) = true) : (us ++ [(c, tc)]).map (fun x => x.fst) = (ps.take (i + 1)).foldl normStep [] := by
  rw [hus_next hl hp hus]; unfold normStep
  rw [if_neg (by rintro (q | q); exact h1 q; rw [q] at h2; exact absurd h2 (by decide)), if_pos (.inr ⟨by simpa using h4, by rw [List.getLast?_map, h5]; exact congrArg some (eq_of_beq h6)⟩)]
  simp
theorem step_up2 (hl : l.map (fun x => x.fst) = ps) (hp : l[i]? = some (c, tc)) (hus : us.map (fun x => x.fst) = (ps.take i).foldl normStep []) (h1 : (c.length : Int) ≠ 0) (h2 : (c == dotS) = false) (h3 : (c != ddS) = false) 
    (h5 : us.getLast? = some (c', tc')) (h6 : (c' == ddS) = false) : us.dropLast.map (fun x => x.fst) = (ps.take (i + 1)).foldl normStep [] := by
  rw [hus_next hl hp hus]; unfold normStep
  rw [if_neg (by rintro (q | q); exact h1 q; rw [q] at h2; exact absurd h2 (by decide)), if_neg (by
    rintro (q | q)
    · rw [q] at h3; exact absurd h3 (by decide)
    · have := q.2; rw [List.getLast?_map, h5] at this
      have e : c' = ddS := Option.some.inj this
      rw [e] at h6; exact absurd h6 (by decide))]
  rw [List.map_dropLast]
end
theorem normpath_does (w mean mg mb) (V : Str) (t : Tok) (hV : V.length ≤ 1000000) (h1 : (Txt.slice V none (some 1) != Str.ofString "/") = false) (h2 : (Txt.slice V (some 1) (some 2) != Str.ofString "/") = true) (hV0 : (V.length : Int) ≠ 0)
    (hB : Hid (((normL V).map (·.length)).sum + (normL V).length ≤ 1000000)) :
    Does w mean mg mb 152 3 [.str V t] (fun _ => True)
    (fun h h' r => ∃ t', r = .str (normS V) t') := by
  k_with_none
  k_with "replace" => (refine' replaceM ?k1 ?k2 ?k3 ?k4 ?k5 ?k6 ?_; (case k1 => (show @Ne Nat _ _); omega); (case k2 => (show @Ne Nat _ _); omega); (case k3 => (show @Ne Nat _ _); omega); (case k4 => decide); (case k5 => omega); (case k6 => decide); k_whole; intro tR kR hR; dsimp only at hR)
  k_with "used" => ((case uB => k_asm); (case uF => k_asm); (case uX => k_asm); (case uN => k_asm); (case uT => k_asm); (case uk => first | assumption | exact rfl); (case ud => ktr_room); (case uu => ktr_units); (case ut => (first | exact Nat.succ_pos _ | assumption | omega | (dsimp only; omega))); (case up => k_extra "pre"); k_whole; intro r9 h9 tk9 K9 F9 N9 ht9 hP9; (try dsimp only at ht9 K9))
  k_with "pre" => (first | trivial | assumption)
  k_with "enter" => (refine' enterM ?k1 ?k2 ?k3 ?k5 ?kA ?kF ?kK ?k6 ?k7 ?k8 ?k9 ?kB ?_ ?c2 ?c3 ?c4 ?c5 ?ct; (case kA => exact rfl); (case kF => exact rfl); (case kK => first | assumption | exact rfl); (case k1 => k_asm); (case k2 => k_asm); (case k3 => k_asm); (case k5 => k_asm); (case k6 => k_is); (case k7 => k_is); (case k8 => ktr_room); (case k9 => first | exact BindsTo.of_eq rfl | exact binds_K (by k_in) rfl (by k_is) rfl rfl rfl | exact kp_binds (by k_in) (fun _ => rfl)); (case c5 => decide); (case kB => exact locs rfl); (case c2 => exact rfl); (case c3 => exact rfl); (case c4 => exact rfl); (case ct => assumption); k_whole; intro L' h' tk0 htk0 F' N' B' X' T'; (try dsimp only); (try k_fold))
  k_with "enterR" => (refine' enterR ?k1 ?k2 ?k3 ?k5 ?kA ?kF ?kK ?k6 ?k7 ?k8 ?kV ?kP ?kG ?kB ?_ ?c2 ?c3 ?c4 ?c5 ?ct; (case kA => exact rfl); (case kF => exact rfl); (case kK => first | assumption | exact rfl); (case k1 => k_asm); (case k2 => k_asm); (case k3 => k_asm); (case k5 => k_asm); (case k6 => k_is); (case k7 => k_is); (case k8 => ktr_room); (case kV => kl_lit); (case kP => exact rfl); (case kG => exact fun _ => rfl); (case kB => exact fun _ => locs rfl); (case c5 => decide); (case c2 => exact rfl); (case c3 => exact rfl); (case c4 => exact rfl); (case ct => assumption); k_whole; intro D' L' h' tk0 htk0 hD' F' N' B' X' T'; (try dsimp only); (try k_fold))
  k_with "enterC" => (refine' enterC ?k1 ?k2 ?k3 ?k5 ?kA ?kF ?kK ?k6 ?k7 ?k8 ?k9 ?kB ?kD ?_ ?c2 ?c3 ?c4 ?ct; (case kA => exact rfl); (case kF => exact rfl); (case kK => first | assumption | exact rfl); (case k1 => k_asm); (case k2 => k_asm); (case k3 => k_asm); (case k5 => k_asm); (case k6 => k_is); (case k7 => k_is); (case k8 => ktr_room); (case k9 => first | exact BindsTo.of_eq rfl | exact binds_K (by k_in) rfl (by k_is) rfl rfl rfl | exact kp_binds (by k_in) (fun _ => rfl)); (case kB => exact rfl); (case kD => decide +kernel); (case c2 => exact rfl); (case c3 => exact rfl); (case c4 => exact rfl); (case ct => assumption); k_whole; intro L' h' tk0 cells' htk0 F' N' Y' B' X' T'; (try dsimp only); (try k_fold))
  unfold Does; k_fill
  intro dp un gd cn cs a ccd cl outer A₀ base h₀ L m s Q E B F X T hk hd hu htk hp hret
  refine wpAny_call ?_
  k_extra "enter"
  k_with "use" => (refine' Does.use (fspath_does _ _ _ _ _ _) ?uB ?uF ?uX ?uN ?uT ?uk ?ud ?uu ?ut ?up ?_; k_extra "used"; subst hP9; (try k_sweep))
  k_with "use" => (refine' Does.use (splitroot_does _ _ _ _ _ _ hV h1 h2) ?uB ?uF ?uX ?uN ?uT ?uk ?ud ?uu ?ut ?up ?_; k_extra "used"; (obtain ⟨D9, t1, t2, t3, rfl, hf9, hD9⟩ := hP9); (replace N9 := News.add N9 (by with_reducible assumption) hD9 hf9); (try k_sweep))
  k_with "for" =>
    refine' for_list (fun i m' nx => ∃ (us : List (Str × Tok)) (n : Nat) (nc : Addr) (t1 t2 t3 t4 : Tok), nx = [(nc, W.listOf (strValues us).toArray n)] ∧ us.length ≤ i ∧ Hid (us.map (·.1) = ((Txt.split (Txt.slice V (some 1) none) (Str.ofString "/")).take i).foldl normStep []) ∧ m' (Str.ofString "new_comps") = some (.ref nc) ∧ m' (Str.ofString "dot") = some (.str (Str.ofString ".") t1) ∧ m' (Str.ofString "dotdot") = some (.str (Str.ofString "..") t2) ∧ m' (Str.ofString "initial_slashes") = some (.str (Str.ofString "/") t3) ∧ m' (Str.ofString "sep") = some (.str (Str.ofString "/") t4)) ?h1 ?h2 ?h3 ?h4 ?hF ?hN ?hl ?hi ?hnl ?hj ?ht ?hd
    (case h1 => exact rfl)
    (case h2 => exact rfl)
    (case h3 => exact rfl)
    (case h4 => exact fun _ => rfl)
    (case hF => k_asm)
    (case hi => (intro Q' E' hq; exact ld (by k_asm) rfl hq))
    (case hl => exact News.isList (by k_asm) (by k_mem))
    (case hN => exact News.sub (news := [(_, W.listOf (strValues []).toArray 0)]) (by k_asm) (fun p hp => by rw [List.mem_singleton.mp hp]; exact List.Mem.head _))
    (case hj => exact ⟨[], 0, _, _, _, _, _, rfl, Nat.le_refl _, ⟨rfl⟩, rfl, rfl, rfl, rfl, rfl⟩)
    (case hnl => (intro p hp; rw [List.mem_singleton.mp hp]; k_ne))
    (case' ht =>
      intro i v m1 nx h1 tk1 own I htk1 hv hJ hnx hown hI hl1 F1 N1
      obtain ⟨us, n, nc, t1, t2, t3, t4, rfl, hul, hus, e1, e2, e3, e4, e5⟩ := hJ
      obtain ⟨⟨c, tc⟩, hp, rfl⟩ := strValues_get hv
      have hsl := Txt.slice_le V (some 1) none
      have hc : c.length ≤ 1000000 := Nat.le_trans (le_of_item (by with_reducible assumption) hp) (Nat.le_trans hsl hV)
      simp only [List.map_cons, List.map_nil] at hown
      have hnc := hnx _ (List.Mem.head _)
      have hil := (List.getElem?_eq_some_iff.mp hp).1
      have hlz := len_le_of_split (by with_reducible assumption)
      have hz : us.length ≤ 10000000 := by omega
      clear hil hlz
      simp only [List.cons_append, List.nil_append] at N1
      rw [← upd_self e1, ← upd_self e2, ← upd_self e3, ← upd_self e4, ← upd_self e5] at F1
      dsimp only at F1)
    (case' hd =>
      intro h1 tk1 m1 nx htk1 F1 N1 hJ
      obtain ⟨us, n, nc, t1, t2, t3, t4, rfl, hul, hus, e1, e2, e3, e4, e5⟩ := hJ
      rw [← upd_self e1, ← upd_self e2, ← upd_self e3, ← upd_self e4, ← upd_self e5] at F1
      dsimp only at F1)
  k_with "join" =>
    refine' join_list ?k1 (strsAre_of _) ?k3 ?_
    (case k1 => exact News.isList (by k_asm) (by k_mem))
    (case k3 => exact Nat.le_trans (norm_bound hB.out (by with_reducible assumption) hus.out) (by decide))
    intro tJ kJ
    have hJl := join_bound (norm_bound hB.out (by with_reducible assumption) hus.out)
  k_with "truthy" => (refine' truthy_strs ?kN ?km ?kz ?_ ?_; (case kN => k_asm); (case km => k_mem); (case kz => with_reducible assumption); (all_goals intro hne))
  k_with "append" => (refine' append_strs ?kF ?kN ?kz ?kU ?_; (case kF => k_asm); (case kN => k_asm); (case kz => with_reducible assumption); (case kU => k_upd); intro hA FA NA; (try k_sweep))
  k_with "pop" => (refine' pop_strs ?kF ?kN ?kne ?kz ?kU ?_; (case kF => k_asm); (case kN => k_asm); (case kne => with_reducible assumption); (case kz => with_reducible assumption); (case kU => k_upd); intro hA cA tA FA NA; (try k_sweep))
  k_with "item" => (refine' last_strs ?kN ?km ?kne ?kk ?_ ?ks; (case kN => k_asm); (case km => k_mem); (case kne => with_reducible assumption); (case kk => rfl); (case ks => with_unfolding_all rfl); intro c' tc' hlast)
  k_steps
  all_goals (try (exact absurd (by with_reducible assumption) hV0))
  all_goals first
    | (show Q _ _
       have hr := norm_result (by with_reducible assumption) hus.out
       rw [hr] at hret
       exact hret _ _ _ (Fr.keep (by k_asm)) ⟨_, rfl⟩)
    | exact absurd (by with_reducible assumption : us = []) (by with_reducible assumption)
    | skip
  all_goals
    show ForEnd _ _ _ _ _ _ _
    first
      | have hst := step_dot (by with_reducible assumption) hp hus.out (by with_reducible assumption)
      | have hst := step_nil (by with_reducible assumption) hp hus.out (by with_reducible assumption)
      | have hst := step_app (by with_reducible assumption) hp hus.out (by with_reducible assumption) (by with_reducible assumption) (by with_reducible assumption)
      | have hst := step_up1 (by with_reducible assumption) hp hus.out (by with_reducible assumption) (by with_reducible assumption) (by with_reducible assumption) (by with_reducible assumption) hlast (by with_reducible assumption)
      | have hst := step_up2 (by with_reducible assumption) hp hus.out (by with_reducible assumption) (by with_reducible assumption) (by with_reducible assumption) hlast (by with_reducible assumption)
      | have hst := step_up0 (by with_reducible assumption) hp hus.out (by with_reducible assumption) (by with_reducible assumption) (by with_reducible assumption) (by with_reducible assumption)
    refine ⟨_, _, _, _, [(nc, W.listOf (strValues _).toArray _)], rfl, by k_asm, by k_asm, fun p hp => by rw [List.mem_singleton.mp hp]; exact List.Mem.head _, fun p hp => List.mem_cons_of_mem _ hp, fun p hp => by rw [List.mem_singleton.mp hp]; exact hnc, ⟨_, _, nc, t1, t2, t3, t4, rfl, ?_, ⟨hst⟩, rfl, rfl, rfl, rfl, rfl⟩⟩
    (try simp only [List.length_append, List.length_cons, List.length_nil, List.length_dropLast])
    omega
end
noncomputable section
open PySem PySem.W PyProof.Rows PySem.Spec PySem.Calls
noncomputable def joinAll (V : Str) (ps : List Str) : Str := ps.foldl joinS V
theorem reduce_does (w mean mg mb) (a0 : Addr) (us : List (Str × Tok)) (V : Str) (t : Tok) (hB : Hid (∀ i, (joinAll V ((us.map (·.1)).take i)).length ≤ 1000000)) (hC : Hid (∀ p ∈ us, p.1.length ≤ 1000000)) :
    Does w mean mg mb 37 3 [.ref 131, .ref a0, .str V t] (fun h => h.IsList a0 (strValues us).toArray) (fun h h' r => ∃ t', r = .str (joinAll V (us.map (·.1))) t') := by
  k_with_none
  k_with "replace" => (refine' replaceM ?k1 ?k2 ?k3 ?k4 ?k5 ?k6 ?_; (case k1 => (show @Ne Nat _ _); omega); (case k2 => (show @Ne Nat _ _); omega); (case k3 => (show @Ne Nat _ _); omega); (case k4 => decide); (case k5 => omega); (case k6 => decide); k_whole; intro tR kR hR; dsimp only at hR)
  k_with "used" => ((case uB => k_asm); (case uF => k_asm); (case uX => k_asm); (case uN => k_asm); (case uT => k_asm); (case uk => first | assumption | exact rfl); (case ud => ktr_room); (case uu => ktr_units); (case ut => (first | exact Nat.succ_pos _ | assumption | omega | (dsimp only; omega))); (case up => k_extra "pre"); k_whole; intro r9 h9 tk9 K9 F9 N9 ht9 hP9; (try dsimp only at ht9 K9))
  k_with "pre" => (first | trivial | assumption)
  k_with "enter" => (refine' enterM ?k1 ?k2 ?k3 ?k5 ?kA ?kF ?kK ?k6 ?k7 ?k8 ?k9 ?kB ?_ ?c2 ?c3 ?c4 ?c5 ?ct; (case kA => exact rfl); (case kF => exact rfl); (case kK => first | assumption | exact rfl); (case k1 => k_asm); (case k2 => k_asm); (case k3 => k_asm); (case k5 => k_asm); (case k6 => k_is); (case k7 => k_is); (case k8 => ktr_room); (case k9 => first | exact BindsTo.of_eq rfl | exact binds_K (by k_in) rfl (by k_is) rfl rfl rfl | exact kp_binds (by k_in) (fun _ => rfl)); (case c5 => decide); (case kB => exact locs rfl); (case c2 => exact rfl); (case c3 => exact rfl); (case c4 => exact rfl); (case ct => assumption); k_whole; intro L' h' tk0 htk0 F' N' B' X' T'; (try dsimp only); (try k_fold))
  k_with "enterR" => (refine' enterR ?k1 ?k2 ?k3 ?k5 ?kA ?kF ?kK ?k6 ?k7 ?k8 ?kV ?kP ?kG ?kB ?_ ?c2 ?c3 ?c4 ?c5 ?ct; (case kA => exact rfl); (case kF => exact rfl); (case kK => first | assumption | exact rfl); (case k1 => k_asm); (case k2 => k_asm); (case k3 => k_asm); (case k5 => k_asm); (case k6 => k_is); (case k7 => k_is); (case k8 => ktr_room); (case kV => kl_lit); (case kP => exact rfl); (case kG => exact fun _ => rfl); (case kB => exact fun _ => locs rfl); (case c5 => decide); (case c2 => exact rfl); (case c3 => exact rfl); (case c4 => exact rfl); (case ct => assumption); k_whole; intro D' L' h' tk0 htk0 hD' F' N' B' X' T'; (try dsimp only); (try k_fold))
  k_with "enterC" => (refine' enterC ?k1 ?k2 ?k3 ?k5 ?kA ?kF ?kK ?k6 ?k7 ?k8 ?k9 ?kB ?kD ?_ ?c2 ?c3 ?c4 ?ct; (case kA => exact rfl); (case kF => exact rfl); (case kK => first | assumption | exact rfl); (case k1 => k_asm); (case k2 => k_asm); (case k3 => k_asm); (case k5 => k_asm); (case k6 => k_is); (case k7 => k_is); (case k8 => ktr_room); (case k9 => first | exact BindsTo.of_eq rfl | exact binds_K (by k_in) rfl (by k_is) rfl rfl rfl | exact kp_binds (by k_in) (fun _ => rfl)); (case kB => exact rfl); (case kD => decide +kernel); (case c2 => exact rfl); (case c3 => exact rfl); (case c4 => exact rfl); (case ct => assumption); k_whole; intro L' h' tk0 cells' htk0 F' N' Y' B' X' T'; (try dsimp only); (try k_fold))
  unfold Does; k_fill
  intro dp un gd cn cs a ccd cl outer A₀ base h₀ L m s Q E B F X T hk hd hu htk hp hret
  refine wpAny_call ?_
  k_extra "enter"
  k_with "iter" => (refine' iter_list ?hl ?hF ?hN ?_; (case hl => exact hp.at fun o e => (Fr.keep (by k_asm)) _ o e); (case hF => k_asm); (case hN => k_asm); intro I9 h9 F9 N9 l9 ne9; (try k_sweep))
  k_with "for" =>
    refine' for_iter (news := []) (fun i m' nx => nx = [] ∧ m' (Str.ofString "function") = some (.ref 131) ∧ ∃ t', m' (Str.ofString "value") = some (.str (joinAll V ((us.map (·.1)).take i)) t')) ?h1 ?h2 ?h3 ?h4 ?hF ?hNI ?hN ?hl ?hne ?hi ?hnl ?hj ?ht ?hd
    (case h1 => exact rfl)
    (case h2 => exact rfl)
    (case h3 => exact rfl)
    (case h4 => exact fun _ => rfl)
    (case hF => k_asm)
    (case hi => (intro Q' E' hq; exact ld (by k_asm) rfl hq))
    (case hNI => k_asm)
    (case hN => exact News.nil)
    (case hl => exact hp.at fun o e => (Fr.keep (by k_asm)) _ o e)
    (case hne => assumption)
    (case hnl => exact fun p hp => nomatch hp)
    (case hj => exact ⟨rfl, rfl, _, rfl⟩)
    (case' ht =>
      intro i v m1 nx h1 tk1 own htk1 hv hJ hnx hown hI hl1 F1 N1
      obtain ⟨rfl, e1, t1, e2⟩ := hJ
      dsimp only at htk1
      obtain ⟨⟨c, tc⟩, hp1, rfl⟩ := strValues_get hv
      have hc : c.length ≤ 1000000 := hC.out _ (List.mem_of_getElem? hp1)
      have hb := hB.out i
      simp only [List.nil_append] at N1
      rw [← upd_self e1, ← upd_self e2] at F1
      dsimp only at F1)
    (case' hd =>
      intro h1 tk1 m1 nx htk1 F1 N1 hJ
      obtain ⟨rfl, e1, t1, e2⟩ := hJ
      rw [← upd_self e1, ← upd_self e2] at F1
      dsimp only at F1)
  k_with "use" => (refine' Does.use (join_does _ _ _ _ _ _ _ _ hb hc) ?uB ?uF ?uX ?uN ?uT ?uk ?ud ?uu ?ut ?up ?_; k_extra "used"; (obtain ⟨t9, rfl⟩ := hP9); (try k_sweep))
  k_steps
  · show Q _ _
    have e : (us.map (fun x => x.fst)).take (strValues us).length = us.map (fun x => x.fst) := by
      rw [strValues_len]; exact List.take_of_length_le (by simp)
    rw [e] at *
    exact hret _ _ _ (Fr.keep (by k_asm)) ⟨_, rfl⟩
  · show ForEnd _ _ _ _ _ _ _
    have h : (us.map (fun x => x.fst))[i]? = some c := by rw [List.getElem?_map, hp1]; rfl
    refine' ⟨_, _, _, _, [], rfl, by k_asm, by k_asm, (fun p hp => nomatch hp), (fun p hp => hp), (fun p hp => nomatch hp), rfl, rfl, t9, ?_⟩
    rw [take_succ_of h, show joinAll V (List.take i (us.map (fun x => x.fst)) ++ [c]) = joinS (joinAll V (List.take i (us.map (fun x => x.fst)))) c from by unfold joinAll; rw [List.foldl_append]; rfl]
    rfl
end
noncomputable section
open PySem PySem.W PyProof.Rows PySem.Spec PySem.Calls

/-- what the law builds: a text, or a list of such things -/
inductive Thing where
  | text (s : Str)
  | list (xs : List Thing)

mutual
/-- the value v bears the thing, by the objects that M tells of -/
def At (M : Addr → Obj → Prop) : Thing → Value → Prop
  | .text s, v => ∃ t, v = .str s t
  | .list xs, v => ∃ a vs n, v = .ref a ∧ M a (listOf vs.toArray n) ∧ AtAll M xs vs
def AtAll (M : Addr → Obj → Prop) : List Thing → List Value → Prop
  | [], vs => vs = []
  | x :: xs, vs => ∃ v vs', vs = v :: vs' ∧ At M x v ∧ AtAll M xs vs'
end

mutual
theorem At.mono {M M' : Addr → Obj → Prop} (hM : ∀ a o, M a o → M' a o) : ∀ (x : Thing) {v : Value}, At M x v → At M' x v
  | .text s, v, h => h
  | .list xs, v, h => by
    obtain ⟨a, vs, n, e, hm, hr⟩ := h
    exact ⟨a, vs, n, e, hM _ _ hm, AtAll.mono hM xs hr⟩
theorem AtAll.mono {M M' : Addr → Obj → Prop} (hM : ∀ a o, M a o → M' a o) : ∀ (xs : List Thing) {vs : List Value}, AtAll M xs vs → AtAll M' xs vs
  | [], vs, h => h
  | x :: xs, vs, h => by
    obtain ⟨v, vs', e, h1, h2⟩ := h
    exact ⟨v, vs', e, At.mono hM x h1, AtAll.mono hM xs h2⟩
end
abbrev HAt (h : Heap) : Thing → Value → Prop := At fun a o => h.get? a = some o
abbrev HAll (h : Heap) : List Thing → List Value → Prop := AtAll fun a o => h.get? a = some o
theorem HAt.stays {h h' : Heap} (k : h.StaysIn h') {x : Thing} {v : Value} (a : HAt h x v) : HAt h' x v := At.mono k x a
theorem HAll.stays {h h' : Heap} (k : h.StaysIn h') {xs : List Thing} {vs : List Value} (a : HAll h xs vs) : HAll h' xs vs := AtAll.mono k xs a

theorem AtAll.length {M : Addr → Obj → Prop} : ∀ {xs : List Thing} {vs : List Value}, AtAll M xs vs → vs.length = xs.length
  | [], vs, h => by rw [show vs = [] from h]; rfl
  | x :: xs, vs, h => by
    obtain ⟨v, vs', rfl, _, h2⟩ := h
    simp [AtAll.length h2]
theorem AtAll.get {M : Addr → Obj → Prop} : ∀ {xs : List Thing} {vs : List Value}, AtAll M xs vs → ∀ (i : Nat) {v : Value}, vs[i]? = some v → ∃ x, xs[i]? = some x ∧ At M x v
  | [], vs, h, i, v, e => by rw [show vs = [] from h] at e; cases e
  | x :: xs, vs, h, i, v, e => by
    obtain ⟨v', vs', rfl, h1, h2⟩ := h
    cases i with
    | zero => cases e; exact ⟨x, rfl, h1⟩
    | succ i => exact AtAll.get h2 i (by simpa using e)
theorem AtAll.append {M : Addr → Obj → Prop} : ∀ {xs ys : List Thing} {vs us : List Value}, AtAll M xs vs → AtAll M ys us → AtAll M (xs ++ ys) (vs ++ us)
  | [], ys, vs, us, h, h' => by rw [show vs = [] from h]; exact h'
  | x :: xs, ys, vs, us, h, h' => by
    obtain ⟨v', vs', rfl, h1, h2⟩ := h
    exact ⟨v', vs' ++ us, rfl, h1, AtAll.append h2 h'⟩
theorem AtAll.take {M : Addr → Obj → Prop} : ∀ {xs : List Thing} {vs : List Value} (n : Nat), AtAll M xs vs → AtAll M (xs.take n) (vs.take n)
  | [], vs, n, h => by rw [show vs = [] from h]; simp [AtAll]
  | x :: xs, vs, 0, h => by simp [AtAll]
  | x :: xs, vs, n + 1, h => by
    obtain ⟨v', vs', rfl, h1, h2⟩ := h
    exact ⟨v', vs'.take n, rfl, h1, AtAll.take n h2⟩
theorem AtAll.single {M : Addr → Obj → Prop} {x : Thing} {v : Value} (h : At M x v) : AtAll M [x] [v] := ⟨v, [], rfl, h, rfl⟩

mutual
theorem HAt.inj {h : Heap} : ∀ {x y : Thing} {v : Value}, HAt h x v → HAt h y v → x = y
  | .text s, .text s', v, a, b => by
    obtain ⟨t, rfl⟩ := a; obtain ⟨t', e⟩ := b; cases e; rfl
  | .text s, .list ys, v, a, b => by
    obtain ⟨t, rfl⟩ := a; obtain ⟨_, _, _, e, _⟩ := b; cases e
  | .list xs, .text s, v, a, b => by
    obtain ⟨t, rfl⟩ := b; obtain ⟨_, _, _, e, _⟩ := a; cases e
  | .list xs, .list ys, v, a, b => by
    obtain ⟨a1, vs, n, rfl, hm, hr⟩ := a
    obtain ⟨a2, us, k, e, hm', hr'⟩ := b
    cases e
    have q := Option.some.inj ((show h.get? a1 = some _ from hm).symm.trans hm')
    have q2 : vs = us := by
      have q3 := congrArg Obj.data q
      simp only [Data.seq.injEq] at q3
      have q4 := congrArg Array.toList q3.1
      simpa using q4
    subst q2
    rw [HAll.inj hr hr']
theorem HAll.inj {h : Heap} : ∀ {xs ys : List Thing} {vs : List Value}, HAll h xs vs → HAll h ys vs → xs = ys
  | [], [], vs, a, b => rfl
  | [], y :: ys, vs, a, b => by
    rw [show vs = [] from a] at b; obtain ⟨_, _, e, _⟩ := b; cases e
  | x :: xs, [], vs, a, b => by
    rw [show vs = [] from b] at a; obtain ⟨_, _, e, _⟩ := a; cases e
  | x :: xs, y :: ys, vs, a, b => by
    obtain ⟨v, vs', rfl, h1, h2⟩ := a
    obtain ⟨v2, vs2, e, h1', h2'⟩ := b
    cases e
    rw [HAt.inj h1 h1', HAll.inj h2 h2']
end
end
noncomputable section
open PySem PySem.W PyProof.Rows PySem.Spec PySem.Calls
mutual
noncomputable def piece : Thing → Str
  | .text s => (Str.ofString "\"" ++ hideS s) ++ Str.ofString "\""
  | .list xs => hideS (Str.ofString "/" ++ Txt.join (Str.ofString "/") (pieces xs))
noncomputable def pieces : List Thing → List Str
  | [] => []
  | x :: xs => piece x :: pieces xs
end
noncomputable def pathS (xs : List Thing) : Str := Str.ofString "/" ++ Txt.join (Str.ofString "/") (pieces xs)
mutual
def Thing.depth : Thing → Nat
  | .text _ => 0
  | .list xs => depths xs + 1
def depths : List Thing → Nat
  | [] => 0
  | x :: xs => max x.depth (depths xs)
end
def Room (V : Str) : Prop := V.length ≤ 500000 ∧ (Txt.replace V (Str.ofString "~") (Str.ofString "~0")).length ≤ 500000 ∧ (hideS V).length ≤ 500000
def PathFits (xs : List Thing) : Prop := (pathS xs).length ≤ 500000 ∧ ((pieces xs).map (·.length)).sum + (pieces xs).length ≤ 500000
mutual
def Fits : Thing → Prop
  | .text s => Room s
  | .list xs => FitsAll xs ∧ Room (pathS xs) ∧ PathFits xs
def FitsAll : List Thing → Prop
  | [] => True
  | x :: xs => Fits x ∧ FitsAll xs
end
def PieceDoes (w : World) (mean : ExcName → Option Value) (mg mb : Str → Option Value) (x : Thing) : Prop :=
  ∀ v, Does w mean mg mb 192 (2 * x.depth + 3) [v] (fun h => HAt h x v) (fun _ _ r => ∃ t, r = .str (piece x) t)
def PathDoes (w : World) (mean : ExcName → Option Value) (mg mb : Str → Option Value) (xs : List Thing) : Prop :=
  ∀ v, Does w mean mg mb 197 (2 * depths xs + 4) [v] (fun h => HAt h (.list xs) v) (fun _ _ r => ∃ t, r = .str (pathS xs) t)
theorem piece_text (w mean mg mb) (s : Str) (hf : Room s) : PieceDoes w mean mg mb (.text s) := by
  k_with_none
  k_with "replace" => (refine' replaceM ?k1 ?k2 ?k3 ?k4 ?k5 ?k6 ?_; (case k1 => (show @Ne Nat _ _); omega); (case k2 => (show @Ne Nat _ _); omega); (case k3 => (show @Ne Nat _ _); omega); (case k4 => decide); (case k5 => omega); (case k6 => decide); k_whole; intro tR kR hR; dsimp only at hR)
  k_with "used" => ((case uB => k_asm); (case uF => k_asm); (case uX => k_asm); (case uN => k_asm); (case uT => k_asm); (case uk => first | assumption | exact rfl); (case ud => ktr_room); (case uu => ktr_units); (case ut => (first | exact Nat.succ_pos _ | assumption | omega | (dsimp only; omega))); (case up => k_extra "pre"); k_whole; intro r9 h9 tk9 K9 F9 N9 ht9 hP9; (try dsimp only at ht9 K9))
  k_with "pre" => (first | trivial | assumption)
  k_with "enter" => (refine' enterM ?k1 ?k2 ?k3 ?k5 ?kA ?kF ?kK ?k6 ?k7 ?k8 ?k9 ?kB ?_ ?c2 ?c3 ?c4 ?c5 ?ct; (case kA => exact rfl); (case kF => exact rfl); (case kK => first | assumption | exact rfl); (case k1 => k_asm); (case k2 => k_asm); (case k3 => k_asm); (case k5 => k_asm); (case k6 => k_is); (case k7 => k_is); (case k8 => ktr_room); (case k9 => first | exact BindsTo.of_eq rfl | exact binds_K (by k_in) rfl (by k_is) rfl rfl rfl | exact kp_binds (by k_in) (fun _ => rfl)); (case c5 => decide); (case kB => exact locs rfl); (case c2 => exact rfl); (case c3 => exact rfl); (case c4 => exact rfl); (case ct => assumption); k_whole; intro L' h' tk0 htk0 F' N' B' X' T'; (try dsimp only); (try k_fold))
  k_with "enterR" => (refine' enterR ?k1 ?k2 ?k3 ?k5 ?kA ?kF ?kK ?k6 ?k7 ?k8 ?kV ?kP ?kG ?kB ?_ ?c2 ?c3 ?c4 ?c5 ?ct; (case kA => exact rfl); (case kF => exact rfl); (case kK => first | assumption | exact rfl); (case k1 => k_asm); (case k2 => k_asm); (case k3 => k_asm); (case k5 => k_asm); (case k6 => k_is); (case k7 => k_is); (case k8 => ktr_room); (case kV => kl_lit); (case kP => exact rfl); (case kG => exact fun _ => rfl); (case kB => exact fun _ => locs rfl); (case c5 => decide); (case c2 => exact rfl); (case c3 => exact rfl); (case c4 => exact rfl); (case ct => assumption); k_whole; intro D' L' h' tk0 htk0 hD' F' N' B' X' T'; (try dsimp only); (try k_fold))
  k_with "enterC" => (refine' enterC ?k1 ?k2 ?k3 ?k5 ?kA ?kF ?kK ?k6 ?k7 ?k8 ?k9 ?kB ?kD ?_ ?c2 ?c3 ?c4 ?ct; (case kA => exact rfl); (case kF => exact rfl); (case kK => first | assumption | exact rfl); (case k1 => k_asm); (case k2 => k_asm); (case k3 => k_asm); (case k5 => k_asm); (case k6 => k_is); (case k7 => k_is); (case k8 => ktr_room); (case k9 => first | exact BindsTo.of_eq rfl | exact binds_K (by k_in) rfl (by k_is) rfl rfl rfl | exact kp_binds (by k_in) (fun _ => rfl)); (case kB => exact rfl); (case kD => decide +kernel); (case c2 => exact rfl); (case c3 => exact rfl); (case c4 => exact rfl); (case ct => assumption); k_whole; intro L' h' tk0 cells' htk0 F' N' Y' B' X' T'; (try dsimp only); (try k_fold))
  intro v
  obtain ⟨hf1, hf2, hf3⟩ := hf
  unfold Does; k_fill
  intro dp un gd cn cs a ccd cl outer A₀ base h₀ L m s' Q E B F X T hk hd hu htk hp hret
  obtain ⟨t, rfl⟩ := hp
  refine wpAny_call ?_
  have hd1 : dp + 3 < recursionLimit := hd
  have hu1 : un + 24 < cLine := hu
  clear hd hu
  k_extra "enter"
  k_with "use" => (refine' Does.use (hide_does _ _ _ _ _ _ (by omega) (by omega)) ?uB ?uF ?uX ?uN ?uT ?uk ?ud ?uu ?ut ?up ?_; k_extra "used"; (obtain ⟨t9, rfl⟩ := hP9); (try k_sweep))
  k_steps
  show Q _ _
  exact hret _ _ _ (Fr.keep (by k_asm)) ⟨_, by unfold piece; rfl⟩
theorem piece_list (w mean mg mb) (xs : List Thing) (hf : Room (pathS xs)) (ih : PathDoes w mean mg mb xs) : PieceDoes w mean mg mb (.list xs) := by
  k_with_none
  k_with "replace" => (refine' replaceM ?k1 ?k2 ?k3 ?k4 ?k5 ?k6 ?_; (case k1 => (show @Ne Nat _ _); omega); (case k2 => (show @Ne Nat _ _); omega); (case k3 => (show @Ne Nat _ _); omega); (case k4 => decide); (case k5 => omega); (case k6 => decide); k_whole; intro tR kR hR; dsimp only at hR)
  k_with "used" => ((case uB => k_asm); (case uF => k_asm); (case uX => k_asm); (case uN => k_asm); (case uT => k_asm); (case uk => first | assumption | exact rfl); (case ud => ktr_room); (case uu => ktr_units); (case ut => (first | exact Nat.succ_pos _ | assumption | omega | (dsimp only; omega))); (case up => k_extra "pre"); k_whole; intro r9 h9 tk9 K9 F9 N9 ht9 hP9; (try dsimp only at ht9 K9))
  k_with "pre" => (first | trivial | assumption)
  k_with "enter" => (refine' enterM ?k1 ?k2 ?k3 ?k5 ?kA ?kF ?kK ?k6 ?k7 ?k8 ?k9 ?kB ?_ ?c2 ?c3 ?c4 ?c5 ?ct; (case kA => exact rfl); (case kF => exact rfl); (case kK => first | assumption | exact rfl); (case k1 => k_asm); (case k2 => k_asm); (case k3 => k_asm); (case k5 => k_asm); (case k6 => k_is); (case k7 => k_is); (case k8 => ktr_room); (case k9 => first | exact BindsTo.of_eq rfl | exact binds_K (by k_in) rfl (by k_is) rfl rfl rfl | exact kp_binds (by k_in) (fun _ => rfl)); (case c5 => decide); (case kB => exact locs rfl); (case c2 => exact rfl); (case c3 => exact rfl); (case c4 => exact rfl); (case ct => assumption); k_whole; intro L' h' tk0 htk0 F' N' B' X' T'; (try dsimp only); (try k_fold))
  k_with "enterR" => (refine' enterR ?k1 ?k2 ?k3 ?k5 ?kA ?kF ?kK ?k6 ?k7 ?k8 ?kV ?kP ?kG ?kB ?_ ?c2 ?c3 ?c4 ?c5 ?ct; (case kA => exact rfl); (case kF => exact rfl); (case kK => first | assumption | exact rfl); (case k1 => k_asm); (case k2 => k_asm); (case k3 => k_asm); (case k5 => k_asm); (case k6 => k_is); (case k7 => k_is); (case k8 => ktr_room); (case kV => kl_lit); (case kP => exact rfl); (case kG => exact fun _ => rfl); (case kB => exact fun _ => locs rfl); (case c5 => decide); (case c2 => exact rfl); (case c3 => exact rfl); (case c4 => exact rfl); (case ct => assumption); k_whole; intro D' L' h' tk0 htk0 hD' F' N' B' X' T'; (try dsimp only); (try k_fold))
  k_with "enterC" => (refine' enterC ?k1 ?k2 ?k3 ?k5 ?kA ?kF ?kK ?k6 ?k7 ?k8 ?k9 ?kB ?kD ?_ ?c2 ?c3 ?c4 ?ct; (case kA => exact rfl); (case kF => exact rfl); (case kK => first | assumption | exact rfl); (case k1 => k_asm); (case k2 => k_asm); (case k3 => k_asm); (case k5 => k_asm); (case k6 => k_is); (case k7 => k_is); (case k8 => ktr_room); (case k9 => first | exact BindsTo.of_eq rfl | exact binds_K (by k_in) rfl (by k_is) rfl rfl rfl | exact kp_binds (by k_in) (fun _ => rfl)); (case kB => exact rfl); (case kD => decide +kernel); (case c2 => exact rfl); (case c3 => exact rfl); (case c4 => exact rfl); (case ct => assumption); k_whole; intro L' h' tk0 cells' htk0 F' N' Y' B' X' T'; (try dsimp only); (try k_fold))
  intro v
  obtain ⟨hf1, hf2, hf3⟩ := hf
  unfold Does; k_fill
  intro dp un gd cn cs a ccd cl outer A₀ base h₀ L m s' Q E B F X T hk hd hu htk hp hret
  obtain ⟨al, vs, n, rfl, hm, hr⟩ := id hp
  refine wpAny_call ?_
  have hd1 : dp + (2 * depths xs + 5) < recursionLimit := hd
  have hu1 : un + 8 * (2 * depths xs + 5) < cLine := hu
  clear hd hu
  k_extra "enter"
  k_with "use" => (refine' Does.use (hide_does _ _ _ _ _ _ (by omega) (by omega)) ?uB ?uF ?uX ?uN ?uT ?uk ?ud ?uu ?ut ?up ?_; k_extra "used"; (obtain ⟨t9, rfl⟩ := hP9); (try k_sweep))
  k_with "use" => (refine' Does.use (ih _) ?uB ?uF ?uX ?uN ?uT ?uk ?ud ?uu ?ut ?up ?_; k_extra "used"; (obtain ⟨t9, rfl⟩ := hP9); (try k_sweep))
  have hl : s'.heap.IsList al vs.toArray := ⟨_, hm, rfl, _, rfl⟩
  k_with "isi" => (refine IsiPair.isList_str hl (Fr.keep (by k_asm)) ?_)
  k_with "pre" => (exact HAt.stays (Fr.keep (by k_asm)) hp)
  k_steps
  show Q _ _
  exact hret _ _ _ (Fr.keep (by k_asm)) ⟨_, by unfold piece; rfl⟩
theorem pieces_len (xs : List Thing) : (pieces xs).length = xs.length := by
  induction xs with
  | nil => rfl
  | cons x xs ih => simp [pieces, ih]
theorem depth_le {x : Thing} : ∀ {xs : List Thing}, x ∈ xs → x.depth ≤ depths xs
  | y :: ys, h => by
    rcases List.mem_cons.mp h with rfl | h
    · exact Nat.le_max_left _ _
    · exact Nat.le_trans (depth_le h) (Nat.le_max_right _ _)
theorem paired_pieces {h : Heap} {zs : List Thing} : ∀ {xs : List Thing} {vs : List Value} {us : List (Str × Tok)}, HAll h xs vs → Paired (fun v (u : Str × Tok) => ∃ x ∈ zs, HAt h x v ∧ u.1 = piece x) vs us → us.map (·.1) = pieces xs
  | [], vs, us, ha, hp => by
    rw [show vs = [] from ha] at hp; cases hp; rfl
  | x :: xs, vs, us, ha, hp => by
    obtain ⟨v, vs', rfl, h1, h2⟩ := ha
    cases hp with
    | cons hg hr =>
      obtain ⟨y, _, hy, e⟩ := hg
      rw [List.map_cons, paired_pieces h2 hr, e, HAt.inj hy h1]
      rfl
theorem join_room {ys : List Str} {B : Nat} (h : (ys.map (·.length)).sum + ys.length ≤ B) : (ys.map (·.length)).sum + ys.length * (Str.ofString "/").length ≤ B := by
  have e2 : (Str.ofString "/").length = 1 := by decide
  rw [e2, Nat.mul_one]; exact h
theorem path_step (w mean mg mb) (xs : List Thing) (hf : (pathS xs).length ≤ 500000) (hB : Hid (((pieces xs).map (·.length)).sum + (pieces xs).length ≤ 500000)) (ih : ∀ x ∈ xs, PieceDoes w mean mg mb x) : PathDoes w mean mg mb xs := by
  k_with_none
  k_with "replace" => (refine' replaceM ?k1 ?k2 ?k3 ?k4 ?k5 ?k6 ?_; (case k1 => (show @Ne Nat _ _); omega); (case k2 => (show @Ne Nat _ _); omega); (case k3 => (show @Ne Nat _ _); omega); (case k4 => decide); (case k5 => omega); (case k6 => decide); k_whole; intro tR kR hR; dsimp only at hR)
  k_with "used" => ((case uB => k_asm); (case uF => k_asm); (case uX => k_asm); (case uN => k_asm); (case uT => k_asm); (case uk => first | assumption | exact rfl); (case ud => ktr_room); (case uu => ktr_units); (case ut => (first | exact Nat.succ_pos _ | assumption | omega | (dsimp only; omega))); (case up => k_extra "pre"); k_whole; intro r9 h9 tk9 K9 F9 N9 ht9 hP9; (try dsimp only at ht9 K9))
  k_with "pre" => (first | trivial | assumption)
  k_with "enter" => (refine' enterM ?k1 ?k2 ?k3 ?k5 ?kA ?kF ?kK ?k6 ?k7 ?k8 ?k9 ?kB ?_ ?c2 ?c3 ?c4 ?c5 ?ct; (case kA => exact rfl); (case kF => exact rfl); (case kK => first | assumption | exact rfl); (case k1 => k_asm); (case k2 => k_asm); (case k3 => k_asm); (case k5 => k_asm); (case k6 => k_is); (case k7 => k_is); (case k8 => ktr_room); (case k9 => first | exact BindsTo.of_eq rfl | exact binds_K (by k_in) rfl (by k_is) rfl rfl rfl | exact kp_binds (by k_in) (fun _ => rfl)); (case c5 => decide); (case kB => exact locs rfl); (case c2 => exact rfl); (case c3 => exact rfl); (case c4 => exact rfl); (case ct => assumption); k_whole; intro L' h' tk0 htk0 F' N' B' X' T'; (try dsimp only); (try k_fold))
  k_with "enterR" => (refine' enterR ?k1 ?k2 ?k3 ?k5 ?kA ?kF ?kK ?k6 ?k7 ?k8 ?kV ?kP ?kG ?kB ?_ ?c2 ?c3 ?c4 ?c5 ?ct; (case kA => exact rfl); (case kF => exact rfl); (case kK => first | assumption | exact rfl); (case k1 => k_asm); (case k2 => k_asm); (case k3 => k_asm); (case k5 => k_asm); (case k6 => k_is); (case k7 => k_is); (case k8 => ktr_room); (case kV => kl_lit); (case kP => exact rfl); (case kG => exact fun _ => rfl); (case kB => exact fun _ => locs rfl); (case c5 => decide); (case c2 => exact rfl); (case c3 => exact rfl); (case c4 => exact rfl); (case ct => assumption); k_whole; intro D' L' h' tk0 htk0 hD' F' N' B' X' T'; (try dsimp only); (try k_fold))
  k_with "enterC" => (refine' enterC ?k1 ?k2 ?k3 ?k5 ?kA ?kF ?kK ?k6 ?k7 ?k8 ?k9 ?kB ?kD ?_ ?c2 ?c3 ?c4 ?ct; (case kA => exact rfl); (case kF => exact rfl); (case kK => first | assumption | exact rfl); (case k1 => k_asm); (case k2 => k_asm); (case k3 => k_asm); (case k5 => k_asm); (case k6 => k_is); (case k7 => k_is); (case k8 => ktr_room); (case k9 => first | exact BindsTo.of_eq rfl | exact binds_K (by k_in) rfl (by k_is) rfl rfl rfl | exact kp_binds (by k_in) (fun _ => rfl)); (case kB => exact rfl); (case kD => decide +kernel); (case c2 => exact rfl); (case c3 => exact rfl); (case c4 => exact rfl); (case ct => assumption); k_whole; intro L' h' tk0 cells' htk0 F' N' Y' B' X' T'; (try dsimp only); (try k_fold))
  intro v
  unfold Does; k_fill
  intro dp un gd cn cs a ccd cl outer A₀ base h₀ L m s' Q E B F X T hk hd hu htk hp hret
  obtain ⟨al, vs, n, rfl, hm, hr⟩ := id hp
  refine wpAny_call ?_
  have hd1 : dp + (2 * depths xs + 4) < recursionLimit := hd
  have hu1 : un + 8 * (2 * depths xs + 4) < cLine := hu
  clear hd hu
  k_extra "enter"
  have hl : s'.heap.IsList al vs.toArray := ⟨_, hm, rfl, _, rfl⟩
  k_with "comp" =>
    refine' comp_strs (l := al) (vs := vs) (fun _ => true) (fun v y => ∃ x ∈ xs, HAt s'.heap x v ∧ y = piece x) ?h0 ?h1 ?h2 ?h3 ?h4 ?h5 ?h6 ?hF ?hN ?hl ?hz ?hi ?ht ?he ?hQ
    (case h0 => exact rfl)
    (case h1 => exact rfl)
    (case h2 => decide)
    (case h3 => exact rfl)
    (case h4 => decide)
    (case h5 => exact rfl)
    (case h6 => exact fun _ => rfl)
    (case hF => k_asm)
    (case hN => k_asm)
    (case hl => exact hl.at fun o e => (Fr.keep (by k_asm)) _ o e)
    (case hz => (rw [hr.length, sizeLine_eq, ← pieces_len]; have := hB.out; omega))
    (case hi => (intro Q' E' hq; exact ld (by k_asm) rfl hq))
    (case ht => (intro C v s2 m2 E2 hv hn hm hst htk; exact wpAny_pure ⟨rfl, ⟨_, _, rfl, fun _ _ e => e⟩⟩))
    (case' he =>
      intro C v s2 m2 E2 hv hpv hn hm hst htk F2 N2
      dsimp only at htk
      obtain ⟨i, hi⟩ := List.mem_iff_getElem?.mp hv
      obtain ⟨x, hx, hxa⟩ := hr.get i hi
      have hxm := List.mem_of_getElem? hx
      have hxd := depth_le hxm)
    (case' hQ => intro D h2 tk2 us n2 htk2 hP F2 N2 K2 hD2)
  k_with "use" => (refine' Does.use (ih x hxm v) ?uB ?uF ?uX ?uN ?uT ?uk ?ud ?uu ?ut ?up ?_; k_extra "used"; (obtain ⟨t9, rfl⟩ := hP9))
  k_with "pre" => (exact HAt.stays (Fr.keep (by k_asm)) hxa)
  k_with "join" =>
    rw [List.filter_eq_self.mpr (fun _ _ => rfl)] at hP
    have hps := paired_pieces hr hP
    refine' join_list ?k1 (strsAre_of _) ?k3 ?_
    (case k1 => exact News.isList (by k_asm) (by k_mem))
    (case k3 => (rw [hps]; exact Nat.le_trans (join_room hB.out) (by decide)))
    intro tJ kJ
    rw [hps]
    have hJl := join_bound (join_room hB.out)
  k_steps
  · show Q _ _
    exact hret _ _ _ (Fr.keep (by k_asm)) ⟨_, rfl⟩
  · exact hxm
  · exact hxa
  · exact ⟨_, _, rfl, K9⟩

mutual
theorem piece_does (w mean mg mb) : ∀ (x : Thing), Fits x → PieceDoes w mean mg mb x
  | .text s, h => piece_text w mean mg mb s h
  | .list xs, h => piece_list w mean mg mb xs h.2.1 (path_step w mean mg mb xs h.2.2.1 ⟨h.2.2.2⟩ (pieces_do w mean mg mb xs h.1))
theorem pieces_do (w mean mg mb) : ∀ (xs : List Thing), FitsAll xs → ∀ x ∈ xs, PieceDoes w mean mg mb x
  | [], _ => fun x hx => nomatch hx
  | y :: ys, h => fun x hx => (List.mem_cons.mp hx).elim (fun e => e ▸ piece_does w mean mg mb y h.1) (fun hx => pieces_do w mean mg mb ys h.2 x hx)
end
theorem path_does (w mean mg mb) (xs : List Thing) (h : FitsAll xs) (hp : PathFits xs) : PathDoes w mean mg mb xs :=
  path_step w mean mg mb xs hp.1 ⟨hp.2⟩ (pieces_do w mean mg mb xs h)
end
noncomputable section
open PySem PySem.StrLaws Builtin Builtin.Str

theorem slE : PySem.Str.ofString "/" = ⟨#[47]⟩ := by decide +kernel
theorem quE : PySem.Str.ofString "\"" = ⟨#[34]⟩ := by decide +kernel
theorem tiE : PySem.Str.ofString "~" = ⟨#[126]⟩ := by decide +kernel
theorem t0E : PySem.Str.ofString "~0" = ⟨#[126, 48]⟩ := by decide +kernel
theorem t1E : PySem.Str.ofString "~1" = ⟨#[126, 49]⟩ := by decide +kernel
theorem doE : PySem.Str.ofString "." = ⟨#[46]⟩ := by decide +kernel
theorem ddE : PySem.Str.ofString ".." = ⟨#[46, 46]⟩ := by decide +kernel

/-! ## hide and show -/
def enc (k : Nat) : List Nat := if k = 126 then [126, 48] else if k = 47 then [126, 49] else [k]
theorem hide_cl (V : Str) : cl (hideS V) = (cl V).flatMap enc := by
  unfold hideS
  rw [slE, tiE, t0E, t1E, replace1, replace1]
  unfold rep1
  rw [List.flatMap_assoc]
  congr 1
  funext k
  unfold enc
  by_cases h : k = 126
  · subst h; rfl
  · rw [if_neg h, if_neg h]
    by_cases h2 : k = 47
    · subst h2; rfl
    · rw [if_neg h2]; simp [h2]
theorem hide_free (V : Str) : 47 ∉ cl (hideS V) := by
  rw [hide_cl]
  intro h
  obtain ⟨k, _, hk⟩ := List.mem_flatMap.mp h
  unfold enc at hk
  by_cases h1 : k = 126
  · rw [if_pos h1] at hk; simp at hk
  · rw [if_neg h1] at hk
    by_cases h2 : k = 47
    · rw [if_pos h2] at hk; simp at hk
    · rw [if_neg h2] at hk; simp at hk; exact h2 hk.symm
theorem rep2_other {c d k : Nat} {z l : List Nat} (h : k ≠ c) : rep2 c d z (k :: l) = k :: rep2 c d z l := rep2_step (by rintro ⟨r, e⟩; injection e with e _; exact h e)
theorem rep2_miss {c d e : Nat} {z l : List Nat} (h : e ≠ d) : rep2 c d z (c :: e :: l) = c :: rep2 c d z (e :: l) := rep2_step (by rintro ⟨r, q⟩; injection q with _ q; injection q with q _; exact h q)
theorem rep2_hit {c d : Nat} {z l : List Nat} : rep2 c d z (c :: d :: l) = z ++ rep2 c d z l := by rw [rep2, if_pos ⟨rfl, rfl⟩]
theorem show_a : ∀ l : List Nat, rep2 126 49 [47] (l.flatMap enc) = rep1 126 [126, 48] l
  | [] => rfl
  | k :: l => by
    have ih := show_a l
    rw [List.flatMap_cons]
    show _ = List.flatMap _ (k :: l)
    rw [List.flatMap_cons]
    show _ = _ ++ rep1 126 [126, 48] l
    rw [← ih]
    unfold enc
    by_cases h1 : k = 126
    · rw [if_pos h1, if_pos h1]
      show rep2 126 49 [47] (126 :: 48 :: _) = _
      rw [rep2_miss (by decide), rep2_other (by decide)]; rfl
    · rw [if_neg h1, if_neg h1]
      by_cases h2 : k = 47
      · rw [if_pos h2, h2]
        show rep2 126 49 [47] (126 :: 49 :: _) = _
        rw [rep2_hit]; rfl
      · rw [if_neg h2]
        show rep2 126 49 [47] (k :: _) = _
        rw [rep2_other h1]; rfl
theorem show_b : ∀ l : List Nat, rep2 126 48 [126] (rep1 126 [126, 48] l) = l
  | [] => rfl
  | k :: l => by
    have ih := show_b l
    show rep2 126 48 [126] (List.flatMap _ (k :: l)) = _
    rw [List.flatMap_cons]
    show rep2 126 48 [126] (_ ++ rep1 126 [126, 48] l) = _
    by_cases h1 : k = 126
    · rw [if_pos h1]
      show rep2 126 48 [126] (126 :: 48 :: rep1 126 [126, 48] l) = _
      rw [rep2_hit, ih, h1]; rfl
    · rw [if_neg h1]
      show rep2 126 48 [126] (k :: rep1 126 [126, 48] l) = _
      rw [rep2_other h1, ih]
theorem show_hide (V : Str) : showS (hideS V) = V := by
  apply ext_cl
  have e : cl (Txt.replace (hideS V) (PySem.Str.ofString "~1") (PySem.Str.ofString "/")) = rep1 126 [126, 48] (cl V) := by
    rw [slE, t1E, replace2, hide_cl]
    exact show_a _
  unfold showS
  rw [tiE, t0E, replace2, e]
  exact show_b _
theorem show_mid (V : Str) : (Txt.replace (hideS V) (PySem.Str.ofString "~1") (PySem.Str.ofString "/")).length ≤ 2 * V.length := by
  have e : cl (Txt.replace (hideS V) (PySem.Str.ofString "~1") (PySem.Str.ofString "/")) = rep1 126 [126, 48] (cl V) := by
    rw [slE, t1E, replace2, hide_cl]
    exact show_a _
  rw [← cl_length, e, ← cl_length]
  induction cl V with
  | nil => simp [rep1]
  | cons k l ih =>
    unfold rep1 at ih ⊢
    rw [List.flatMap_cons, List.length_append, List.length_cons]
    have : (if k = 126 then [126, 48] else [k]).length ≤ 2 := by split <;> simp
    omega
theorem hide_mid (V : Str) : (Txt.replace V (PySem.Str.ofString "~") (PySem.Str.ofString "~0")).length ≤ 2 * V.length := by
  rw [tiE, t0E, ← cl_length, replace1, ← cl_length]
  induction cl V with
  | nil => simp [rep1]
  | cons k l ih =>
    unfold rep1 at ih ⊢
    rw [List.flatMap_cons, List.length_append, List.length_cons]
    have : (if k = 126 then cl ⟨#[126, 48]⟩ else [k]).length ≤ 2 := by split <;> simp [cl]
    omega
theorem hide_len (V : Str) : (hideS V).length ≤ 2 * V.length := by
  rw [← cl_length, hide_cl, ← cl_length]
  induction cl V with
  | nil => simp
  | cons k l ih =>
    rw [List.flatMap_cons, List.length_append, List.length_cons]
    have : (enc k).length ≤ 2 := by unfold enc; split <;> (try split) <;> simp
    omega

/-! ## paths of components -/
noncomputable def pathOf (cs : List Str) : Str := PySem.Str.ofString "/" ++ Txt.join (PySem.Str.ofString "/") cs
theorem pathS_eq (xs : List Thing) : pathS xs = pathOf (pieces xs) := rfl
def Comp (c : Str) : Prop := cl c ≠ [] ∧ 47 ∉ cl c
theorem path_cl (cs : List Str) : cl (pathOf cs) = 47 :: cl (PySem.Str.join ⟨#[47]⟩ cs) := by
  unfold pathOf; rw [cl_append, slE, join_txt]; rfl
theorem join_snoc (g c : Str) : ∀ cs : List Str, cs ≠ [] → PySem.Str.join g (cs ++ [c]) = PySem.Str.join g cs ++ g ++ c
  | [], h => absurd rfl h
  | [a], _ => rfl
  | a :: b :: r, _ => by
    have ih := join_snoc g c (b :: r) (by simp)
    show a ++ g ++ PySem.Str.join g (b :: r ++ [c]) = (a ++ g ++ PySem.Str.join g (b :: r)) ++ g ++ c
    rw [ih]
    apply ext_cl
    simp only [cl_append, List.append_assoc]
theorem path_snoc (cs : List Str) (c : Str) : cl (pathOf (cs ++ [c])) = (if cs = [] then [] else cl (pathOf cs)) ++ 47 :: cl c := by
  rw [path_cl]
  by_cases h : cs = []
  · subst h; rfl
  · rw [if_neg h, join_snoc _ _ _ h, cl_append, cl_append, path_cl]
    simp [cl]
theorem path_last {cs : List Str} (h0 : cs ≠ []) (h : ∀ c ∈ cs, Comp c) : (∀ r, cl (pathOf cs) ≠ r ++ [47]) ∧ ∃ k ∈ cl (pathOf cs), k ≠ 47 := by
  obtain ⟨ds, d, rfl⟩ : ∃ ds d, cs = ds ++ [d] := ⟨cs.dropLast, cs.getLast h0, (List.dropLast_concat_getLast h0).symm⟩
  obtain ⟨hd1, hd2⟩ := h d (by simp)
  rw [path_snoc]
  obtain ⟨e, k, hk⟩ : ∃ e k, cl d = e ++ [k] := ⟨(cl d).dropLast, (cl d).getLast hd1, (List.dropLast_concat_getLast hd1).symm⟩
  have hk47 : k ≠ 47 := fun q => hd2 (by rw [hk, q]; simp)
  refine ⟨fun r q => ?_, k, by rw [hk]; simp, hk47⟩
  rw [hk] at q
  have : ((if ds = [] then [] else cl (pathOf ds)) ++ 47 :: e) ++ [k] = r ++ [47] := by rw [← q]; simp
  exact hk47 (by simpa using (List.append_inj' this rfl).2)
theorem mul_all (c : Nat) (n : Int) : ∀ k ∈ cl (Txt.mul ⟨#[c]⟩ n), k = c := by
  intro k hk
  unfold Txt.mul at hk
  by_cases h1 : n < 1
  · rw [if_pos h1] at hk; exact absurd hk (by simp [cl, PySem.Str.empty])
  · rw [if_neg h1] at hk
    split at hk
    · simpa [cl] using hk
    · have gen : ∀ (m : Nat) (a : Array Nat), (∀ k ∈ a.toList, k = c) → ∀ k ∈ ((List.replicate m (⟨#[c]⟩ : Str).cps).foldl (· ++ ·) a).toList, k = c := by
        intro m
        induction m with
        | zero => intro a ha; exact ha
        | succ m ih =>
          intro a ha
          rw [List.replicate_succ, List.foldl_cons]
          refine ih _ fun k hk => ?_
          rw [Array.toList_append] at hk
          rcases List.mem_append.mp hk with hk | hk
          · exact ha k hk
          · simpa using hk
      exact gen _ #[] (fun k hk => by simp at hk) k hk
theorem split_path {cs : List Str} {c : Str} (h : ∀ d ∈ cs, Comp d) (hc : Comp c) : splitH (pathOf (cs ++ [c])) = pathOf cs ∧ splitT (pathOf (cs ++ [c])) = c := by
  have e := path_snoc cs c
  have hr : Txt.rfind (pathOf (cs ++ [c])) (PySem.Str.ofString "/") = ((if cs = [] then [] else cl (pathOf cs)).length : Int) := by rw [slE]; exact rfind_one e hc.2
  have hr1 : Txt.rfind (pathOf (cs ++ [c])) (PySem.Str.ofString "/") + 1 = (((if cs = [] then [] else cl (pathOf cs)).length + 1 : Nat) : Int) := by rw [hr]; rfl
  have e0 : cl (splitH0 (pathOf (cs ++ [c]))) = (if cs = [] then [] else cl (pathOf cs)) ++ [47] := by
    unfold splitH0
    rw [hr1, slice_to, e]
    generalize (if cs = [] then [] else cl (pathOf cs)) = P
    rw [List.take_append, List.take_of_length_le (by omega)]
    simp
  have eT : splitT (pathOf (cs ++ [c])) = c := by
    apply ext_cl
    unfold splitT
    rw [hr1, slice_from, e]
    generalize (if cs = [] then [] else cl (pathOf cs)) = P
    rw [List.drop_append]
    simp
  refine ⟨?_, eT⟩
  have hl0 := cl_length (splitH0 (pathOf (cs ++ [c])))
  rw [e0, List.length_append] at hl0
  simp only [List.length_cons, List.length_nil] at hl0
  unfold splitH
  rw [if_neg (by omega)]
  by_cases hcs : cs = []
  · rw [if_pos hcs] at e0 hl0
    have ez : splitH0 (pathOf (cs ++ [c])) = ⟨#[47]⟩ := ext_cl (by rw [e0]; rfl)
    rw [ez, slE, if_neg (by decide)]
    subst hcs
    apply ext_cl
    rw [path_cl]; rfl
  · rw [if_neg hcs] at e0 hl0
    obtain ⟨q1, k, hk, hk47⟩ := path_last hcs h
    rw [if_pos]
    · rw [slE]
      exact ext_cl (rstrip_one e0 q1)
    · rw [bne_iff_ne]
      intro q
      refine hk47 ?_
      have hk' : k ∈ cl (splitH0 (pathOf (cs ++ [c]))) := by rw [e0]; exact List.mem_append_left _ hk
      rw [q, slE] at hk'
      exact mul_all 47 _ k hk'

/-! ## join -/
theorem join_path {cs : List Str} {c : Str} (h : ∀ d ∈ cs, Comp d) (hc : Comp c) : joinS (pathOf cs) c = pathOf (cs ++ [c]) := by
  have h1 : ¬ (Txt.startswith c (PySem.Str.ofString "/") = true ∨ (pathOf cs).length = 0) := by
    rintro (q | q)
    · rw [slE, starts_one] at q
      obtain ⟨r, q⟩ := q
      exact hc.2 (by rw [q]; simp)
    · rw [← cl_length, path_cl] at q; simp at q
  unfold joinS
  rw [if_neg h1]
  by_cases hcs : cs = []
  · subst hcs
    rw [if_pos (by rw [slE, ends_one]; exact ⟨[], by rw [path_cl]; rfl⟩)]
    apply ext_cl
    rw [cl_append, path_snoc, path_cl, if_pos rfl]; rfl
  · rw [if_neg (by rw [slE, ends_one]; rintro ⟨r, q⟩; exact (path_last hcs h).1 r q)]
    apply ext_cl
    rw [path_snoc, if_neg hcs, cl_append, cl_append, slE]; rfl
theorem joinAll_path : ∀ {ds cs : List Str}, (∀ d ∈ cs, Comp d) → (∀ d ∈ ds, Comp d) → joinAll (pathOf cs) ds = pathOf (cs ++ ds)
  | [], cs, _, _ => by simp [joinAll]
  | d :: ds, cs, h1, h2 => by
    show joinAll (joinS (pathOf cs) d) ds = _
    rw [join_path h1 (h2 d (by simp)), joinAll_path (fun e he => ?_) (fun e he => h2 e (by simp [he]))]
    · simp
    · rcases List.mem_append.mp he with he | he
      · exact h1 e he
      · rw [List.mem_singleton.mp he]; exact h2 d (by simp)
theorem root_path : pathOf [] = PySem.Str.ofString "/" := ext_cl (by rw [path_cl, slE]; rfl)

/-! ## normpath -/
theorem path_tail (cs : List Str) : Txt.slice (pathOf cs) (some 1) none = PySem.Str.join ⟨#[47]⟩ cs := by
  apply ext_cl
  have := slice_from (pathOf cs) 1
  rw [path_cl] at this
  exact this
theorem comps_path {cs : List Str} (h : ∀ d ∈ cs, 47 ∉ cl d) : Txt.split (Txt.slice (pathOf cs) (some 1) none) (PySem.Str.ofString "/") = if cs = [] then [PySem.Str.empty] else cs := by
  rw [path_tail, slE]
  by_cases hcs : cs = []
  · subst hcs
    rw [if_pos rfl]
    exact split_join (ps := [PySem.Str.empty]) (by simp) (by simp [cl, PySem.Str.empty])
  · rw [if_neg hcs]
    exact split_join hcs h
theorem normL_path {cs : List Str} (h : ∀ d ∈ cs, 47 ∉ cl d) : normL (pathOf cs) = cs.foldl normStep [] := by
  unfold normL
  rw [comps_path h]
  by_cases hcs : cs = []
  · subst hcs; rfl
  · rw [if_neg hcs]
theorem normS_path {cs : List Str} (h : ∀ d ∈ cs, 47 ∉ cl d) : normS (pathOf cs) = pathOf (cs.foldl normStep []) := by
  unfold normS; rw [normL_path h]; rfl
theorem norm_h1 (cs : List Str) : (Txt.slice (pathOf cs) none (some 1) != PySem.Str.ofString "/") = false := by
  rw [bne_eq_false_iff_eq]
  apply ext_cl
  have := slice_to (pathOf cs) 1
  rw [path_cl] at this
  rw [slE]
  exact this
theorem norm_h2 {cs : List Str} (h : ∀ d ∈ cs, Comp d) : (Txt.slice (pathOf cs) (some 1) (some 2) != PySem.Str.ofString "/") = true := by
  rw [bne_iff_ne, slE]
  intro q
  have e := slice_nat (pathOf cs) (a := 1) (b := 2) (by decide)
  rw [path_cl] at e
  have e : cl (Txt.slice (pathOf cs) (some 1) (some 2)) = (cl (PySem.Str.join ⟨#[47]⟩ cs)).take 1 := e
  rw [q] at e
  cases cs with
  | nil => exact absurd e (by decide)
  | cons d ds =>
    obtain ⟨h1, h2⟩ := h d (by simp)
    obtain ⟨k, r, hk⟩ : ∃ k r, cl d = k :: r := by
      cases q : cl d with
      | nil => exact absurd q h1
      | cons k r => exact ⟨k, r, rfl⟩
    have e2 : ∃ r', cl (PySem.Str.join ⟨#[47]⟩ (d :: ds)) = k :: r' := by
      cases ds with
      | nil => exact ⟨r, hk⟩
      | cons d2 ds => exact ⟨_, by show cl (d ++ _ ++ _) = _; rw [cl_append, cl_append, hk]; rfl⟩
    obtain ⟨r', e2⟩ := e2
    rw [e2] at e
    have e : [47] = [k] := e
    injection e with e _
    exact h2 (by rw [hk, e]; simp)
/-- a component that normpath keeps -/
def Kept (c : Str) : Prop := Comp c ∧ c ≠ PySem.Str.ofString "." ∧ c ≠ PySem.Str.ofString ".."
theorem norm_kept {acc : List Str} {c : Str} (h : Kept c) : normStep acc c = acc ++ [c] := by
  unfold normStep
  rw [if_neg, if_pos (.inl (bne_iff_ne.mpr h.2.2))]
  rintro (q | q)
  · have : c.length = 0 := by omega
    rw [← cl_length] at this
    exact h.1.1 (List.length_eq_zero_iff.mp this)
  · exact h.2.1 q
theorem norm_all : ∀ {cs acc : List Str}, (∀ c ∈ cs, Kept c) → cs.foldl normStep acc = acc ++ cs
  | [], acc, _ => by simp
  | c :: cs, acc, h => by
    rw [List.foldl_cons, norm_kept (h c (by simp)), norm_all fun d hd => h d (by simp [hd])]
    simp
theorem norm_up {acc : List Str} (h : ∀ c ∈ acc, Kept c) : normStep acc (PySem.Str.ofString "..") = acc.dropLast := by
  unfold normStep
  rw [if_neg (by rintro (q | q) <;> exact absurd q (by decide +kernel)), if_neg]
  rintro (q | ⟨_, q⟩)
  · exact absurd q (by decide)
  · exact (h _ (List.mem_of_getLast? q)).2.2 rfl
theorem norm_ups : ∀ (up : Nat) {acc : List Str}, (∀ c ∈ acc, Kept c) → (List.replicate up (PySem.Str.ofString "..")).foldl normStep acc = acc.take (acc.length - up)
  | 0, acc, _ => by simp
  | up + 1, acc, h => by
    rw [List.replicate_succ, List.foldl_cons, norm_up h, norm_ups up fun c hc => h c (List.dropLast_subset _ hc)]
    rw [List.length_dropLast, List.dropLast_eq_take, List.take_take]
    congr 1
    omega
/-! ## pieces -/
theorem piece_text_cl (s : Str) : cl (piece (.text s)) = 34 :: (cl (hideS s) ++ [34]) := by
  unfold piece; rw [cl_append, cl_append, quE]; rfl
theorem piece_list_cl (xs : List Thing) : ∃ r, cl (piece (.list xs)) = 126 :: 49 :: r := by
  have : piece (.list xs) = hideS (pathS xs) := by unfold piece; rfl
  rw [this, hide_cl, pathS_eq, path_cl]
  exact ⟨_, rfl⟩
theorem piece_kept : ∀ x : Thing, Kept (piece x)
  | .text s => by
    have e := piece_text_cl s
    refine ⟨⟨by rw [e]; simp, ?_⟩, ?_, ?_⟩
    · rw [e]; simp only [List.mem_cons, List.mem_append, List.not_mem_nil, or_false, not_or]
      exact ⟨by decide, hide_free s, by decide⟩
    · intro q; rw [q, doE] at e; exact absurd e (by simp [cl])
    · intro q; rw [q, ddE] at e; exact absurd e (by simp [cl])
  | .list xs => by
    obtain ⟨r, e⟩ := piece_list_cl xs
    refine ⟨⟨by rw [e]; simp, ?_⟩, ?_, ?_⟩
    · have : piece (.list xs) = hideS (pathS xs) := by unfold piece; rfl
      rw [this]; exact hide_free _
    · intro q; rw [q, doE] at e; exact absurd e (by simp [cl])
    · intro q; rw [q, ddE] at e; exact absurd e (by simp [cl])
theorem pieces_map : ∀ xs : List Thing, pieces xs = xs.map piece
  | [] => by simp [pieces]
  | x :: xs => by rw [pieces, pieces_map xs]; rfl
theorem pieces_kept (xs : List Thing) : ∀ c ∈ pieces xs, Kept c := by
  intro c hc
  rw [pieces_map] at hc
  obtain ⟨x, _, rfl⟩ := List.mem_map.mp hc
  exact piece_kept x
theorem pieces_comp (xs : List Thing) : ∀ c ∈ pieces xs, Comp c := fun c hc => (pieces_kept xs c hc).1
theorem pieces_append (xs ys : List Thing) : pieces (xs ++ ys) = pieces xs ++ pieces ys := by simp [pieces_map]
theorem pieces_take (xs : List Thing) (k : Nat) : pieces (xs.take k) = (pieces xs).take k := by simp [pieces_map]
theorem pieces_length (xs : List Thing) : (pieces xs).length = xs.length := by simp [pieces_map]
/-- the begin of a piece, and what stands in it -/
theorem piece_text_q (s : Str) : (Txt.slice (piece (.text s)) none (some 1) == PySem.Str.ofString "\"") = true := by
  rw [beq_iff_eq]
  apply ext_cl
  have := slice_to (piece (.text s)) 1
  rw [piece_text_cl] at this
  rw [quE]; exact this
theorem piece_list_q (xs : List Thing) : (Txt.slice (piece (.list xs)) none (some 1) == PySem.Str.ofString "\"") = false := by
  rw [beq_eq_false_iff_ne]
  intro q
  have e := slice_to (piece (.list xs)) 1
  obtain ⟨r, h⟩ := piece_list_cl xs
  rw [h] at e
  have e : cl (Txt.slice (piece (.list xs)) none (some 1)) = [126] := e
  rw [q, quE] at e
  exact absurd e (by simp [cl])
theorem strip_piece (s : Str) : stripS (piece (.text s)) = hideS s := by
  have e := piece_text_cl s
  have h1 : Txt.startswith (piece (.text s)) qS = true := by rw [qS, quE, starts_one]; exact ⟨_, e⟩
  have e1 : cl (Txt.slice (piece (.text s)) (some 1) none) = cl (hideS s) ++ [34] := by
    have := slice_from (piece (.text s)) 1
    rw [e] at this; exact this
  have h2 : Txt.endswith (Txt.slice (piece (.text s)) (some 1) none) qS = true := by rw [qS, quE, ends_one]; exact ⟨_, e1⟩
  rw [stripS_tt h1 h2]
  apply ext_cl
  have hl := cl_length (Txt.slice (piece (.text s)) (some 1) none)
  rw [e1, List.length_append, List.length_singleton] at hl
  rw [slice_butlast _ (by omega), e1, ← hl]
  simp
theorem read_text (s : Str) : showS (stripS (piece (.text s))) = s := by rw [strip_piece, show_hide]
theorem read_list (xs : List Thing) : showS (piece (.list xs)) = pathS xs := by
  have : piece (.list xs) = hideS (pathS xs) := by unfold piece; rfl
  rw [this, show_hide]
theorem path_root : ∀ {xs : List Thing}, (pathS xs != PySem.Str.ofString "/") = false ↔ xs = []
  | [] => by simp [pathS_eq, pieces, root_path]
  | x :: xs => by
    constructor
    · intro h
      rw [bne_eq_false_iff_eq, pathS_eq] at h
      have e := path_cl (pieces (x :: xs))
      rw [h, slE] at e
      have := path_last (cs := pieces (x :: xs)) (by simp [pieces]) (pieces_comp _)
      obtain ⟨k, hk, hk2⟩ := this.2
      rw [h, slE] at hk
      exact absurd (by simpa [cl] using hk) hk2
    · intro h; cases h
theorem pathOf_inj {cs ds : List Str} (h1 : ∀ c ∈ cs, Comp c) (h2 : ∀ c ∈ ds, Comp c) (h : pathOf cs = pathOf ds) : cs = ds := by
  have e1 := comps_path (cs := cs) fun d hd => (h1 d hd).2
  have e2 := comps_path (cs := ds) fun d hd => (h2 d hd).2
  rw [h, e2] at e1
  by_cases a : cs = [] <;> by_cases b : ds = []
  · rw [a, b]
  · rw [if_pos a, if_neg b] at e1
    exact absurd rfl (h2 PySem.Str.empty (by rw [e1]; simp)).1
  · rw [if_neg a, if_pos b] at e1
    exact absurd rfl (h1 PySem.Str.empty (by rw [← e1]; simp)).1
  · rw [if_neg a, if_neg b] at e1; exact e1.symm
mutual
theorem piece_inj : ∀ (x y : Thing), piece x = piece y → x = y
  | .text s, .text t, h => by
    have := read_text s
    rw [h, read_text] at this
    rw [this]
  | .text s, .list ys, h => by
    obtain ⟨r, e⟩ := piece_list_cl ys
    rw [← h, piece_text_cl] at e
    exact absurd e (by simp)
  | .list xs, .text s, h => by
    obtain ⟨r, e⟩ := piece_list_cl xs
    rw [h, piece_text_cl] at e
    exact absurd e (by simp)
  | .list xs, .list ys, h => by
    have := read_list xs
    rw [h, read_list, pathS_eq, pathS_eq] at this
    rw [pieces_inj xs ys (pathOf_inj (pieces_comp _) (pieces_comp _) this).symm]
theorem pieces_inj : ∀ (xs ys : List Thing), pieces xs = pieces ys → xs = ys
  | [], [], _ => rfl
  | [], y :: ys, h => by simp [pieces] at h
  | x :: xs, [], h => by simp [pieces] at h
  | x :: xs, y :: ys, h => by
    simp only [pieces, List.cons.injEq] at h
    rw [piece_inj x y h.1, pieces_inj xs ys h.2]
end
end
noncomputable section
open PySem PySem.W PyProof.Rows PySem.Spec PySem.Calls
theorem fresh_of {h₀ h : Heap} {L : Addr} {m : Str → Option Value} (F : Fr h₀ L h m) : h₀.get? h.objs.size = none ∧ h.objs.size ≠ L := by
  refine ⟨?_, fun e => Nat.lt_irrefl _ (e ▸ F.ns.lt)⟩
  cases q : h₀.get? h.objs.size with
  | none => rfl
  | some o => exact absurd (Heap.lt_size (F.keep _ _ q)) (Nat.lt_irrefl _)
theorem News.ne_size {h₀ h : Heap} {L : Addr} {news : List (Addr × Obj)} (N : News h₀ L h news) : ∀ p ∈ news, p.1 ≠ h.objs.size := fun p hp e => by
  have := Heap.lt_size (N p hp).1
  rw [e] at this
  exact absurd this (Nat.lt_irrefl _)
theorem split_items_le {l : List (Str × Tok)} {x y : Str} (h : l.map (fun x => x.fst) = Txt.split x y) (hx : x.length ≤ 1000000) : ∀ p ∈ l, p.1.length ≤ 1000000 := by
  intro p hp
  refine Nat.le_trans (part_short (x := x) (y := y) ?_) hx
  rw [← h]
  exact List.mem_map.mpr ⟨p, hp, rfl⟩
theorem common_does (w mean mg mb) (a0 : Addr) (n0 : Nat) (V U : Str) (t u : Tok) (hV : V.length ≤ 1000000) (hU : U.length ≤ 1000000) (hVs : Txt.startswith V (Str.ofString "/") = true) (hUs : Txt.startswith U (Str.ofString "/") = true)
    (hB : Hid (((both (compsS V) (compsS U)).map (·.length)).sum + (both (compsS V) (compsS U)).length ≤ 1000000)) : Does w mean mg mb 157 6 [.ref a0] (fun h => h.get? a0 = some (W.listOf (strValues [(V, t), (U, u)]).toArray n0))
    (fun h h' r => ∃ t', r = .str (pathOf (both (compsS V) (compsS U))) t') := by
  k_with_none
  k_with "replace" => (refine' replaceM ?k1 ?k2 ?k3 ?k4 ?k5 ?k6 ?_; (case k1 => (show @Ne Nat _ _); omega); (case k2 => (show @Ne Nat _ _); omega); (case k3 => (show @Ne Nat _ _); omega); (case k4 => decide); (case k5 => omega); (case k6 => decide); k_whole; intro tR kR hR; dsimp only at hR)
  k_with "used" => ((case uB => k_asm); (case uF => k_asm); (case uX => k_asm); (case uN => k_asm); (case uT => k_asm); (case uk => first | assumption | exact rfl); (case ud => ktr_room); (case uu => ktr_units); (case ut => (first | exact Nat.succ_pos _ | assumption | omega | (dsimp only; omega))); (case up => k_extra "pre"); k_whole; intro r9 h9 tk9 K9 F9 N9 ht9 hP9; (try dsimp only at ht9 K9))
  k_with "pre" => (first | trivial | assumption)
  k_with "enter" => (refine' enterM ?k1 ?k2 ?k3 ?k5 ?kA ?kF ?kK ?k6 ?k7 ?k8 ?k9 ?kB ?_ ?c2 ?c3 ?c4 ?c5 ?ct; (case kA => exact rfl); (case kF => exact rfl); (case kK => first | assumption | exact rfl); (case k1 => k_asm); (case k2 => k_asm); (case k3 => k_asm); (case k5 => k_asm); (case k6 => k_is); (case k7 => k_is); (case k8 => ktr_room); (case k9 => first | exact BindsTo.of_eq rfl | exact binds_K (by k_in) rfl (by k_is) rfl rfl rfl | exact kp_binds (by k_in) (fun _ => rfl)); (case c5 => decide); (case kB => exact locs rfl); (case c2 => exact rfl); (case c3 => exact rfl); (case c4 => exact rfl); (case ct => assumption); k_whole; intro L' h' tk0 htk0 F' N' B' X' T'; (try dsimp only); (try k_fold))
  k_with "enterR" => (refine' enterR ?k1 ?k2 ?k3 ?k5 ?kA ?kF ?kK ?k6 ?k7 ?k8 ?kV ?kP ?kG ?kB ?_ ?c2 ?c3 ?c4 ?c5 ?ct; (case kA => exact rfl); (case kF => exact rfl); (case kK => first | assumption | exact rfl); (case k1 => k_asm); (case k2 => k_asm); (case k3 => k_asm); (case k5 => k_asm); (case k6 => k_is); (case k7 => k_is); (case k8 => ktr_room); (case kV => kl_lit); (case kP => exact rfl); (case kG => exact fun _ => rfl); (case kB => exact fun _ => locs rfl); (case c5 => decide); (case c2 => exact rfl); (case c3 => exact rfl); (case c4 => exact rfl); (case ct => assumption); k_whole; intro D' L' h' tk0 htk0 hD' F' N' B' X' T'; (try dsimp only); (try k_fold))
  k_with "enterC" => (refine' enterC ?k1 ?k2 ?k3 ?k5 ?kA ?kF ?kK ?k6 ?k7 ?k8 ?k9 ?kB ?kD ?_ ?c2 ?c3 ?c4 ?ct; (case kA => exact rfl); (case kF => exact rfl); (case kK => first | assumption | exact rfl); (case k1 => k_asm); (case k2 => k_asm); (case k3 => k_asm); (case k5 => k_asm); (case k6 => k_is); (case k7 => k_is); (case k8 => ktr_room); (case k9 => first | exact BindsTo.of_eq rfl | exact binds_K (by k_in) rfl (by k_is) rfl rfl rfl | exact kp_binds (by k_in) (fun _ => rfl)); (case kB => exact rfl); (case kD => decide +kernel); (case c2 => exact rfl); (case c3 => exact rfl); (case c4 => exact rfl); (case ct => assumption); k_whole; intro L' h' tk0 cells' htk0 F' N' Y' B' X' T'; (try dsimp only); (try k_fold))
  unfold Does; k_fill
  intro dp un gd cn cs a ccd cl outer A₀ base h₀ L m s Q E B F X T hk hd hu htk hp hret
  refine wpAny_call ?_
  k_extra "enterC"
  k_cells Y'
  k_with "acomp" =>
    (with_reducible rename News _ _ _ (_ ++ _) => N0)
    simp only [List.cons_append, List.nil_append] at N0
    refine' assign_tup_turns (its := #[Value.str V t, Value.str U u]) ?aL ?as ?ah ?ac ?ae ?ak ?an ?ax ?ay ?ap ?ag ?aF ?aN ?am ?az ?ai ?_
    (case aL => first | (exact rfl) | fail "aL!!")
    (case as => first | (with_unfolding_all rfl) | fail "as!!")
    (case ah => first | (exact rfl) | fail "ah!!")
    (case ac => first | (exact rfl) | fail "ac!!")
    (case ae => first | (decide) | fail "ae!!")
    (case ak => first | (exact rfl) | fail "ak!!")
    (case an => first | (decide) | fail "an!!")
    (case ax => first | (exact rfl) | fail "ax!!")
    (case ay => first | (exact rfl) | fail "ay!!")
    (case ap => first | (exact rfl) | fail "ap!!")
    (case ag => first | (exact fun _ => rfl) | fail "ag!!")
    (case aF => first | (k_asm) | fail "aF!!")
    (case aN => first | (k_asm) | fail "aN!!")
    (case am => first | (k_mem) | fail "am!!")
    (case az => first | ((show 2 ≤ sizeLine; decide)) | fail "az!!")
    (case ai => (intro Q' E' hq; exact nameX_L (by k_asm) rfl hq rfl rfl))
    k_whole
    intro g'
    lcg_lit
  k_with "setcomp" =>
    refine' setcomp_true (its := #[Value.str V t, Value.str U u]) ?h0 ?h1 ?h2 ?h3 ?h4 ?h5 ?h6 ?hF ?hN ?hm ?hz ?h9 ?hi ?_ ?_
    (case h0 => exact rfl)
    (case h1 => exact rfl)
    (case h2 => decide)
    (case h3 => exact rfl)
    (case h4 => decide)
    (case h5 => exact rfl)
    (case h6 => exact fun _ => rfl)
    (case hF => k_asm)
    (case hN => k_asm)
    (case hm => k_mem)
    (case hz => (show 2 ≤ sizeLine; decide))
    (case h9 => (show 0 < 2; decide))
    (case hi => (intro Q' E' hq; exact nameX_L (by k_asm) rfl hq rfl rfl))
    intro C v s2 m2 E2 hv hn hm hst htk F2 N2
    obtain ⟨c, tc, rfl, hcs⟩ : ∃ c tc, v = .str c tc ∧ Txt.startswith c (Str.ofString "/") = true := by
      rcases (by simpa using hv : v = .str V t ∨ v = .str U u) with rfl | rfl
      · exact ⟨V, t, rfl, hVs⟩
      · exact ⟨U, u, rfl, hUs⟩
    dsimp only at htk
    rotate_left
    intro D h2 tk2 ep F2 N2 l2
    (try k_sweep)
    rotate_right
  k_with "comp" =>
    refine' comp_kept ?ch0 ?ch1 ?ch2 ?ch3 ?ch4 ?ch5 ?ch6 ?cl1 ?cl2 ?cl3 ?cl4 ?cl5 ?cl6 ?cl7 ?chF ?chN ?chl ?chz ?chb ?chs ?chi ?_
    (case chi => (intro Q' E' hq; exact LCgL.ld_own (by k_asm) (by k_mem) (by with_reducible assumption) (by with_reducible assumption) hq))
    (case chN => k_asm)
    (case chl => exact News.isList (by k_asm) (by k_mem))
    (case ch0 => exact rfl)
    (case ch1 => exact rfl)
    (case ch2 => decide)
    (case ch3 => exact rfl)
    (case ch4 => decide)
    (case ch5 => exact rfl)
    (case ch6 => exact fun _ => rfl)
    (case cl1 => exact fun _ => rfl)
    (case cl2 => exact fun _ => rfl)
    (case cl3 => decide)
    (case cl4 => decide)
    (case cl5 => exact rfl)
    (case cl6 => k_mem)
    (case cl7 => assumption)
    (case chF => k_asm)
    (case chs => with_reducible assumption)
    (case chz => (rw [sizeLine_eq]; refine Nat.le_trans (len_le_of_split (by with_reducible assumption)) ?_; omega))
    (case chb => (refine split_items_le (by with_reducible assumption) ?_; omega))
    k_whole
    intro D' h' tk' us' n' htk' hus F' N' K' l1
    change List.map _ _ = compsS _ at hus
    refine compEnd_of F' N' l1 (by simp only [LCg.Off3, and_true]; with_reducible assumption) (Or.inr ⟨_, by k_mem, rfl, _, rfl⟩) ?_
    clear l1
  k_with "min" =>
    refine' min_strs (A' := compsS V) (B' := compsS U) rfl ?mi0 ?mi1 ?miF ?miN ?mim ?mia ?mib ?miA ?miB ?_
    (case mi0 => exact rfl)
    (case mi1 => ktr_units)
    (case miF => k_asm)
    (case miN => k_asm)
    (case mim => k_mem)
    (case mia => k_mem)
    (case mib => k_mem)
    (case miA => with_reducible assumption)
    (case miB => with_reducible assumption)
    k_whole
    intro h1 p1 us1 n1 F1 N1 hm1 hs1
    have hz1 := cp_len (compsS_len hV) (compsS_len hU) (Or.inl hs1)
    (try k_sweep)
  k_with "max" =>
    refine' max_strs (A' := compsS V) (B' := compsS U) rfl ?ma0 ?ma1 ?maF ?maN ?mam ?maa ?mab ?maA ?maB ?_
    (case ma0 => exact rfl)
    (case ma1 => ktr_units)
    (case maF => k_asm)
    (case maN => k_asm)
    (case mam => k_mem)
    (case maa => k_mem)
    (case mab => k_mem)
    (case maA => with_reducible assumption)
    (case maB => with_reducible assumption)
    k_whole
    intro h2 p2 us2 n2 F2 N2 hm2 hs2
    have hz2 := cp_len (compsS_len hV) (compsS_len hU) (Or.inr hs2)
    (try k_sweep)
  k_with "forenum" =>
    refine' for_enum ?f0 ?f1 ?f2 ?f3 ?_
    (case f0 => exact rfl)
    (case f1 => exact rfl)
    (case f2 => exact rfl)
    (case f3 => exact fun _ => rfl)
    k_whole
  k_with "enumerate" =>
    refine' enum_src (l := p1) (us := us1) ?e0 ?eF ?eN ?em (fun i m' => m' (Str.ofString "s1") = some (.ref p1) ∧ m' (Str.ofString "s2") = some (.ref p2) ∧ m' (Str.ofString "common") = some (.ref p1) ∧ m' (Str.ofString "isabs") = some (.bool true) ∧ (us1.map (fun x => x.fst)).take i = (us2.map (fun x => x.fst)).take i) ?eh ?_ ?_
    (case e0 => exact rfl)
    (case eF => k_asm)
    (case eN => k_asm)
    (case em => exact hm1)
    (case eh => exact ⟨rfl, rfl, rfl, rfl, rfl⟩)
    intro i c tc tk' m1 h tk e it oe oi htk hi hJ F1 N1 l1 l2
    obtain ⟨e1, e2, e3, e4, hpre⟩ := hJ
    have hi2 := cp_lt hs1 hs2 hpre hi
    have hi1 := (List.getElem?_eq_some_iff.mp hi).1
    rw [← upd_self e1, ← upd_self e2, ← upd_self e3, ← upd_self e4] at F1
    (try k_lt l1)
    dsimp only at F1 htk
    rotate_left
    intro h tk m1 htk F1 N1 hJ
    obtain ⟨e1, e2, e3, e4, hpre⟩ := hJ
    rw [← upd_self e1, ← upd_self e2, ← upd_self e3, ← upd_self e4] at F1
    have hfin := cp_done hs1 hs2 hpre
    dsimp only at F1 htk
    rotate_right
  k_with "item" =>
    refine' item_strs (us := us2) ?iN ?im rfl hi2 hz2 ?_ (by with_unfolding_all rfl)
    (case iN => k_asm)
    (case im => repeat (first | exact hm2 | apply List.mem_cons_of_mem))
    k_whole
    intro c' tc' hic
  k_with "slice" =>
    refine' kms_slice_lit (zs := strValues (us1.take i)) ?sF ?sN ?sl ?sp ?sq ?se ?_ ?ss ?st ?sz
    (case sF => k_asm)
    (case sN => k_asm)
    (case sl => exact News.isList (by k_asm) (by repeat (first | exact hm1 | apply List.mem_cons_of_mem)))
    (case sp => exact IsPart.none)
    (case sq => exact IsPart.int _ _)
    (case se => exact pick_strs)
    (case ss => with_unfolding_all rfl)
    (case st => kmk_pure)
    (case sz => (rw [sv_size, sizeLine_eq]; omega))
    k_whole
    intro D' h' F' N' l1
    have hfin := cp_brk hs1 hs2 hpre hi hic (by with_reducible assumption)
  k_with "join" =>
    first
    | (refine' join_list (ys := both (compsS V) (compsS U)) ?k1 ?k2 ?k3 ?_
       (case k1 => exact News.isList (by k_asm) (by k_mem))
       (case k2 => exact hfin ▸ strsAre_of _)
       (case k3 => exact Nat.le_trans (join_room hB.out) (by decide)))
    | (refine' join_list (ys := both (compsS V) (compsS U)) ?k1 ?k2 ?k3 ?_
       (case k1 => exact News.isList (by k_asm) hm1)
       (case k2 => exact hfin ▸ strsAre_of _)
       (case k3 => exact Nat.le_trans (join_room hB.out) (by decide)))
    intro tJ kJ
    have hJl := join_bound (join_room hB.out)
  k_with "unpack" =>
    refine' assign_set1 ?h0 ?h1 rfl ?h3 ?h4 ?hF ?hN ?hm ?_
    (case h0 => exact rfl)
    (case h1 => exact rfl)
    (case h3 => exact rfl)
    (case h4 => exact rfl)
    (case hF => k_asm)
    (case hN => k_asm)
    (case hm => k_mem)
    intro hpU tkU FU NU
    (try k_sweep)
  k_with "split" =>
    refine' PySem.W.KSpl.split1 ?pF ?pN ?py ?_ ?pz
    (case pF => k_asm)
    (case pN => k_asm)
    (case py => decide)
    (case pz => (rw [sizeLine_eq]; omega))
    intro D' l' h' k' e' a' F' N' l1
    (try k_lt l1)
    show qk _ _
  k_with "map" =>
    refine' call_map (n := n0) (items := (strValues [(V, t), (U, u)]).toArray) ?m1 ?_
    (case m1 => exact Fr.keep (by k_asm) _ _ hp)
    k_whole
    intro h9 e1 e2 e3 e4 e5
    have hfr := fresh_of (h := h') (by k_asm)
    have hnz := News.ne_size (h := h') (by k_asm)
    have ha0 : a0 ≠ h'.objs.size := Nat.ne_of_lt (Heap.lt_size (Fr.keep (h := h') (by k_asm) _ _ hp))
    have F9 := Fr.keeps (by assumption) e5
    have N9 := News.grown (by assumption) e5
    (try k_sweep)
  k_with "tuple" =>
    refine' tuple_map_strs (us := [(V, t), (U, u)]) ?tB ?tF ?tN ?tX ?tT ?tk ?td ?tu e1 e2 e3 ?tl hfr.1 hfr.2 ?t1 ?t2 ha0 ?tz ?t0 hnz ?_
    (case tB => k_asm)
    (case tF => k_asm)
    (case tN => k_asm)
    (case tX => k_asm)
    (case tT => k_asm)
    (case tk => exact rfl)
    (case td => ktr_room)
    (case tu => ktr_units)
    (case tl => exact ⟨_, Fr.keep (by k_asm) _ _ hp, rfl, _, rfl⟩)
    (case t1 => exact Nat.ne_of_gt (Nat.lt_add_of_pos_right (by decide)))
    (case t2 => exact Nat.ne_of_gt (Nat.lt_add_of_pos_right (by decide)))
    (case tz => (show 2 ≤ sizeLine; decide))
    (case t0 => (first | omega | (dsimp only; omega)))
    k_whole
    intro D9 h2 tk2 F2 N2 l2 ht2
    change News _ _ _ ((D9, ({ cls := .type "tuple", data := .seq #[Value.str V t, Value.str U u] } : Obj)) :: _) at N2
    clear F9 N9 e1 e2 e3 e4 e5 hfr hnz ha0
    (try k_sweep)
  k_steps
  · exact congrArg Value.bool hcs
  · exact ⟨_, _, rfl, fun _ _ e => e⟩
  · show wpAny _ _ _ _ _ _
    k_steps
    show Q _ _
    exact hret _ _ _ (Fr.keep (by k_asm)) ⟨_, rfl⟩
  · show EnEnd _ _ _ _ _ _
    exact ⟨_, _, _, _, rfl, by k_asm, by k_asm, fun p hp => hp, rfl, rfl, rfl, rfl, cp_next hpre hi hic (by with_reducible assumption)⟩
  · show Q _ _
    exact hret _ _ _ (Fr.keep (by k_asm)) ⟨_, rfl⟩
end
noncomputable section
open PySem PySem.W PyProof.Rows PySem.Spec PySem.Calls
def signAt (k : Nat) : Nat := [48, 34, 47, 46, 126, 49, 97, 233].getD k 0
def signsL : Nat → Nat → List Nat
  | 0, _ => []
  | f + 1, k => if k = 0 then [] else signAt (k % 8) :: signsL f (k / 8)
def signsS (k : Nat) : Str := ⟨(signsL k k).toArray⟩
theorem signsL_fuel : ∀ (f g k : Nat), k ≤ f → k ≤ g → signsL f k = signsL g k
  | 0, 0, k, h, h' => rfl
  | 0, g + 1, k, h, h' => by
    have : k = 0 := by omega
    subst this; rfl
  | f + 1, 0, k, h, h' => by
    have : k = 0 := by omega
    subst this; rfl
  | f + 1, g + 1, k, h, h' => by
    unfold signsL
    by_cases hk : k = 0
    · rw [if_pos hk, if_pos hk]
    · rw [if_neg hk, if_neg hk, signsL_fuel f g (k / 8) (by omega) (by omega)]
theorem signsL_step (k : Nat) (hk : k ≠ 0) : signsL k k = signAt (k % 8) :: signsL (k / 8) (k / 8) := by
  cases k with
  | zero => exact absurd rfl hk
  | succ k =>
    rw [signsL, if_neg hk, signsL_fuel k ((k + 1) / 8) ((k + 1) / 8) (by omega) (Nat.le_refl _)]
theorem signsL_len : ∀ (f k : Nat), (signsL f k).length ≤ f
  | 0, _ => Nat.le_refl _
  | f + 1, k => by
    unfold signsL
    by_cases hk : k = 0
    · rw [if_pos hk]; exact Nat.zero_le _
    · rw [if_neg hk]; simpa using signsL_len f (k / 8)
theorem acc_len {k j : Nat} {acc : List Nat} (h : acc ++ signsL j j = signsL k k) (hk : k ≤ 250000) : PySem.Str.length ⟨acc.toArray⟩ ≤ 250000 := by
  have h1 := congrArg List.length h
  have h2 := signsL_len k k
  rw [List.length_append] at h1
  show acc.toArray.size ≤ 250000
  rw [List.size_toArray]
  omega
theorem item_sign (j : Nat) : Txt.item (Str.ofString "0\"/.~1aé") ((j : Int).fmod 8) = ⟨#[signAt (j % 8)]⟩ := by
  have e : (j : Int).fmod 8 = ((j % 8 : Nat) : Int) := by rw [Int.fmod_eq_emod_of_nonneg _ (by decide)]; omega
  rw [e]
  have h : j % 8 < 8 := Nat.mod_lt _ (by decide)
  generalize j % 8 = i at h
  exact (by decide +kernel : ∀ i < 8, Txt.item (Str.ofString "0\"/.~1aé") ((i : Nat) : Int) = ⟨#[signAt i]⟩) i h
theorem signs_next {k j : Nat} {acc : List Nat} (h : acc ++ signsL j j = signsL k k) (hj : ((j : Nat) : Int) ≠ 0) : (acc ++ [signAt (j % 8)]) ++ signsL (j / 8) (j / 8) = signsL k k := by
  rw [← h, signsL_step j (by omega)]; simp
theorem signs_app (acc : List Nat) (j : Nat) : (⟨acc.toArray⟩ : Str) ++ Txt.item (Str.ofString "0\"/.~1aé") ((j : Int).fmod 8) = ⟨(acc ++ [signAt (j % 8)]).toArray⟩ := by
  rw [item_sign]
  exact PySem.Str.ext' (by rw [PySem.Str.cps_append]; simp)
theorem signs_end {k j : Nat} {acc : List Nat} (h : acc ++ signsL j j = signsL k k) (hj : ((j : Nat) : Int) = 0) : signsS k = ⟨acc.toArray⟩ := by
  have : j = 0 := by omega
  subst this
  unfold signsS
  rw [← h]; simp [signsL]
theorem div8 (j : Nat) : (j : Int).fdiv 8 = ((j / 8 : Nat) : Int) := by rw [Int.fdiv_eq_ediv_of_nonneg _ (by decide)]; omega
theorem signs_does (w mean mg mb) (k : Nat) (t : Tok) (hk8 : k ≤ 250000) : Does w mean mg mb 164 1 [.int k t] (fun _ => True) (fun _ _ r => ∃ t, r = .str (signsS k) t) := by
  k_with_none
  k_with "replace" => (refine' replaceM ?k1 ?k2 ?k3 ?k4 ?k5 ?k6 ?_; (case k1 => (show @Ne Nat _ _); omega); (case k2 => (show @Ne Nat _ _); omega); (case k3 => (show @Ne Nat _ _); omega); (case k4 => decide); (case k5 => omega); (case k6 => decide); k_whole; intro tR kR hR; dsimp only at hR)
  k_with "used" => ((case uB => k_asm); (case uF => k_asm); (case uX => k_asm); (case uN => k_asm); (case uT => k_asm); (case uk => first | assumption | exact rfl); (case ud => ktr_room); (case uu => ktr_units); (case ut => (first | exact Nat.succ_pos _ | assumption | omega | (dsimp only; omega))); (case up => k_extra "pre"); k_whole; intro r9 h9 tk9 K9 F9 N9 ht9 hP9; (try dsimp only at ht9 K9))
  k_with "pre" => (first | trivial | assumption)
  k_with "enter" => (refine' enterM ?k1 ?k2 ?k3 ?k5 ?kA ?kF ?kK ?k6 ?k7 ?k8 ?k9 ?kB ?_ ?c2 ?c3 ?c4 ?c5 ?ct; (case kA => exact rfl); (case kF => exact rfl); (case kK => first | assumption | exact rfl); (case k1 => k_asm); (case k2 => k_asm); (case k3 => k_asm); (case k5 => k_asm); (case k6 => k_is); (case k7 => k_is); (case k8 => ktr_room); (case k9 => first | exact BindsTo.of_eq rfl | exact binds_K (by k_in) rfl (by k_is) rfl rfl rfl | exact kp_binds (by k_in) (fun _ => rfl)); (case c5 => decide); (case kB => exact locs rfl); (case c2 => exact rfl); (case c3 => exact rfl); (case c4 => exact rfl); (case ct => assumption); k_whole; intro L' h' tk0 htk0 F' N' B' X' T'; (try dsimp only); (try k_fold))
  k_with "enterR" => (refine' enterR ?k1 ?k2 ?k3 ?k5 ?kA ?kF ?kK ?k6 ?k7 ?k8 ?kV ?kP ?kG ?kB ?_ ?c2 ?c3 ?c4 ?c5 ?ct; (case kA => exact rfl); (case kF => exact rfl); (case kK => first | assumption | exact rfl); (case k1 => k_asm); (case k2 => k_asm); (case k3 => k_asm); (case k5 => k_asm); (case k6 => k_is); (case k7 => k_is); (case k8 => ktr_room); (case kV => kl_lit); (case kP => exact rfl); (case kG => exact fun _ => rfl); (case kB => exact fun _ => locs rfl); (case c5 => decide); (case c2 => exact rfl); (case c3 => exact rfl); (case c4 => exact rfl); (case ct => assumption); k_whole; intro D' L' h' tk0 htk0 hD' F' N' B' X' T'; (try dsimp only); (try k_fold))
  k_with "enterC" => (refine' enterC ?k1 ?k2 ?k3 ?k5 ?kA ?kF ?kK ?k6 ?k7 ?k8 ?k9 ?kB ?kD ?_ ?c2 ?c3 ?c4 ?ct; (case kA => exact rfl); (case kF => exact rfl); (case kK => first | assumption | exact rfl); (case k1 => k_asm); (case k2 => k_asm); (case k3 => k_asm); (case k5 => k_asm); (case k6 => k_is); (case k7 => k_is); (case k8 => ktr_room); (case k9 => first | exact BindsTo.of_eq rfl | exact binds_K (by k_in) rfl (by k_is) rfl rfl rfl | exact kp_binds (by k_in) (fun _ => rfl)); (case kB => exact rfl); (case kD => decide +kernel); (case c2 => exact rfl); (case c3 => exact rfl); (case c4 => exact rfl); (case ct => assumption); k_whole; intro L' h' tk0 cells' htk0 F' N' Y' B' X' T'; (try dsimp only); (try k_fold))
  unfold Does; k_fill
  intro dp un gd cn cs a ccd cl outer A₀ base h₀ L m s Q E B F X T hk hd hu htk hp hret
  refine wpAny_call ?_
  k_extra "enter"
  k_with "while" =>
    refine' whileM (news := []) (fun j m' nx => nx = [] ∧ ∃ (num : Nat) (acc : List Nat) (t1 t2 : Tok), j = num ∧ m' (Str.ofString "number") = some (.int num t1) ∧ m' (Str.ofString "signs") = some (.str ⟨acc.toArray⟩ t2) ∧ acc ++ signsL num num = signsL k k) k ?hF ?hN ?hj ?ht
    (case hF => k_asm)
    (case hN => exact News.nil)
    (case hj => exact ⟨rfl, k, [], _, _, rfl, rfl, rfl, rfl⟩)
    (case' ht =>
      intro j m1 nx h1 tk1 htk1 hJ F1 N1
      obtain ⟨rfl, num, acc, t1, t2, rfl, e1, e2, hacc⟩ := hJ
      rw [← upd_self e1, ← upd_self e2] at F1
      dsimp only at F1 htk1
      have hz := acc_len hacc hk8)
  k_steps
  · show WhEnd _ _ _ _ _ _
    exact ⟨_, _, _, [], j / 8, rfl, by k_asm, News.nil, by omega, rfl, j / 8, acc ++ [signAt (j % 8)], _, _, rfl, congrArg (fun x => some (Value.int x _)) (div8 j), congrArg (fun x => some (Value.str x _)) (signs_app acc j), signs_next hacc (by with_reducible assumption)⟩
  · show Q _ _
    rw [signs_end hacc (by with_reducible assumption)] at hret
    exact hret _ _ _ (Fr.keep (by k_asm)) ⟨_, rfl⟩
end
noncomputable section
open PySem PySem.W PyProof.Rows PySem.Spec PySem.Calls

mutual
def toPy : Thing → PyData
  | .text s => .str s
  | .list xs => .list (toPys xs)
def toPys : List Thing → List PyData
  | [] => []
  | x :: xs => toPy x :: toPys xs
end
mutual
def Thing.Ok : Thing → Prop
  | .text s => PyData.strOk s = true
  | .list xs => Oks xs
def Oks : List Thing → Prop
  | [] => True
  | x :: xs => x.Ok ∧ Oks xs
end
mutual
def Thing.deep : Thing → Nat
  | .text _ => 0
  | .list xs => deeps xs + 1
def deeps : List Thing → Nat
  | [] => 0
  | x :: xs => max x.deep (deeps xs)
end
mutual
theorem reads_of {h : Heap} : ∀ {x : Thing} {v : Value}, HAt h x v → ∃ as, Reads h v (toPy x) as
  | .text s, v, a => by obtain ⟨t, rfl⟩ := a; exact ⟨_, .str _ _⟩
  | .list xs, v, a => by
    obtain ⟨a1, vs, n, rfl, hm, hr⟩ := a
    obtain ⟨as, r⟩ := readsAll_of hr
    exact ⟨_, .list hm rfl rfl (by simpa using r)⟩
theorem readsAll_of {h : Heap} : ∀ {xs : List Thing} {vs : List Value}, HAll h xs vs → ∃ as, ReadsAll h vs (toPys xs) as
  | [], vs, a => by rw [show vs = [] from a]; exact ⟨_, .nil⟩
  | x :: xs, vs, a => by
    obtain ⟨v, vs', rfl, h1, h2⟩ := a
    obtain ⟨as, r⟩ := reads_of h1
    obtain ⟨bs, r'⟩ := readsAll_of h2
    exact ⟨_, .cons r r'⟩
end
mutual
theorem same_toPy : ∀ (x y : Thing), Spec.same (toPy x) (toPy y) = true ↔ x = y
  | .text s, .text t => by simp [toPy, Spec.same]
  | .text s, .list ys => by simp [toPy, Spec.same]
  | .list xs, .text t => by simp [toPy, Spec.same]
  | .list xs, .list ys => by simp [toPy, Spec.same, same_toPys xs ys]
theorem same_toPys : ∀ (xs ys : List Thing), Spec.sameAll (toPys xs) (toPys ys) = true ↔ xs = ys
  | [], [] => by simp [toPys, Spec.sameAll]
  | [], y :: ys => by simp [toPys, Spec.sameAll]
  | x :: xs, [] => by simp [toPys, Spec.sameAll]
  | x :: xs, y :: ys => by simp [toPys, Spec.sameAll, same_toPy x y, same_toPys xs ys]
end
mutual
theorem noMix_toPy : ∀ (x y : Thing), SeqAt.noMix (toPy x) (toPy y) = true
  | .text s, .text t => by simp [toPy, SeqAt.noMix]
  | .text s, .list ys => by simp [toPy, SeqAt.noMix]
  | .list xs, .text t => by simp [toPy, SeqAt.noMix]
  | .list xs, .list ys => by simp [toPy, SeqAt.noMix, noMix_toPys xs ys]
theorem noMix_toPys : ∀ (xs ys : List Thing), SeqAt.noMixAll (toPys xs) (toPys ys) = true
  | [], [] => by simp [toPys, SeqAt.noMixAll]
  | [], y :: ys => by simp [toPys, SeqAt.noMixAll]
  | x :: xs, [] => by simp [toPys, SeqAt.noMixAll]
  | x :: xs, y :: ys => by simp [toPys, SeqAt.noMixAll, noMix_toPy x y, noMix_toPys xs ys]
end
mutual
theorem canLay_toPy : ∀ (x : Thing), x.Ok → (toPy x).canLay0 = true
  | .text s, h => by show PyData.canLay0 (.str s) = true; rw [PyData.canLay0]; exact h
  | .list xs, h => by simp only [toPy, PyData.canLay0]; exact canLay_toPys xs h
theorem canLay_toPys : ∀ (xs : List Thing), Oks xs → PyData.canLayAll0 (toPys xs) = true
  | [], _ => by simp [toPys, PyData.canLayAll0]
  | x :: xs, h => by simp [toPys, PyData.canLayAll0, canLay_toPy x h.1, canLay_toPys xs h.2]
end
mutual
theorem depth_toPy : ∀ (x : Thing), (toPy x).depth = x.deep
  | .text s => by simp [toPy, PyData.depth, Thing.deep]
  | .list xs => by simp [toPy, PyData.depth, Thing.deep, depth_toPys xs]
theorem depth_toPys : ∀ (xs : List Thing), PyData.depthAll (toPys xs) = deeps xs
  | [] => by simp [toPys, PyData.depthAll, deeps]
  | x :: xs => by simp [toPys, PyData.depthAll, deeps, depth_toPy x, depth_toPys xs]
end
theorem shaped_toPy {x : Thing} (h : x.Ok) (hd : x.deep ≤ 64) : SeqAt.shaped (toPy x) = true := by
  show (PyData.canLay0 (toPy x) && decide (PyData.depth (toPy x) ≤ 64)) = true
  rw [Bool.and_eq_true, depth_toPy]
  exact ⟨canLay_toPy x h, decide_eq_true hd⟩
section
variable {prog : Program} {w : World} {A : Around} {E : Value → Shared → Prop} {s : Shared} {Q : Value → Shared → Prop}
theorem eq_things {x y : Thing} {v u : Value} (hx : HAt s.heap x v) (hy : HAt s.heap y u) (ox : x.Ok) (oy : y.Ok) (dx : x.deep ≤ 64) (dy : y.deep ≤ 64) (hu : A.units + 64 < cLine)
    (h1 : x = y → Q (.bool true) s) (h2 : x ≠ y → Q (.bool false) s) : wpAny (model prog w) A (compareOp .Eq v u) Q E s := by
  obtain ⟨as, ra⟩ := reads_of hx
  obtain ⟨bs, rb⟩ := reads_of hy
  refine eq_dataH_same ra rb (shaped_toPy ox dx) (shaped_toPy oy dy) hu (noMix_toPy x y) ?_
  cases hs : Spec.same (toPy x) (toPy y) with
  | true => exact h1 ((same_toPy x y).mp hs)
  | false => exact h2 fun e => by rw [(same_toPy x y).mpr e] at hs; cases hs
end
end
noncomputable section
open PySem PySem.W PyProof.Rows PySem.Spec PySem.Calls

theorem HAll.get_some {M : Addr → Obj → Prop} : ∀ {xs : List Thing} {vs : List Value}, AtAll M xs vs → ∀ (i : Nat) {x : Thing}, xs[i]? = some x → ∃ v, vs[i]? = some v ∧ At M x v
  | [], vs, h, i, x, e => by cases e
  | y :: xs, vs, h, i, x, e => by
    obtain ⟨v', vs', rfl, h1, h2⟩ := h
    cases i with
    | zero => cases e; exact ⟨v', rfl, h1⟩
    | succ i => exact HAll.get_some h2 i (by simpa using e)
theorem Oks.mem : ∀ {xs : List Thing} {i : Nat} {x : Thing}, Oks xs → xs[i]? = some x → x.Ok
  | [], i, x, _, e => by cases e
  | y :: xs, 0, x, h, e => by cases e; exact h.1
  | y :: xs, i + 1, x, h, e => Oks.mem (xs := xs) h.2 (by simpa using e)
theorem deeps.mem : ∀ {xs : List Thing} {i : Nat} {x : Thing} {d : Nat}, deeps xs ≤ d → xs[i]? = some x → x.deep ≤ d
  | [], i, x, d, _, e => by cases e
  | y :: xs, 0, x, d, h, e => by cases e; rw [deeps] at h; omega
  | y :: xs, i + 1, x, d, h, e => deeps.mem (xs := xs) (by rw [deeps] at h; omega) (by simpa using e)

theorem pick_upto {vs : List Value} {i : Nat} : kms_pick vs.toArray.toList none (some ((i : Nat) : Int)) = vs.take i := by
  unfold kms_pick kms_lo kms_hi
  simp only [List.drop_zero, Nat.sub_zero, if_neg (show ¬ ((i : Nat) : Int) < 0 by omega), Int.toNat_natCast]
  rw [kmk_take_min]
section
variable {prog : Program} {w : World} {A : Around} {E : Value → Shared → Prop} {s : Shared} {xs ys : List Thing} {vs us : List Value} {M : Addr → Obj → Prop} {l : Addr}
theorem len_things {Q : Value → Shared → Prop} (hl : s.heap.IsList l vs.toArray) (hr : AtAll M xs vs) (hx : xs.length ≤ 1000000)
    (h : Q (.int (xs.length : Nat) (s.toks + 1)) { s with toks := s.toks + 1 + 1 }) : wpAny (model prog w) A (call (.builtin "len") [.ref l]) Q E s := by
  have e : vs.toArray.size = xs.length := by rw [List.size_toArray, hr.length]
  refine len_list hl ?_ ?_
  · rw [e]; omega
  · rw [e]; exact h
theorem item_things {value slice : PySem.Expr} {i : Nat} {k : Int} {u : Tok} {Q : Value → Shared → Prop} (hl : s.heap.IsList l vs.toArray) (hr : AtAll M xs vs) (hk : k = (i : Nat)) (hi : i < xs.length) (hx : xs.length ≤ 1000000)
    (h : ∀ x v, xs[i]? = some x → At M x v → Q v s)
    (hs : subscripted slice false (.ref l) (.int k u) = operate [.ref l, .int k u] (getItem (.ref l) (.int k u))) :
    wpAny (model prog w) A (subscriptTail value slice (.ref l) (.int k u)) Q E s := by
  subst hk
  obtain ⟨v, e, hv⟩ := HAll.get_some hr i (List.getElem?_eq_getElem hi)
  exact tail_any hl.typeIs slot_list_getitem.lookup (wpAny_getItem_list hl (by omega) (by omega) (x := v) (by simpa using e) (h _ _ (List.getElem?_eq_getElem hi) hv)) hs
end
end
noncomputable section
open PySem PySem.W PyProof.Rows PySem.Spec PySem.Calls
noncomputable def shared : List Thing → List Thing → List Thing
  | x :: xs, y :: ys => open Classical in if x = y then x :: shared xs ys else []
  | _, _ => []
theorem shared_of : ∀ {i : Nat} {xs ys : List Thing}, xs.take i = ys.take i → i ≤ xs.length → i ≤ ys.length → (∀ x y, xs[i]? = some x → ys[i]? = some y → x ≠ y) → shared xs ys = xs.take i
  | 0, [], ys, _, _, _, _ => by simp [shared]
  | 0, x :: xs, [], _, _, _, _ => by simp [shared]
  | 0, x :: xs, y :: ys, _, _, _, h => by
    have := h x y rfl rfl
    simp [shared, this]
  | i + 1, [], ys, _, h, _, _ => by simp at h
  | i + 1, x :: xs, [], _, _, h, _ => by simp at h
  | i + 1, x :: xs, y :: ys, e, h1, h2, h => by
    simp only [List.take_succ_cons, List.cons.injEq] at e
    rw [shared, if_pos e.1, List.take_succ_cons, shared_of e.2 (by simpa using h1) (by simpa using h2) (fun a b ha hb => h a b (by simpa using ha) (by simpa using hb))]
theorem take_eq_succ {i : Nat} {xs ys : List Thing} {x y : Thing} (h : xs.take i = ys.take i) (hx : xs[i]? = some x) (hy : ys[i]? = some y) (e : x = y) : xs.take (i + 1) = ys.take (i + 1) := by
  rw [take_succ_of hx, take_succ_of hy, h, e]
theorem shared_does (w mean mg mb) (v1 v2 : Value) (xs ys : List Thing) (hx : xs.length ≤ 1000) (hy : ys.length ≤ 1000) (ox : Oks xs) (oy : Oks ys) (dx : deeps xs ≤ 60) (dy : deeps ys ≤ 60) :
    Does w mean mg mb 211 10 [v1, v2] (fun h => HAt h (.list xs) v1 ∧ HAt h (.list ys) v2) (fun _ h' r => HAt h' (.list (shared xs ys)) r) := by
  k_with_none
  k_with "replace" => (refine' replaceM ?k1 ?k2 ?k3 ?k4 ?k5 ?k6 ?_; (case k1 => (show @Ne Nat _ _); omega); (case k2 => (show @Ne Nat _ _); omega); (case k3 => (show @Ne Nat _ _); omega); (case k4 => decide); (case k5 => omega); (case k6 => decide); k_whole; intro tR kR hR; dsimp only at hR)
  k_with "used" => ((case uB => k_asm); (case uF => k_asm); (case uX => k_asm); (case uN => k_asm); (case uT => k_asm); (case uk => first | assumption | exact rfl); (case ud => ktr_room); (case uu => ktr_units); (case ut => (first | exact Nat.succ_pos _ | assumption | omega | (dsimp only; omega))); (case up => k_extra "pre"); k_whole; intro r9 h9 tk9 K9 F9 N9 ht9 hP9; (try dsimp only at ht9 K9))
  k_with "pre" => (first | trivial | assumption)
  k_with "enter" => (refine' enterM ?k1 ?k2 ?k3 ?k5 ?kA ?kF ?kK ?k6 ?k7 ?k8 ?k9 ?kB ?_ ?c2 ?c3 ?c4 ?c5 ?ct; (case kA => exact rfl); (case kF => exact rfl); (case kK => first | assumption | exact rfl); (case k1 => k_asm); (case k2 => k_asm); (case k3 => k_asm); (case k5 => k_asm); (case k6 => k_is); (case k7 => k_is); (case k8 => ktr_room); (case k9 => first | exact BindsTo.of_eq rfl | exact binds_K (by k_in) rfl (by k_is) rfl rfl rfl | exact kp_binds (by k_in) (fun _ => rfl)); (case c5 => decide); (case kB => exact locs rfl); (case c2 => exact rfl); (case c3 => exact rfl); (case c4 => exact rfl); (case ct => assumption); k_whole; intro L' h' tk0 htk0 F' N' B' X' T'; (try dsimp only); (try k_fold))
  k_with "enterR" => (refine' enterR ?k1 ?k2 ?k3 ?k5 ?kA ?kF ?kK ?k6 ?k7 ?k8 ?kV ?kP ?kG ?kB ?_ ?c2 ?c3 ?c4 ?c5 ?ct; (case kA => exact rfl); (case kF => exact rfl); (case kK => first | assumption | exact rfl); (case k1 => k_asm); (case k2 => k_asm); (case k3 => k_asm); (case k5 => k_asm); (case k6 => k_is); (case k7 => k_is); (case k8 => ktr_room); (case kV => kl_lit); (case kP => exact rfl); (case kG => exact fun _ => rfl); (case kB => exact fun _ => locs rfl); (case c5 => decide); (case c2 => exact rfl); (case c3 => exact rfl); (case c4 => exact rfl); (case ct => assumption); k_whole; intro D' L' h' tk0 htk0 hD' F' N' B' X' T'; (try dsimp only); (try k_fold))
  k_with "enterC" => (refine' enterC ?k1 ?k2 ?k3 ?k5 ?kA ?kF ?kK ?k6 ?k7 ?k8 ?k9 ?kB ?kD ?_ ?c2 ?c3 ?c4 ?ct; (case kA => exact rfl); (case kF => exact rfl); (case kK => first | assumption | exact rfl); (case k1 => k_asm); (case k2 => k_asm); (case k3 => k_asm); (case k5 => k_asm); (case k6 => k_is); (case k7 => k_is); (case k8 => ktr_room); (case k9 => first | exact BindsTo.of_eq rfl | exact binds_K (by k_in) rfl (by k_is) rfl rfl rfl | exact kp_binds (by k_in) (fun _ => rfl)); (case kB => exact rfl); (case kD => decide +kernel); (case c2 => exact rfl); (case c3 => exact rfl); (case c4 => exact rfl); (case ct => assumption); k_whole; intro L' h' tk0 cells' htk0 F' N' Y' B' X' T'; (try dsimp only); (try k_fold))
  unfold Does; k_fill
  intro dp un gd cn cs a ccd cl outer A₀ base h₀ L m s Q E B F X T hk hd hu htk hp hret
  obtain ⟨⟨a1, vs, n1, rfl, hm1, hr1⟩, ⟨a2, us, n2, rfl, hm2, hr2⟩⟩ := id hp
  have hl1 : s.heap.IsList a1 vs.toArray := ⟨_, hm1, rfl, _, rfl⟩
  have hl2 : s.heap.IsList a2 us.toArray := ⟨_, hm2, rfl, _, rfl⟩
  refine wpAny_call ?_
  k_extra "enter"
  k_with "while" =>
    refine' whileM (news := []) (fun j m' nx => nx = [] ∧ m' (Str.ofString "one") = some (.ref a1) ∧ m' (Str.ofString "two") = some (.ref a2) ∧ ∃ (i : Nat) (t1 : Tok), j = xs.length - i ∧ i ≤ xs.length ∧ i ≤ ys.length ∧ xs.take i = ys.take i ∧ m' (Str.ofString "size") = some (.int i t1)) xs.length ?hF ?hN ?hj ?ht
    (case hF => k_asm)
    (case hN => exact News.nil)
    (case hj => exact ⟨rfl, rfl, rfl, 0, _, rfl, Nat.zero_le _, Nat.zero_le _, rfl, rfl⟩)
    (case' ht =>
      intro j m1 nx h1 tk1 htk1 hJ F1 N1
      obtain ⟨rfl, e1, e2, i, t1, rfl, hi, hi2, hpre, e3⟩ := hJ
      rw [← upd_self e1, ← upd_self e2, ← upd_self e3] at F1
      dsimp only at F1 htk1)
  k_with "len" =>
    first
    | refine len_things (Fr.lst (by k_asm) hl1) hr1 (by omega) ?_
    | refine len_things (Fr.lst (by k_asm) hl2) hr2 (by omega) ?_
  k_with "item" =>
    first
    | refine item_things (Fr.lst (by k_asm) hl1) hr1 rfl (by omega) (by omega) (fun x v hx1 hv1 => ?_) (by with_unfolding_all rfl)
    | refine item_things (Fr.lst (by k_asm) hl2) hr2 rfl (by omega) (by omega) (fun x v hx1 hv1 => ?_) (by with_unfolding_all rfl)
  k_with "eq" =>
    refine' eq_things ?qx ?qy ?qo ?qp ?qd ?qe ?qu ?_ ?_
    (case qx => exact HAt.stays (Fr.keep (by k_asm)) (by assumption))
    (case qy => exact HAt.stays (Fr.keep (by k_asm)) (by assumption))
    (case qo => exact Oks.mem ox (by assumption))
    (case qp => exact Oks.mem oy (by assumption))
    (case qd => exact Nat.le_trans (deeps.mem dx (by assumption)) (by decide))
    (case qe => exact Nat.le_trans (deeps.mem dy (by assumption)) (by decide))
    (case qu => ktr_units)
    k_whole
    (all_goals (intro heq))
  k_with "slice" =>
    refine' kms_slice_lit (zs := vs.take i) ?sF ?sN ?sl ?sp ?sq ?se ?_ ?ss ?st ?sz
    (case sF => k_asm)
    (case sN => k_asm)
    (case sl => exact Fr.lst (by k_asm) hl1)
    (case sp => exact IsPart.none)
    (case sq => exact IsPart.int _ _)
    (case se => exact pick_upto)
    (case ss => with_unfolding_all rfl)
    (case st => kmk_pure)
    (case sz => (rw [List.size_toArray, hr1.length, sizeLine_eq]; omega))
    k_whole
    intro D' h' F' N' l1
  k_steps
  · show WhEnd _ _ _ _ _ _
    exact ⟨_, _, _, [], xs.length - (i + 1), rfl, by k_asm, News.nil, by omega, rfl, rfl, rfl, i + 1, _, rfl, by omega, by omega, take_eq_succ hpre (by assumption) (by assumption) (by assumption), rfl⟩
  · rename_i xA vA hxA hvA
    show Q _ _
    refine hret _ _ _ (Fr.keep (by k_asm)) ⟨D', _, 0, rfl, (N' _ (List.Mem.head _)).1, ?_⟩
    rw [shared_of hpre hi hi2 (fun x' y' q1 q2 => by rw [hxA] at q1; rw [hx1] at q2; cases q1; cases q2; exact heq)]
    exact AtAll.take _ (HAll.stays (Fr.keep (by k_asm)) hr1)
  · show Q _ _
    refine hret _ _ _ (Fr.keep (by k_asm)) ⟨D', _, 0, rfl, (N' _ (List.Mem.head _)).1, ?_⟩
    rw [shared_of hpre hi hi2 (fun x' y' e1 e2 => by rw [List.getElem?_eq_none (by omega)] at e2; cases e2)]
    exact AtAll.take _ (HAll.stays (Fr.keep (by k_asm)) hr1)
  · show Q _ _
    refine hret _ _ _ (Fr.keep (by k_asm)) ⟨D', _, 0, rfl, (N' _ (List.Mem.head _)).1, ?_⟩
    rw [shared_of hpre hi hi2 (fun x' y' e1 e2 => by rw [List.getElem?_eq_none (by omega)] at e1; cases e1)]
    exact AtAll.take _ (HAll.stays (Fr.keep (by k_asm)) hr1)
end
noncomputable section
open PySem PySem.W PyProof.Rows PySem.Spec PySem.Calls

/-! ## a ledger of which one entry changes -/
def setL (D : Addr) (o : Obj) (news : List (Addr × Obj)) : List (Addr × Obj) := news.map fun p => if p.1 = D then (D, o) else p
theorem mem_setL {D b : Addr} {o x : Obj} {news : List (Addr × Obj)} (hm : (b, x) ∈ news) (hb : b ≠ D) : (b, x) ∈ setL D o news :=
  List.mem_map.mpr ⟨_, hm, if_neg hb⟩
theorem mem_setL_self {D : Addr} {o x : Obj} {news : List (Addr × Obj)} (hm : (D, x) ∈ news) : (D, o) ∈ setL D o news :=
  List.mem_map.mpr ⟨_, hm, if_pos rfl⟩
theorem setL_addr {D : Addr} {o : Obj} {news : List (Addr × Obj)} {p : Addr × Obj} (hp : p ∈ setL D o news) : ∃ q ∈ news, q.1 = p.1 := by
  obtain ⟨q, hq, e⟩ := List.mem_map.mp hp
  by_cases h : q.1 = D
  · rw [if_pos h] at e; exact ⟨q, hq, by rw [h, ← e]⟩
  · rw [if_neg h] at e; exact ⟨q, hq, by rw [e]⟩
theorem setL_sub {D : Addr} {o : Obj} {a b : List (Addr × Obj)} (h : ∀ p ∈ a, p ∈ b) : ∀ p ∈ setL D o a, p ∈ setL D o b := by
  intro p hp
  obtain ⟨q, hq, e⟩ := List.mem_map.mp hp
  exact List.mem_map.mpr ⟨q, h q hq, e⟩
theorem News.setL {h₀ h h' : Heap} {L D : Addr} {o o' : Obj} {news : List (Addr × Obj)} (N : News h₀ L h news) (hm : (D, o) ∈ news) (hs : Heap.SameBut D h h') (ho : h'.get? D = some o') : News h₀ L h' (setL D o' news) := by
  intro p hp
  obtain ⟨q, hq, e⟩ := List.mem_map.mp hp
  by_cases c : q.1 = D
  · rw [if_pos c] at e; subst e
    exact ⟨ho, (N _ hm).2⟩
  · rw [if_neg c] at e; subst e
    exact ⟨(hs.2 _ c).trans (N _ hq).1, (N _ hq).2⟩
def Chg (D : Addr) (o : Obj) (nx nx' : List (Addr × Obj)) : Prop := (∀ b x, b ≠ D → (b, x) ∈ nx → (b, x) ∈ nx') ∧ (D, o) ∈ nx'
theorem chg_setL {D : Addr} {o x : Obj} {news : List (Addr × Obj)} (hm : (D, x) ∈ news) : Chg D o news (setL D o news) := ⟨fun _ _ hb h => mem_setL h hb, mem_setL_self hm⟩
section
variable {prog : Program} {w : World} {A : Around} {E : Value → Shared → Prop} {s : Shared} {h₀ : Heap} {L D : Addr} {m : Str → Option Value} {news : List (Addr × Obj)} {n : Nat}
theorem append_led {its : Array Value} {x : Value} {Q : Value → Shared → Prop} (F : Fr h₀ L s.heap m) (N : News h₀ L s.heap news) (hm : (D, listOf its n) ∈ news) (hz : its.size ≤ sizeLine)
    (h : ∀ h', Fr h₀ L h' m → News h₀ L h' (setL D (listOf (its.push x) (n + 1)) news) → Q .none { s with heap := h' }) : wpAny (model prog w) A (call (.builtin "list.append") [.ref D, x]) Q E s :=
  append_at (hsz := hz) (N _ hm).1 fun h' hs ho' => h h' (F.change hs (N _ hm).2.1 (N _ hm).2.2) (News.setL N hm hs ho')
theorem pop_led {p : List Value} {y : Value} {Q : Value → Shared → Prop} (F : Fr h₀ L s.heap m) (N : News h₀ L s.heap news) (hm : (D, listOf (p ++ [y]).toArray n) ∈ news) (hz : p.length + 1 ≤ sizeLine)
    (h : ∀ h', Fr h₀ L h' m → News h₀ L h' (setL D (listOf p.toArray (n + 1)) news) → Q y { s with heap := h' }) : wpAny (model prog w) A (call (.builtin "list.pop") [.ref D]) Q E s := by
  have z := N _ hm
  have hz' : (p ++ [y]).toArray.size ≤ sizeLine := by rw [List.size_toArray, List.length_append]; exact hz
  have hk : (p ++ [y]).toArray.size - 1 = p.length := by rw [List.size_toArray, List.length_append]; rfl
  have hy : (p ++ [y]).toArray[(p ++ [y]).toArray.size - 1]? = some y := by rw [hk]; simp
  have hx : (s.heap.update D (Obj.mapSeq fun a => a.eraseIdxIfInBounds ((p ++ [y]).toArray.size - 1))).get? D = some (listOf p.toArray (n + 1)) := by
    have q := PySem.IsL.update z.1 fun a => a.eraseIdxIfInBounds ((p ++ [y]).toArray.size - 1)
    have e : (p ++ [y]).toArray.eraseIdxIfInBounds ((p ++ [y]).toArray.size - 1) = p.toArray := by rw [hk, kl_erase, List.append_nil]
    rw [e, if_neg (by simp)] at q
    exact q
  refine call_meets PySem.F.slot_list_pop ⟨_, z.1, rfl⟩ PySem.F.entry_list_pop (PySem.F.args_list_pop_1 _) (PySem.MeetsSeq.list_pop_last D _ n y hy hz') ⟨z.1, h _ (F.change (Heap.SameBut.update ..) z.2.1 z.2.2) (News.setL N hm (Heap.SameBut.update ..) hx)⟩
theorem last_led {value slice : PySem.Expr} {p : List Value} {y : Value} {k : Int} {u : Tok} {Q : Value → Shared → Prop} (hl : s.heap.IsList D (p ++ [y]).toArray) (hk : k = -1) (hz : p.length ≤ 10000000) (h : Q y s)
    (hs : subscripted slice false (.ref D) (.int k u) = operate [.ref D, .int k u] (getItem (.ref D) (.int k u))) :
    wpAny (model prog w) A (subscriptTail value slice (.ref D) (.int k u)) Q E s := by
  subst hk
  have hz' : (p ++ [y]).toArray.size = p.length + 1 := by simp
  refine tail_any hl.typeIs slot_list_getitem.lookup (wpAny_getItem_list_neg hl (by decide) ?_ (by decide) (x := y) ?_ h) hs
  · rw [hz']; omega
  · rw [hz']
    have : ((-1 : Int) + ((p.length + 1 : Nat) : Int)).toNat = p.length := by omega
    rw [this]
    simp
end

/-! ## the trail of open lists -/
abbrev Cl (nx : List (Addr × Obj)) (op : List Addr) : Addr → Obj → Prop := fun b o => (b, o) ∈ nx ∧ b ∉ op
def Chain (nx : List (Addr × Obj)) (op : List Addr) : List (List Thing) → List Addr → Addr → Prop
  | [], [], _ => True
  | xs :: st, a :: as, c => (∃ vs n, (a, listOf (vs ++ [.ref c]).toArray n) ∈ nx ∧ AtAll (Cl nx op) xs vs) ∧ Chain nx op st as a
  | _, _, _ => False
theorem Chain.mono {nx nx' : List (Addr × Obj)} {op op' : List Addr} (h2 : ∀ b o, Cl nx op b o → Cl nx' op' b o) : ∀ {st : List (List Thing)} {as : List Addr} {c : Addr}, (∀ b o, b ∈ as → (b, o) ∈ nx → (b, o) ∈ nx') → Chain nx op st as c → Chain nx' op' st as c
  | [], [], _, _, h => h
  | [], _ :: _, _, _, h => h
  | _ :: _, [], _, _, h => h
  | xs :: st, a :: as, c, h1, h => by
    obtain ⟨⟨vs, n, hm, hx⟩, hc⟩ := h
    exact ⟨⟨vs, n, h1 _ _ (List.Mem.head _) hm, AtAll.mono h2 xs hx⟩, Chain.mono h2 (fun b o hb => h1 b o (List.mem_cons_of_mem _ hb)) hc⟩
theorem Chain.length {nx : List (Addr × Obj)} {op : List Addr} : ∀ {st : List (List Thing)} {as : List Addr} {c : Addr}, Chain nx op st as c → as.length = st.length
  | [], [], _, _ => rfl
  | [], _ :: _, _, h => h.elim
  | _ :: _, [], _, h => h.elim
  | xs :: st, a :: as, c, h => by simp [Chain.length h.2]
structure Tr (nx : List (Addr × Obj)) (nt a : Addr) (as : List Addr) (xs : List Thing) (st : List (List Thing)) (vs : List Value) (n k : Nat) : Prop where
  nd : (nt :: a :: as).Nodup
  mt : (nt, listOf ((a :: as).reverse.map Value.ref).toArray k) ∈ nx
  ma : (a, listOf vs.toArray n) ∈ nx
  hx : AtAll (Cl nx (nt :: a :: as)) xs vs
  ch : Chain nx (nt :: a :: as) st as a
section
variable {nx nx' nx1 nx2 nx3 : List (Addr × Obj)} {nt a D : Addr} {as : List Addr} {xs : List Thing} {st : List (List Thing)} {vs : List Value} {n k : Nat}
theorem Tr.text {s : Str} {t : Tok} (H : Tr nx nt a as xs st vs n k) (c : Chg a (listOf (vs.toArray.push (.str s t)) (n + 1)) nx nx') : Tr nx' nt a as (xs ++ [.text s]) st (vs ++ [.str s t]) (n + 1) k := by
  have nd := H.nd
  simp only [List.nodup_cons, List.mem_cons, not_or] at nd
  have up : ∀ b o, Cl nx (nt :: a :: as) b o → Cl nx' (nt :: a :: as) b o := fun b o h => ⟨c.1 b o (fun e => h.2 (by simp [e])) h.1, h.2⟩
  refine ⟨H.nd, c.1 _ _ nd.1.1 H.mt, ?_, AtAll.append (AtAll.mono up _ H.hx) (AtAll.single ⟨t, rfl⟩), Chain.mono up (fun b o hb h => c.1 b o (fun e => nd.2.1 (e ▸ hb)) h) H.ch⟩
  have := c.2
  simpa using this
theorem Tr.push (H : Tr nx nt a as xs st vs n k) (hD : ∀ p ∈ nx, p.1 ≠ D) (h1 : ∀ p ∈ nx, p ∈ nx1) (h2 : (D, listOf ([] : List Value).toArray 0) ∈ nx1) (c : Chg a (listOf (vs.toArray.push (.ref D)) (n + 1)) nx1 nx2)
    (c2 : Chg nt (listOf ((((a :: as).reverse.map Value.ref).toArray).push (.ref D)) (k + 1)) nx2 nx3) : Tr nx3 nt D (a :: as) [] (xs :: st) [] 0 (k + 1) := by
  have nd := H.nd
  have nd' := nd
  simp only [List.nodup_cons, List.mem_cons, not_or] at nd
  have dnt : nt ≠ D := hD _ H.mt
  have da : a ≠ D := hD _ H.ma
  have das : D ∉ as := by
    intro hm
    have q : ∀ (st : List (List Thing)) (as : List Addr) (c : Addr) (op : List Addr), Chain nx op st as c → D ∈ as → False := by
      intro st
      induction st with
      | nil => intro as c op h hm; cases as with
        | nil => cases hm
        | cons _ _ => exact h
      | cons x st ih => intro as c op h hm; cases as with
        | nil => cases hm
        | cons b as =>
          obtain ⟨⟨vs, n, hb, _⟩, hc⟩ := h
          rcases List.mem_cons.mp hm with e | hm
          · exact hD _ hb e.symm
          · exact ih as b op hc hm
    exact q _ _ _ _ H.ch hm
  have up : ∀ b o, Cl nx (nt :: a :: as) b o → Cl nx3 (nt :: D :: a :: as) b o := fun b o h =>
    ⟨c2.1 b o (fun e => h.2 (by simp [e])) (c.1 b o (fun e => h.2 (by simp [e])) (h1 _ h.1)), by
      have e1 := hD _ h.1
      have e2 := h.2
      simp only [List.mem_cons, not_or] at e2 ⊢
      exact ⟨e2.1, e1, e2.2⟩⟩
  refine ⟨?_, ?_, ?_, rfl, ⟨⟨vs, n + 1, ?_, AtAll.mono up _ H.hx⟩, Chain.mono up (fun b o hb h => ?_) H.ch⟩⟩
  · simp only [List.nodup_cons, List.mem_cons, not_or]
    exact ⟨⟨dnt, nd.1⟩, ⟨Ne.symm da, das⟩, nd.2⟩
  · have := c2.2
    simpa using this
  · exact c2.1 _ _ (Ne.symm dnt) (c.1 _ _ (Ne.symm da) h2)
  · have := c2.1 _ _ (Ne.symm nd.1.1) c.2
    simpa using this
  · exact c2.1 b o (fun e => nd.1.2 (e ▸ hb)) (c.1 b o (fun e => nd.2.1 (e ▸ hb)) (h1 _ h))
theorem Tr.pop {a2 : Addr} {ys : List Thing} (H : Tr nx nt a (a2 :: as) xs (ys :: st) vs n k) (c : Chg nt (listOf ((a2 :: as).reverse.map Value.ref).toArray (k + 1)) nx nx') :
    ∃ us n', Tr nx' nt a2 as (ys ++ [.list xs]) st us n' (k + 1) := by
  have nd := H.nd
  simp only [List.nodup_cons, List.mem_cons, not_or] at nd
  obtain ⟨⟨us, n', hm, hy⟩, hc⟩ := H.ch
  have up : ∀ b o, Cl nx (nt :: a :: a2 :: as) b o → Cl nx' (nt :: a2 :: as) b o := fun b o h =>
    ⟨c.1 b o (fun e => h.2 (by simp [e])) h.1, fun q => h.2 (by
      rcases List.mem_cons.mp q with e | q
      · simp [e]
      · exact List.mem_cons_of_mem _ (List.mem_cons_of_mem _ q))⟩
  refine ⟨us ++ [Value.ref a], n', ?_, c.2, c.1 _ _ (Ne.symm nd.1.2.1) hm, AtAll.append (AtAll.mono up _ hy) (AtAll.single (show At (Cl nx' (nt :: a2 :: as)) (.list xs) (.ref a) from ⟨a, vs, n, rfl, ⟨c.1 _ _ (Ne.symm nd.1.1) H.ma, by simp only [List.mem_cons, not_or]; exact ⟨Ne.symm nd.1.1, nd.2.1⟩⟩, AtAll.mono up _ H.hx⟩)), Chain.mono up (fun b o hb h => c.1 b o (fun e => nd.1.2.2 (e ▸ hb)) h) hc⟩
  · simp only [List.nodup_cons, List.mem_cons, not_or]
    exact ⟨nd.1.2, nd.2.2⟩
def closeUp : List Thing → List (List Thing) → List Thing
  | xs, [] => xs
  | xs, ys :: st => closeUp (ys ++ [.list xs]) st
theorem chain_fin {op : List Addr} : ∀ {st : List (List Thing)} {as : List Addr} {a : Addr} {xs : List Thing} {vs : List Value} {n : Nat}, (a, listOf vs.toArray n) ∈ nx → AtAll (fun b o => (b, o) ∈ nx) xs vs → Chain nx op st as a →
    At (fun b o => (b, o) ∈ nx) (.list (closeUp xs st)) (.ref ((a :: as).getLast (List.cons_ne_nil _ _)))
  | [], [], a, xs, vs, n, ha, hx, _ => ⟨a, vs, n, rfl, ha, hx⟩
  | [], _ :: _, _, _, _, _, _, _, h => h.elim
  | _ :: _, [], _, _, _, _, _, _, h => h.elim
  | ys :: st, a2 :: as, a, xs, vs, n, ha, hx, h => by
    obtain ⟨⟨us, n', hm, hy⟩, hc⟩ := h
    rw [List.getLast_cons (List.cons_ne_nil _ _)]
    show At _ (.list (closeUp (ys ++ [.list xs]) st)) _
    exact chain_fin hm (AtAll.append (AtAll.mono (fun b o h => h.1) _ hy) (AtAll.single (show At (fun b o => (b, o) ∈ nx) (.list xs) (.ref a) from ⟨a, vs, n, rfl, ha, hx⟩))) hc
theorem Tr.fin (H : Tr nx nt a as xs st vs n k) : At (fun b o => (b, o) ∈ nx) (.list (closeUp xs st)) (.ref ((a :: as).getLast (List.cons_ne_nil _ _))) :=
  chain_fin H.ma (AtAll.mono (fun b o h => h.1) _ H.hx) H.ch
end
section
variable {nx own news : List (Addr × Obj)} {D nt a : Addr} {o : Obj} {W : List Addr} {as : List Addr} {xs : List Thing} {st : List (List Thing)} {vs : List Value} {n k : Nat}
theorem off_setL (h : ∀ p ∈ nx, p.1 ∉ W) : ∀ p ∈ setL D o nx, p.1 ∉ W := by
  intro p hp
  obtain ⟨q, hq, e⟩ := setL_addr hp
  rw [← e]; exact h q hq
theorem own_setL (h : ∀ p ∈ own, p ∈ news) (hne : ∀ p ∈ own, p.1 ≠ D) : ∀ p ∈ own, p ∈ setL D o news := fun p hp => mem_setL (h p hp) (hne p hp)
theorem Tr.tl (H : Tr nx nt a as xs st vs n k) : (nt, listOf (as.reverse.map Value.ref ++ [Value.ref a]).toArray k) ∈ nx := by
  have := H.mt
  simpa using this
theorem Tr.na (H : Tr nx nt a as xs st vs n k) : nt ≠ a := by
  have nd := H.nd
  simp only [List.nodup_cons, List.mem_cons, not_or] at nd
  exact nd.1.1
end
section
variable {prog : Program} {w : World} {A : Around} {E : Value → Shared → Prop} {s : Shared} {h₀ : Heap} {L nt a : Addr} {as : List Addr} {news : List (Addr × Obj)} {k c : Nat}
theorem trail_len {Q : Value → Shared → Prop} (N : News h₀ L s.heap news) (hm : (nt, listOf (as.reverse.map Value.ref ++ [Value.ref a]).toArray k) ∈ news) (hl : as.length = c) (hc : c ≤ 100)
    (h : Q (.int ((c + 1 : Nat) : Int) (s.toks + 1)) { s with toks := s.toks + 1 + 1 }) : wpAny (model prog w) A (call (.builtin "len") [.ref nt]) Q E s := by
  have e : (as.reverse.map Value.ref ++ [Value.ref a]).toArray.size = c + 1 := by simp [hl]
  refine len_list (News.isList N hm) ?_ ?_
  · rw [e]; omega
  · rw [e]; exact h
end
theorem ne_list {h₀ h : Heap} {L l : Addr} {news : List (Addr × Obj)} {items : Array Value} (N : News h₀ L h news) (hl : h₀.IsList l items) {p : Addr × Obj} (hp : p ∈ news) : p.1 ≠ l := by
  intro e
  obtain ⟨o, ho, _⟩ := hl
  have := (N p hp).2.2
  rw [e, ho] at this
  cases this
def popStep (xs : List Thing) : List (List Thing) → List (List Thing)
  | [] => []
  | ys :: st' => (ys ++ [.list xs]) :: st'
def nestStep : List (List Thing) → Int → List (List Thing)
  | [], _ => []
  | xs :: st, z =>
    if z.natAbs % 1000000 % 4 = 0 ∧ st.length + 1 < 4 then [] :: xs :: st
    else if z.natAbs % 1000000 % 4 = 1 ∧ st.length + 1 > 1 then popStep xs st
    else (xs ++ [.text (signsS (z.natAbs % 1000000 / 4))]) :: st
def nestedOf (ns : List Int) : List Thing := match ns.foldl nestStep [[]] with
  | [] => []
  | xs :: st => closeUp xs st
theorem nest_sz (n : Int) : (if n < 0 then -n else n).fmod (10 ^ Int.toNat 6) = ((n.natAbs % 1000000 : Nat) : Int) := by
  have e : (10 : Int) ^ Int.toNat 6 = ((1000000 : Nat) : Int) := by decide
  have e2 : (if n < 0 then -n else n) = ((n.natAbs : Nat) : Int) := by split <;> omega
  rw [e, e2, Int.fmod_eq_emod_of_nonneg _ (by omega)]
  rfl
theorem nest_q (n : Int) : ((if n < 0 then -n else n).fmod (10 ^ Int.toNat 6)).fdiv 4 = ((n.natAbs % 1000000 / 4 : Nat) : Int) := by
  rw [nest_sz, Int.fdiv_eq_ediv_of_nonneg _ (by decide)]; omega
theorem nest_r (n : Int) (r : Int) : ((if n < 0 then -n else n).fmod (10 ^ Int.toNat 6)).fmod 4 = r ↔ ((n.natAbs % 1000000 % 4 : Nat) : Int) = r := by
  rw [nest_sz, Int.fmod_eq_emod_of_nonneg _ (by decide)]; rfl
theorem nest_next {ns : List Int} {i : Nat} {z : Int} {s0 : List (List Thing)} (hz : ns[i]? = some z) (h : s0 = (ns.take i).foldl nestStep [[]]) : nestStep s0 z = (ns.take (i + 1)).foldl nestStep [[]] := by
  rw [take_succ_of hz, List.foldl_append, ← h]; rfl
theorem nest_len_step {s0 : List (List Thing)} {z : Int} {B : Nat} (h1 : ∀ ys ∈ s0, ys.length ≤ B) (h2 : s0.length ≤ 4) : (∀ ys ∈ nestStep s0 z, ys.length ≤ B + 1) ∧ (nestStep s0 z).length ≤ 4 := by
  cases s0 with
  | nil => exact ⟨fun _ h => (nomatch h), Nat.zero_le _⟩
  | cons xs st =>
    by_cases c1 : z.natAbs % 1000000 % 4 = 0 ∧ st.length + 1 < 4
    · rw [nestStep, if_pos c1]
      refine ⟨fun ys hy => ?_, by simp only [List.length_cons]; omega⟩
      rcases List.mem_cons.mp hy with rfl | hy
      · exact Nat.zero_le _
      · exact Nat.le_succ_of_le (h1 ys hy)
    · by_cases c2 : z.natAbs % 1000000 % 4 = 1 ∧ st.length + 1 > 1
      · rw [nestStep, if_neg c1, if_pos c2]
        cases st with
        | nil => exact ⟨fun _ h => (nomatch h), Nat.zero_le _⟩
        | cons y st' =>
          refine ⟨fun ys hy => ?_, by simp only [popStep, List.length_cons] at h2 ⊢; omega⟩
          rcases List.mem_cons.mp hy with rfl | hy
          · have := h1 y (by simp)
            simp only [List.length_append, List.length_cons, List.length_nil]; omega
          · exact Nat.le_succ_of_le (h1 ys (by simp [hy]))
      · rw [nestStep, if_neg c1, if_neg c2]
        refine ⟨fun ys hy => ?_, h2⟩
        rcases List.mem_cons.mp hy with rfl | hy
        · have := h1 xs (by simp)
          simp only [List.length_append, List.length_cons, List.length_nil]; omega
        · exact Nat.le_succ_of_le (h1 ys (by simp [hy]))
theorem nest_len : ∀ (ns : List Int) (s0 : List (List Thing)) (B : Nat), (∀ ys ∈ s0, ys.length ≤ B) → s0.length ≤ 4 → (∀ ys ∈ ns.foldl nestStep s0, ys.length ≤ B + ns.length) ∧ (ns.foldl nestStep s0).length ≤ 4
  | [], s0, B, h1, h2 => ⟨h1, h2⟩
  | z :: ns, s0, B, h1, h2 => by
    obtain ⟨q1, q2⟩ := nest_len_step (z := z) h1 h2
    obtain ⟨r1, r2⟩ := nest_len ns _ _ q1 q2
    exact ⟨fun ys hy => by have := r1 ys hy; simp only [List.length_cons]; omega, r2⟩
theorem nest_bound {ns : List Int} {i : Nat} {xs : List Thing} {st : List (List Thing)} (h : xs :: st = (ns.take i).foldl nestStep [[]]) (hn : ns.length ≤ 30) : xs.length ≤ 30 ∧ st.length ≤ 3 := by
  obtain ⟨q1, q2⟩ := nest_len (ns.take i) [[]] 0 (by simp) (by simp)
  rw [← h] at q1 q2
  have e := q1 xs (by simp)
  simp only [List.length_cons, List.length_take] at q2 e
  omega
section
variable {z : Int} {xs : List Thing} {st : List (List Thing)}
theorem step_push (h : ((if z < 0 then -z else z).fmod (10 ^ Int.toNat 6)).fmod 4 = 0) (h2 : ((st.length + 1 : Nat) : Int) < 4) : nestStep (xs :: st) z = [] :: xs :: st := by
  have := (nest_r z 0).mp h
  rw [nestStep, if_pos ⟨by omega, by omega⟩]
theorem step_pop (h : ((if z < 0 then -z else z).fmod (10 ^ Int.toNat 6)).fmod 4 = 1) (h2 : 1 < ((st.length + 1 : Nat) : Int)) : nestStep (xs :: st) z = popStep xs st := by
  have := (nest_r z 1).mp h
  rw [nestStep, if_neg (fun c => by have := c.1; omega), if_pos ⟨by omega, by omega⟩]
theorem step_text1 (h : ((if z < 0 then -z else z).fmod (10 ^ Int.toNat 6)).fmod 4 ≠ 0) (h1 : ((if z < 0 then -z else z).fmod (10 ^ Int.toNat 6)).fmod 4 ≠ 1) : nestStep (xs :: st) z = (xs ++ [.text (signsS (z.natAbs % 1000000 / 4))]) :: st := by
  have q1 := fun q => h ((nest_r z 0).mpr q)
  have q2 := fun q => h1 ((nest_r z 1).mpr q)
  rw [nestStep, if_neg (fun c => q1 (by have := c.1; omega)), if_neg (fun c => q2 (by have := c.1; omega))]
theorem step_text2 (h : ((if z < 0 then -z else z).fmod (10 ^ Int.toNat 6)).fmod 4 = 0) (h1 : ¬ ((st.length + 1 : Nat) : Int) < 4) : nestStep (xs :: st) z = (xs ++ [.text (signsS (z.natAbs % 1000000 / 4))]) :: st := by
  have := (nest_r z 0).mp h
  rw [nestStep, if_neg (fun c => by have := c.2; omega), if_neg (fun c => by have := c.1; omega)]
theorem step_text3 (h : ((if z < 0 then -z else z).fmod (10 ^ Int.toNat 6)).fmod 4 = 1) (h1 : ¬ 1 < ((st.length + 1 : Nat) : Int)) : nestStep (xs :: st) z = (xs ++ [.text (signsS (z.natAbs % 1000000 / 4))]) :: st := by
  have := (nest_r z 1).mp h
  rw [nestStep, if_neg (fun c => by have := c.1; omega), if_neg (fun c => by have := c.2; omega)]
end
theorem nested_fin {ns : List Int} {i : Nat} {xs : List Thing} {st : List (List Thing)} (h : xs :: st = (ns.take i).foldl nestStep [[]]) (hi : i = ns.length) : closeUp xs st = nestedOf ns := by
  subst hi
  rw [List.take_length] at h
  unfold nestedOf
  rw [← h]
section
variable {h₀ h : Heap} {L I l : Addr} {items : Array Value} {nx own : List (Addr × Obj)} {nt a D : Addr} {as : List Addr} {xs : List Thing} {st : List (List Thing)} {vs : List Value} {n k : Nat}
theorem Tr.offs (hown : OwnOff own (nx.map (·.1))) {b : Addr} {o : Obj} (hm : (b, o) ∈ nx) : ∀ p ∈ own, p.1 ≠ b := fun p hp => hown p hp b (List.mem_map.mpr ⟨_, hm, rfl⟩)
theorem led_push (H : Tr nx nt a as xs st vs n k) (hl : h₀.IsList l items) (hI : ∃ oi, (I, oi) ∈ own) (hnx : ∀ p ∈ nx, p.1 ∉ [I, l]) (hown : OwnOff own (nx.map (·.1))) (l1 : ∀ p ∈ nx ++ own, p.1 < D)
    (N : News h₀ L h (setL nt (listOf (((as.reverse.map Value.ref ++ [Value.ref a]).toArray).push (.ref D)) (k + 1)) (setL a (listOf (vs.toArray.push (.ref D)) (n + 1)) ((D, listOf #[] 0) :: (nx ++ own))))) :
    ∃ nx', (∀ p ∈ nx', p ∈ setL nt (listOf (((as.reverse.map Value.ref ++ [Value.ref a]).toArray).push (.ref D)) (k + 1)) (setL a (listOf (vs.toArray.push (.ref D)) (n + 1)) ((D, listOf #[] 0) :: (nx ++ own)))) ∧
      (∀ p ∈ own, p ∈ setL nt (listOf (((as.reverse.map Value.ref ++ [Value.ref a]).toArray).push (.ref D)) (k + 1)) (setL a (listOf (vs.toArray.push (.ref D)) (n + 1)) ((D, listOf #[] 0) :: (nx ++ own)))) ∧
      (∀ p ∈ nx', p.1 ∉ [I, l]) ∧ Tr nx' nt D (a :: as) [] (xs :: st) [] 0 (k + 1) := by
  have hD : ∀ p ∈ nx, p.1 ≠ D := fun p hp => Nat.ne_of_lt (l1 p (List.mem_append_left _ hp))
  have dnt : nt ≠ D := hD _ H.mt
  have da : a ≠ D := hD _ H.ma
  refine ⟨setL nt (listOf (((as.reverse.map Value.ref ++ [Value.ref a]).toArray).push (.ref D)) (k + 1)) (setL a (listOf (vs.toArray.push (.ref D)) (n + 1)) ((D, listOf #[] 0) :: nx)), ?_, ?_, ?_, ?_⟩
  · refine setL_sub (setL_sub fun p hp => ?_)
    rcases List.mem_cons.mp hp with rfl | hp
    · exact List.Mem.head _
    · exact List.Mem.tail _ (List.mem_append_left _ hp)
  · exact own_setL (own_setL (fun p hp => List.Mem.tail _ (List.mem_append_right _ hp)) (Tr.offs hown H.ma)) (Tr.offs hown H.mt)
  · refine off_setL (off_setL fun p hp => ?_)
    rcases List.mem_cons.mp hp with rfl | hp
    · obtain ⟨oi, hoi⟩ := hI
      have h1 := l1 _ (List.mem_append_right _ hoi)
      have h2 := (N (D, listOf #[] 0) (mem_setL (mem_setL (List.Mem.head _) (Ne.symm da)) (Ne.symm dnt))).2.2
      intro hm
      rcases List.mem_cons.mp hm with e | hm
      · simp only at e h1; rw [e] at h1; exact absurd h1 (Nat.lt_irrefl _)
      · have e := List.mem_singleton.mp hm
        obtain ⟨o, ho, _⟩ := hl
        simp only at e h2
        rw [e, ho] at h2; cases h2
    · exact hnx p hp
  · refine H.push hD (nx1 := (D, listOf #[] 0) :: nx) (nx2 := setL a (listOf (vs.toArray.push (.ref D)) (n + 1)) ((D, listOf #[] 0) :: nx)) (fun p hp => List.Mem.tail _ hp) (List.Mem.head _) (chg_setL (List.Mem.tail _ H.ma)) ?_
    have := chg_setL (o := listOf (((as.reverse.map Value.ref ++ [Value.ref a]).toArray).push (.ref D)) (k + 1)) (mem_setL (o := listOf (vs.toArray.push (.ref D)) (n + 1)) (List.Mem.tail (D, listOf #[] 0) H.mt) H.na)
    simpa using this
theorem led_pop (H : Tr nx nt a as xs st vs n k) (hnx : ∀ p ∈ nx, p.1 ∉ [I, l]) (hown : OwnOff own (nx.map (·.1))) (hst : 1 < ((st.length + 1 : Nat) : Int)) :
    ∃ nx', (∀ p ∈ nx', p ∈ setL nt (listOf (as.reverse.map Value.ref).toArray (k + 1)) (nx ++ own)) ∧ (∀ p ∈ own, p ∈ setL nt (listOf (as.reverse.map Value.ref).toArray (k + 1)) (nx ++ own)) ∧
      (∀ p ∈ nx', p.1 ∉ [I, l]) ∧ ∃ a2 as2 ys st2 us n', as = a2 :: as2 ∧ popStep xs st = (ys ++ [.list xs]) :: st2 ∧ Tr nx' nt a2 as2 (ys ++ [.list xs]) st2 us n' (k + 1) := by
  refine ⟨setL nt (listOf (as.reverse.map Value.ref).toArray (k + 1)) nx, setL_sub (fun p hp => List.mem_append_left _ hp), own_setL (fun p hp => List.mem_append_right _ hp) (Tr.offs hown H.mt), off_setL hnx, ?_⟩
  cases st with
  | nil => simp at hst
  | cons ys st2 =>
    cases as with
    | nil => exact H.ch.elim
    | cons a2 as2 =>
      obtain ⟨us, n', T⟩ := H.pop (chg_setL (o := listOf ((a2 :: as2).reverse.map Value.ref).toArray (k + 1)) H.mt)
      exact ⟨a2, as2, ys, st2, us, n', rfl, rfl, T⟩
theorem led_text {s : Str} {t : Tok} (H : Tr nx nt a as xs st vs n k) (hnx : ∀ p ∈ nx, p.1 ∉ [I, l]) (hown : OwnOff own (nx.map (·.1))) :
    ∃ nx', (∀ p ∈ nx', p ∈ setL a (listOf (vs.toArray.push (.str s t)) (n + 1)) (nx ++ own)) ∧ (∀ p ∈ own, p ∈ setL a (listOf (vs.toArray.push (.str s t)) (n + 1)) (nx ++ own)) ∧
      (∀ p ∈ nx', p.1 ∉ [I, l]) ∧ Tr nx' nt a as (xs ++ [.text s]) st (vs ++ [.str s t]) (n + 1) k :=
  ⟨setL a (listOf (vs.toArray.push (.str s t)) (n + 1)) nx, setL_sub (fun p hp => List.mem_append_left _ hp), own_setL (fun p hp => List.mem_append_right _ hp) (Tr.offs hown H.ma), off_setL hnx, H.text (chg_setL H.ma)⟩
end
end
noncomputable section
open PySem PySem.W PyProof.Rows PySem.Spec PySem.Calls
theorem signs_does' (w mean mg mb) (z : Int) (k : Nat) (t : Tok) (hz : z = ((k : Nat) : Int)) (hk8 : k ≤ 250000) : Does w mean mg mb 164 1 [.int z t] (fun _ => True) (fun _ _ r => ∃ t, r = .str (signsS k) t) := by
  subst hz; exact signs_does w mean mg mb k t hk8
theorem nested_does (w mean mg mb) (l : Addr) (ns : List Int) (hns : ns.length ≤ 30) :
    Does w mean mg mb 171 10 [.ref l] (fun h => ∃ vs, h.IsList l vs.toArray ∧ IntsAre vs ns) (fun h h' r => ∃ tl : List (Addr × Obj), (∀ p ∈ tl, h'.get? p.1 = some p.2 ∧ h.get? p.1 = none) ∧ At (fun b o => (b, o) ∈ tl) (.list (nestedOf ns)) r) := by
  k_with_none
  k_with "replace" => (refine' replaceM ?k1 ?k2 ?k3 ?k4 ?k5 ?k6 ?_; (case k1 => (show @Ne Nat _ _); omega); (case k2 => (show @Ne Nat _ _); omega); (case k3 => (show @Ne Nat _ _); omega); (case k4 => decide); (case k5 => omega); (case k6 => decide); k_whole; intro tR kR hR; dsimp only at hR)
  k_with "used" => ((case uB => k_asm); (case uF => k_asm); (case uX => k_asm); (case uN => k_asm); (case uT => k_asm); (case uk => first | assumption | exact rfl); (case ud => ktr_room); (case uu => ktr_units); (case ut => (first | exact Nat.succ_pos _ | assumption | omega | (dsimp only; omega))); (case up => k_extra "pre"); k_whole; intro r9 h9 tk9 K9 F9 N9 ht9 hP9; (try dsimp only at ht9 K9))
  k_with "pre" => (first | trivial | assumption)
  k_with "enter" => (refine' enterM ?k1 ?k2 ?k3 ?k5 ?kA ?kF ?kK ?k6 ?k7 ?k8 ?k9 ?kB ?_ ?c2 ?c3 ?c4 ?c5 ?ct; (case kA => exact rfl); (case kF => exact rfl); (case kK => first | assumption | exact rfl); (case k1 => k_asm); (case k2 => k_asm); (case k3 => k_asm); (case k5 => k_asm); (case k6 => k_is); (case k7 => k_is); (case k8 => ktr_room); (case k9 => first | exact BindsTo.of_eq rfl | exact binds_K (by k_in) rfl (by k_is) rfl rfl rfl | exact kp_binds (by k_in) (fun _ => rfl)); (case c5 => decide); (case kB => exact locs rfl); (case c2 => exact rfl); (case c3 => exact rfl); (case c4 => exact rfl); (case ct => assumption); k_whole; intro L' h' tk0 htk0 F' N' B' X' T'; (try dsimp only); (try k_fold))
  k_with "enterR" => (refine' enterR ?k1 ?k2 ?k3 ?k5 ?kA ?kF ?kK ?k6 ?k7 ?k8 ?kV ?kP ?kG ?kB ?_ ?c2 ?c3 ?c4 ?c5 ?ct; (case kA => exact rfl); (case kF => exact rfl); (case kK => first | assumption | exact rfl); (case k1 => k_asm); (case k2 => k_asm); (case k3 => k_asm); (case k5 => k_asm); (case k6 => k_is); (case k7 => k_is); (case k8 => ktr_room); (case kV => kl_lit); (case kP => exact rfl); (case kG => exact fun _ => rfl); (case kB => exact fun _ => locs rfl); (case c5 => decide); (case c2 => exact rfl); (case c3 => exact rfl); (case c4 => exact rfl); (case ct => assumption); k_whole; intro D' L' h' tk0 htk0 hD' F' N' B' X' T'; (try dsimp only); (try k_fold))
  k_with "enterC" => (refine' enterC ?k1 ?k2 ?k3 ?k5 ?kA ?kF ?kK ?k6 ?k7 ?k8 ?k9 ?kB ?kD ?_ ?c2 ?c3 ?c4 ?ct; (case kA => exact rfl); (case kF => exact rfl); (case kK => first | assumption | exact rfl); (case k1 => k_asm); (case k2 => k_asm); (case k3 => k_asm); (case k5 => k_asm); (case k6 => k_is); (case k7 => k_is); (case k8 => ktr_room); (case k9 => first | exact BindsTo.of_eq rfl | exact binds_K (by k_in) rfl (by k_is) rfl rfl rfl | exact kp_binds (by k_in) (fun _ => rfl)); (case kB => exact rfl); (case kD => decide +kernel); (case c2 => exact rfl); (case c3 => exact rfl); (case c4 => exact rfl); (case ct => assumption); k_whole; intro L' h' tk0 cells' htk0 F' N' Y' B' X' T'; (try dsimp only); (try k_fold))
  unfold Does; k_fill
  intro dp un gd cn cs a ccd cl outer A₀ base h₀ L m s Q E B F X T hk hd hu htk hp hret
  obtain ⟨zs, hl, hi⟩ := id hp
  refine wpAny_call ?_
  k_extra "enter"
  k_with "for" =>
    refine' for_list (fun i m' nx => ∃ (nt a : Addr) (as : List Addr) (xs : List Thing) (st : List (List Thing)) (vs : List Value) (n k : Nat), Tr nx nt a as xs st vs n k ∧ Hid (xs :: st = (ns.take i).foldl nestStep [[]]) ∧ m' (Str.ofString "whole") = some (.ref ((a :: as).getLast (List.cons_ne_nil _ _))) ∧ m' (Str.ofString "trail") = some (.ref nt)) ?h1 ?h2 ?h3 ?h4 ?hF ?hN ?hl ?hi ?hnl ?hj ?ht ?hd
    (case h1 => exact rfl)
    (case h2 => exact rfl)
    (case h3 => exact rfl)
    (case h4 => exact fun _ => rfl)
    (case hF => k_asm)
    (case hi => (intro Q' E' hq; exact ld (by k_asm) rfl hq))
    (case hl => exact Fr.lst (by k_asm) hl)
    (case' hN => k_asm)
    (case hnl => (intro p hp; exact ne_list (by k_asm) hl hp))
    (case hj => (refine ⟨_, _, [], [], [], [], 0, 0, ⟨?_, List.Mem.head _, List.Mem.tail _ (List.Mem.head _), rfl, trivial⟩, ⟨rfl⟩, rfl, rfl⟩; simp; k_ne))
    (case' ht =>
      intro i v m1 nx h1 tk1 own I htk1 hv hJ hnx hown hI hl1 F1 N1
      obtain ⟨nt, a, as, xs, st, vs, n, k, H, hst, e1, e2⟩ := hJ
      obtain ⟨z, tz, rfl, hz⟩ := IntsAre.at hi i v hv
      have hb := nest_bound hst.out hns
      have hlen := H.ch.length
      have hvl := H.hx.length
      have hna := H.na
      rw [← upd_self e1, ← upd_self e2] at F1
      dsimp only at F1)
    (case' hd =>
      intro h1 tk1 m1 nx htk1 F1 N1 hJ
      obtain ⟨nt, a, as, xs, st, vs, n, k, H, hst, e1, e2⟩ := hJ
      rw [← upd_self e1, ← upd_self e2] at F1
      dsimp only at F1)
  k_with "len" => (refine trail_len (by k_asm) (List.mem_append_left _ H.tl) hlen (by omega) ?_)
  k_with "item" =>
    first
    | refine last_led (News.isList (by k_asm) (List.mem_append_left _ H.tl)) rfl (by simp; omega) ?_ (by with_unfolding_all rfl)
    | refine last_led (News.isList (by k_asm) (List.Mem.tail _ (List.mem_append_left _ H.tl))) rfl (by simp; omega) ?_ (by with_unfolding_all rfl)
  k_with "method" =>
    refine' kl_method ?N7 ?m7 (by first | exact PyProof.slot_list_append | exact PySem.F.slot_list_append | exact PySem.F.slot_list_pop) (by first | exact PyProof.type_list_append | exact PySem.F.type_list_append | exact PySem.F.type_list_pop) ?_
    (case N7 => k_asm)
    (case m7 => first | exact List.mem_append_left _ H.tl | exact List.mem_append_left _ H.ma | exact List.Mem.tail _ (List.mem_append_left _ H.ma) | exact mem_setL (List.Mem.tail _ (List.mem_append_left _ H.tl)) hna)
  k_with "append" =>
    refine' append_led ?F8 ?N8 ?m8 ?z8 ?_
    (case F8 => k_asm)
    (case N8 => k_asm)
    (case m8 => first | exact List.mem_append_left _ H.ma | exact List.Mem.tail _ (List.mem_append_left _ H.ma) | exact mem_setL (List.Mem.tail _ (List.mem_append_left _ H.tl)) hna)
    (case z8 => (rw [sizeLine_eq]; simp only [List.size_toArray, List.length_append, List.length_map, List.length_reverse, List.length_cons, List.length_nil]; omega))
    intro hA FA NA
    k_sweep
  k_with "pop" =>
    refine' pop_led ?F8 ?N8 ?m8 ?z8 ?_
    (case F8 => k_asm)
    (case N8 => k_asm)
    (case m8 => exact List.mem_append_left _ H.tl)
    (case z8 => (rw [sizeLine_eq]; simp only [List.length_map, List.length_reverse]; omega))
    intro hA FA NA
    k_sweep
  k_with "use" => (refine' Does.use (signs_does' _ _ _ _ _ (z.natAbs % 1000000 / 4) _ (nest_q z) (by omega)) ?uB ?uF ?uX ?uN ?uT ?uk ?ud ?uu ?ut ?up ?_; k_extra "used"; obtain ⟨t9, rfl⟩ := hP9; (try k_sweep))
  k_steps
  · show Q _ _
    refine hret _ _ _ (Fr.keep (by k_asm)) ⟨nx, fun p hp => ⟨(N1 p hp).1, (N1 p hp).2.2⟩, ?_⟩
    rw [← nested_fin hst.out hi.length]
    exact H.fin
  all_goals (try (exfalso; omega))
  · show ForEnd _ _ _ _ _ _ _
    obtain ⟨nx', q1, q2, q3, q4⟩ := led_push H hl hI hnx hown (by assumption) NA
    refine ⟨_, _, _, _, nx', rfl, FA, NA, q1, q2, q3, nt, _, _, _, _, _, _, _, q4, ⟨?_⟩, ?_, rfl⟩
    · rw [← nest_next hz hst.out, step_push (by assumption) (by assumption)]
    · rw [List.getLast_cons (List.cons_ne_nil _ _)]; rfl
  · show ForEnd _ _ _ _ _ _ _
    obtain ⟨nx', q1, q2, q3, q4⟩ := led_text H hnx hown
    refine ⟨_, _, _, _, nx', rfl, FA, NA, q1, q2, q3, nt, a, as, _, _, _, _, _, q4, ⟨?_⟩, rfl, rfl⟩
    rw [← nest_next hz hst.out, step_text2 (by assumption) (by assumption)]
  · show ForEnd _ _ _ _ _ _ _
    obtain ⟨nx', q1, q2, q3, a2, as2, ys, st2, us, n', rfl, e4, q4⟩ := led_pop H hnx hown (by assumption)
    refine ⟨_, _, _, _, nx', rfl, FA, NA, q1, q2, q3, nt, a2, as2, _, _, _, _, _, q4, ⟨?_⟩, ?_, rfl⟩
    · rw [← nest_next hz hst.out, step_pop (by assumption) (by assumption), e4]
    · rfl
  · show ForEnd _ _ _ _ _ _ _
    obtain ⟨nx', q1, q2, q3, q4⟩ := led_text H hnx hown
    refine ⟨_, _, _, _, nx', rfl, FA, NA, q1, q2, q3, nt, a, as, _, _, _, _, _, q4, ⟨?_⟩, rfl, rfl⟩
    rw [← nest_next hz hst.out, step_text3 (by assumption) (by assumption)]
  · show ForEnd _ _ _ _ _ _ _
    obtain ⟨nx', q1, q2, q3, q4⟩ := led_text H hnx hown
    refine ⟨_, _, _, _, nx', rfl, FA, NA, q1, q2, q3, nt, a, as, _, _, _, _, _, q4, ⟨?_⟩, rfl, rfl⟩
    rw [← nest_next hz hst.out, step_text1 (by assumption) (by assumption)]
end
noncomputable section
open PySem PySem.W PyProof.Rows PySem.Spec PySem.Calls
theorem News.addAll {h₀ h hs : Heap} {L : Addr} {m : Str → Option Value} {news : List (Addr × Obj)} (N : News h₀ L h news) (F : Fr h₀ L hs m) : ∀ {tl : List (Addr × Obj)}, (∀ p ∈ tl, h.get? p.1 = some p.2 ∧ hs.get? p.1 = none) → News h₀ L h (tl ++ news)
  | [], _ => N
  | p :: tl, ht => News.add (News.addAll N F fun q hq => ht q (List.mem_cons_of_mem _ hq)) F (ht p (List.mem_cons_self ..)).1 (ht p (List.mem_cons_self ..)).2
theorem path_len_take (cs : List Str) : ∀ k, (pathOf (cs.take k)).length ≤ (pathOf cs).length := by
  have step : ∀ (n : Nat) (ds : List Str), n = ds.length → ∀ k, (pathOf (ds.take k)).length ≤ (pathOf ds).length := by
    intro n
    induction n with
    | zero => intro ds h k; rw [List.length_eq_zero_iff.mp h.symm]; simp
    | succ n ih =>
      intro ds h k
      have hne : ds ≠ [] := by intro q; rw [q] at h; cases h
      by_cases hk : ds.length ≤ k
      · rw [List.take_of_length_le hk]; exact Nat.le_refl _
      · have e : ds = ds.dropLast ++ [ds.getLast hne] := (List.dropLast_concat_getLast hne).symm
        have h1 := ih ds.dropLast (by simp; omega) k
        have e2 : ds.take k = ds.dropLast.take k := by
          rw [List.dropLast_eq_take, List.take_take, Nat.min_eq_left (by omega)]
        rw [e2]
        refine Nat.le_trans h1 ?_
        have e3 := path_snoc ds.dropLast (ds.getLast hne)
        rw [← e] at e3
        rw [← cl_length, ← cl_length, e3]
        by_cases hd : ds.dropLast = []
        · rw [hd, path_cl]; simp [PySem.Str.join, cl, PySem.Str.empty]
        · rw [if_neg hd, List.length_append]; omega
  exact step _ cs rfl
theorem read_split {xs : List Thing} {k : Nat} (hk : k ≤ xs.length) (h : (pathS (xs.take k) != Str.ofString "/") = true) :
    ∃ x, 1 ≤ k ∧ xs[k - 1]? = some x ∧ splitH (pathS (xs.take k)) = pathS (xs.take (k - 1)) ∧ splitT (pathS (xs.take k)) = piece x := by
  have h0 : xs.take k ≠ [] := fun q => by rw [path_root.mpr q] at h; cases h
  have hk1 : 1 ≤ k := by
    cases k with
    | zero => simp at h0
    | succ k => omega
  have hx : xs[k - 1]? = some xs[k - 1] := List.getElem?_eq_getElem (by omega)
  have e : xs.take k = xs.take (k - 1) ++ [xs[k - 1]] := by
    have := take_succ_of hx
    rw [Nat.sub_add_cancel hk1] at this
    exact this
  have e2 : pathS (xs.take k) = pathOf (pieces (xs.take (k - 1)) ++ [piece xs[k - 1]]) := by
    rw [e, pathS_eq, pieces_append]
    simp [pieces]
  obtain ⟨q1, q2⟩ := split_path (pieces_comp (xs.take (k - 1))) (piece_kept xs[k - 1]).1
  exact ⟨_, hk1, hx, by rw [e2, q1]; rfl, by rw [e2, q2]⟩
theorem drop_pred {α : Type} {l : List α} {k : Nat} {x : α} (hk : 1 ≤ k) (h : l[k - 1]? = some x) : l.drop (k - 1) = x :: l.drop k := by
  obtain ⟨hlt, e⟩ := List.getElem?_eq_some_iff.mp h
  rw [List.drop_eq_getElem_cons hlt, e, Nat.sub_add_cancel hk]
theorem Fits.mem : ∀ {xs : List Thing} {i : Nat} {x : Thing}, FitsAll xs → xs[i]? = some x → Fits x
  | [], i, x, _, e => by cases e
  | y :: xs, 0, x, h, e => by cases e; exact h.1
  | y :: xs, i + 1, x, h, e => Fits.mem (xs := xs) h.2 (by simpa using e)
theorem depths.mem : ∀ {xs : List Thing} {i : Nat} {x : Thing}, xs[i]? = some x → x.depth ≤ depths xs
  | [], i, x, e => by cases e
  | y :: xs, 0, x, e => by cases e; rw [depths]; omega
  | y :: xs, i + 1, x, e => by
    have := depths.mem (xs := xs) (i := i) (x := x) (by simpa using e)
    rw [depths]; omega
theorem piece_len {x : Thing} (h : Fits x) : (piece x).length ≤ 1000000 := by
  cases x with
  | text s =>
    obtain ⟨_, _, h3⟩ := h
    have e := cl_length (piece (.text s))
    rw [piece_text_cl, List.length_cons, List.length_append, cl_length] at e
    simp only [List.length_singleton] at e
    omega
  | list ys =>
    obtain ⟨_, ⟨_, _, h3⟩, _⟩ := h
    have e : piece (.list ys) = hideS (pathS ys) := by unfold piece; rfl
    rw [e]; omega
def ReadDoes (w : World) (mean : ExcName → Option Value) (mg mb : Str → Option Value) (d : Nat) : Prop :=
  ∀ xs, depths xs ≤ d → FitsAll xs → PathFits xs → ∀ t, Does w mean mg mb 204 (d + 4) [.str (pathS xs) t] (fun _ => True)
    (fun h h' r => ∃ tl : List (Addr × Obj), (∀ p ∈ tl, h'.get? p.1 = some p.2 ∧ h.get? p.1 = none) ∧ At (fun b o => (b, o) ∈ tl) (.list xs) r)
theorem read_text_ok {s : Str} (h : Fits (.text s)) : (stripS (piece (.text s))).length ≤ 1000000 ∧ (Txt.replace (stripS (piece (.text s))) (Str.ofString "~1") (Str.ofString "/")).length ≤ 1000000 := by
  obtain ⟨h1, h2, h3⟩ := h
  rw [strip_piece]
  have := show_mid s
  omega
theorem read_list_ok {ys : List Thing} (h : Fits (.list ys)) : (piece (.list ys)).length ≤ 1000000 ∧ (Txt.replace (piece (.list ys)) (Str.ofString "~1") (Str.ofString "/")).length ≤ 1000000 := by
  obtain ⟨_, ⟨h1, h2, h3⟩, _⟩ := h
  have e : piece (.list ys) = hideS (pathS ys) := by unfold piece; rfl
  rw [e]
  have := show_mid (pathS ys)
  omega
theorem read_step (w mean mg mb) (d : Nat) (ih : ∀ e, e < d → ReadDoes w mean mg mb e) : ReadDoes w mean mg mb d := by
  k_with_none
  k_with "replace" => (refine' replaceM ?k1 ?k2 ?k3 ?k4 ?k5 ?k6 ?_; (case k1 => (show @Ne Nat _ _); omega); (case k2 => (show @Ne Nat _ _); omega); (case k3 => (show @Ne Nat _ _); omega); (case k4 => decide); (case k5 => omega); (case k6 => decide); k_whole; intro tR kR hR; dsimp only at hR)
  k_with "used" => ((case uB => k_asm); (case uF => k_asm); (case uX => k_asm); (case uN => k_asm); (case uT => k_asm); (case uk => first | assumption | exact rfl); (case ud => ktr_room); (case uu => ktr_units); (case ut => (first | exact Nat.succ_pos _ | assumption | omega | (dsimp only; omega))); (case up => k_extra "pre"); k_whole; intro r9 h9 tk9 K9 F9 N9 ht9 hP9; (try dsimp only at ht9 K9))
  k_with "pre" => (first | trivial | assumption)
  k_with "enter" => (refine' enterM ?k1 ?k2 ?k3 ?k5 ?kA ?kF ?kK ?k6 ?k7 ?k8 ?k9 ?kB ?_ ?c2 ?c3 ?c4 ?c5 ?ct; (case kA => exact rfl); (case kF => exact rfl); (case kK => first | assumption | exact rfl); (case k1 => k_asm); (case k2 => k_asm); (case k3 => k_asm); (case k5 => k_asm); (case k6 => k_is); (case k7 => k_is); (case k8 => ktr_room); (case k9 => first | exact BindsTo.of_eq rfl | exact binds_K (by k_in) rfl (by k_is) rfl rfl rfl | exact kp_binds (by k_in) (fun _ => rfl)); (case c5 => decide); (case kB => exact locs rfl); (case c2 => exact rfl); (case c3 => exact rfl); (case c4 => exact rfl); (case ct => assumption); k_whole; intro L' h' tk0 htk0 F' N' B' X' T'; (try dsimp only); (try k_fold))
  k_with "enterR" => (refine' enterR ?k1 ?k2 ?k3 ?k5 ?kA ?kF ?kK ?k6 ?k7 ?k8 ?kV ?kP ?kG ?kB ?_ ?c2 ?c3 ?c4 ?c5 ?ct; (case kA => exact rfl); (case kF => exact rfl); (case kK => first | assumption | exact rfl); (case k1 => k_asm); (case k2 => k_asm); (case k3 => k_asm); (case k5 => k_asm); (case k6 => k_is); (case k7 => k_is); (case k8 => ktr_room); (case kV => kl_lit); (case kP => exact rfl); (case kG => exact fun _ => rfl); (case kB => exact fun _ => locs rfl); (case c5 => decide); (case c2 => exact rfl); (case c3 => exact rfl); (case c4 => exact rfl); (case ct => assumption); k_whole; intro D' L' h' tk0 htk0 hD' F' N' B' X' T'; (try dsimp only); (try k_fold))
  k_with "enterC" => (refine' enterC ?k1 ?k2 ?k3 ?k5 ?kA ?kF ?kK ?k6 ?k7 ?k8 ?k9 ?kB ?kD ?_ ?c2 ?c3 ?c4 ?ct; (case kA => exact rfl); (case kF => exact rfl); (case kK => first | assumption | exact rfl); (case k1 => k_asm); (case k2 => k_asm); (case k3 => k_asm); (case k5 => k_asm); (case k6 => k_is); (case k7 => k_is); (case k8 => ktr_room); (case k9 => first | exact BindsTo.of_eq rfl | exact binds_K (by k_in) rfl (by k_is) rfl rfl rfl | exact kp_binds (by k_in) (fun _ => rfl)); (case kB => exact rfl); (case kD => decide +kernel); (case c2 => exact rfl); (case c3 => exact rfl); (case c4 => exact rfl); (case ct => assumption); k_whole; intro L' h' tk0 cells' htk0 F' N' Y' B' X' T'; (try dsimp only); (try k_fold))
  intro xs hdx hfx hpx t
  have hlp := fun k => path_len_take (pieces xs) k
  have hpl := hpx.1
  unfold Does; k_fill
  intro dp un gd cn cs a ccd cl outer A₀ base h₀ L m s Q E B F X T hk hd hu htk hp hret
  refine wpAny_call ?_
  k_extra "enter"
  k_with "while" =>
    refine' whileM (fun j m' nx => j ≤ xs.length ∧ ∃ (t1 : Tok) (at1 : Addr) (vs : List Value) (n : Nat), m' (Str.ofString "path") = some (.str (pathS (xs.take j)) t1) ∧ m' (Str.ofString "things") = some (.ref at1) ∧ (at1, W.listOf vs.toArray n) ∈ nx ∧ AtAll (fun b o => (b, o) ∈ nx) (xs.drop j) vs) xs.length ?hF ?hN ?hj ?ht
    (case hF => k_asm)
    (case' hN => k_asm)
    (case hj => exact ⟨Nat.le_refl _, _, _, [], 0, by rw [List.take_length]; rfl, rfl, List.Mem.head _, by rw [List.drop_length]; rfl⟩)
    (case' ht =>
      intro j m1 nx h1 tk1 htk1 hJ F1 N1
      obtain ⟨hj, t1, at1, vs, n, e1, e2, hm, hx⟩ := hJ
      rw [← upd_self e1, ← upd_self e2] at F1
      dsimp only at F1 htk1
      have hlj : (pathS (xs.take j)).length ≤ 1000000 := by
        have := hlp j
        rw [pathS_eq, pieces_take]
        have e : (pathS xs).length = (pathOf (pieces xs)).length := rfl
        omega
      have hvz : vs.length ≤ 500000 := by
        have h1 := hpx.2
        have h2 := pieces_length xs
        have h3 := hx.length
        rw [List.length_drop] at h3
        omega)
  k_with "use" =>
    refine' Does.use (split_does _ _ _ _ _ _ hlj) ?uB ?uF ?uX ?uN ?uT ?uk ?ud ?uu ?ut ?up ?_
    k_extra "used"
    obtain ⟨D9, t91, t92, rfl, hf9, hD9⟩ := hP9
    have hne : (pathS (xs.take j) != Str.ofString "/") = true := by first | assumption | fail "AAA"
    obtain ⟨x, hj1, hxj, es1, es2⟩ := read_split hj hne
    rw [es1, es2] at hD9
    replace N9 := News.add N9 F1 hD9 hf9
    have hfit := Fits.mem hfx hxj
    have hpb := piece_len hfit
    have hdm := depths.mem hxj
    rcases x with s1 | ys
    (all_goals (try k_sweep))
  k_with "use" =>
    refine' Does.use (strip_does _ _ _ _ _ _ hpb) ?uB ?uF ?uX ?uN ?uT ?uk ?ud ?uu ?ut ?up ?_
    k_extra "used"
    obtain ⟨t9, rfl⟩ := hP9
    (try k_sweep)
  k_with "use" =>
    refine' Does.use (show_does _ _ _ _ _ _ (read_text_ok hfit).1 (read_text_ok hfit).2) ?uB ?uF ?uX ?uN ?uT ?uk ?ud ?uu ?ut ?up ?_
    k_extra "used"
    obtain ⟨t9, rfl⟩ := hP9
    rw [read_text]
    (try k_sweep)
  k_with "use" =>
    refine' Does.use (show_does _ _ _ _ _ _ (read_list_ok hfit).1 (read_list_ok hfit).2) ?uB ?uF ?uX ?uN ?uT ?uk ?ud ?uu ?ut ?up ?_
    k_extra "used"
    obtain ⟨t9, rfl⟩ := hP9
    rw [read_list]
    (try k_sweep)
  k_with "use" =>
    have hdy : depths ys + 1 ≤ d := Nat.le_trans (by rw [Thing.depth] at hdm; exact hdm) hdx
    refine' Does.use (ih (depths ys) hdy ys (Nat.le_refl _) hfit.1 hfit.2.2 _) ?uB ?uF ?uX ?uN ?uT ?uk ?ud ?uu ?ut ?up ?_
    k_extra "used"
    obtain ⟨tl9, hn9, hat9⟩ := hP9
    replace N9 := News.addAll N9 (by assumption) hn9
    (try k_sweep)
  k_with "add" =>
    refine' kmk_add_lit ?aF ?aN ?aa ?ab rfl ?_ ?az
    (case aF => k_asm)
    (case aN => k_asm)
    (case aa => exact News.isList (by k_asm) (List.Mem.head _))
    (case ab => exact News.isList (by k_asm) (by repeat (first | exact hm | apply List.Mem.tail | apply List.mem_append_right)))
    (case az => (rw [sizeLine_eq]; show 1 + vs.length ≤ _; omega))
    k_whole
    intro D' h' F' N' l1
  k_steps
  · show WhEnd _ _ _ _ _ _
    refine ⟨_, _, _, _, j - 1, rfl, by k_asm, by k_asm, by omega, by omega, _, _, _, _, rfl, rfl, List.Mem.head _, ?_⟩
    rw [drop_pred hj1 hxj]
    exact ⟨_, _, rfl, ⟨_, rfl⟩, AtAll.mono (fun b o h => by repeat (first | exact h | apply List.Mem.tail | apply List.mem_append_right)) _ hx⟩
  · exact absurd (piece_text_q s1) (Bool.eq_false_iff.mp (by assumption))
  · exact absurd ((piece_list_q ys).symm.trans (by assumption)) (by decide)
  · show WhEnd _ _ _ _ _ _
    refine ⟨_, _, _, _, j - 1, rfl, by k_asm, by k_asm, by omega, by omega, _, _, _, _, rfl, rfl, List.Mem.head _, ?_⟩
    rw [drop_pred hj1 hxj]
    exact ⟨_, _, rfl, At.mono (fun b o h => by repeat (first | exact List.mem_append_left _ h | apply List.Mem.tail)) (.list ys) hat9, AtAll.mono (fun b o h => by repeat (first | exact h | apply List.Mem.tail | apply List.mem_append_right)) _ hx⟩
  · show Q _ _
    have e : xs.drop j = xs := by
      have h1 := path_root.mp (by assumption)
      have := List.take_append_drop j xs
      rw [h1] at this
      exact this
    rw [e] at hx
    exact hret _ _ _ (Fr.keep (by k_asm)) ⟨nx, fun p hp => ⟨(N1 p hp).1, (N1 p hp).2.2⟩, at1, vs, n, rfl, hm, hx⟩
theorem read_does (w mean mg mb) (d : Nat) : ReadDoes w mean mg mb d := Nat.strongRecOn d fun d ih => read_step w mean mg mb d fun e h => ih e h
end
noncomputable section
open PySem PySem.W PyProof.Rows PySem.Spec PySem.Calls

mutual
def nodes : Thing → Nat
  | .text _ => 1
  | .list xs => nodesL xs + 1
def nodesL : List Thing → Nat
  | [] => 0
  | x :: xs => nodes x + nodesL xs
end
mutual
def Tidy : Thing → Prop
  | .text s => s.length ≤ 6 ∧ PyData.strOk s = true
  | .list xs => Tidys xs
def Tidys : List Thing → Prop
  | [] => True
  | x :: xs => Tidy x ∧ Tidys xs
end
theorem Tidys.append : ∀ {xs ys : List Thing}, Tidys xs → Tidys ys → Tidys (xs ++ ys)
  | [], _, _, h => h
  | _ :: _, _, h, h' => ⟨h.1, Tidys.append h.2 h'⟩
theorem Tidys.take : ∀ {xs : List Thing} (n : Nat), Tidys xs → Tidys (xs.take n)
  | [], n, h => by simpa using h
  | _ :: _, 0, _ => trivial
  | _ :: _, n + 1, h => ⟨h.1, Tidys.take n h.2⟩
theorem nodesL_append : ∀ (xs ys : List Thing), nodesL (xs ++ ys) = nodesL xs + nodesL ys
  | [], ys => by simp [nodesL]
  | x :: xs, ys => by rw [List.cons_append, nodesL, nodesL, nodesL_append xs ys, Nat.add_assoc]
theorem nodesL_take : ∀ (xs : List Thing) (n : Nat), nodesL (xs.take n) ≤ nodesL xs
  | [], n => by simp
  | x :: xs, 0 => by simp [nodesL]
  | x :: xs, n + 1 => by rw [List.take_succ_cons, nodesL, nodesL]; have := nodesL_take xs n; omega
theorem depths_append : ∀ (xs ys : List Thing), depths (xs ++ ys) = max (depths xs) (depths ys)
  | [], ys => by simp [depths]
  | x :: xs, ys => by rw [List.cons_append, depths, depths, depths_append xs ys, Nat.max_assoc]
theorem depths_take : ∀ (xs : List Thing) (n : Nat), depths (xs.take n) ≤ depths xs
  | [], n => by simp
  | x :: xs, 0 => by simp [depths]
  | x :: xs, n + 1 => by rw [List.take_succ_cons, depths, depths]; have := depths_take xs n; omega
theorem length_nodes : ∀ (xs : List Thing), xs.length ≤ nodesL xs
  | [] => Nat.le_refl _
  | x :: xs => by
    have := length_nodes xs
    have h : 1 ≤ nodes x := by cases x <;> rw [nodes] <;> omega
    rw [List.length_cons, nodesL]; omega
mutual
theorem deep_depth : ∀ (x : Thing), x.deep = x.depth
  | .text s => rfl
  | .list xs => by rw [Thing.deep, Thing.depth, deeps_depths xs]
theorem deeps_depths : ∀ (xs : List Thing), deeps xs = depths xs
  | [] => rfl
  | x :: xs => by rw [deeps, depths, deep_depth x, deeps_depths xs]
end
mutual
theorem ok_of_tidy : ∀ {x : Thing}, Tidy x → x.Ok
  | .text s, h => h.2
  | .list xs, h => oks_of_tidy (xs := xs) h
theorem oks_of_tidy : ∀ {xs : List Thing}, Tidys xs → Oks xs
  | [], _ => trivial
  | _ :: _, h => ⟨ok_of_tidy h.1, oks_of_tidy h.2⟩
end
theorem pathOf_len (cs : List Str) : (pathOf cs).length ≤ (cs.map (·.length)).sum + cs.length + 1 := by
  have h := join_bound (g := PySem.Str.ofString "/") (ys := cs) (B := (cs.map (·.length)).sum + cs.length) (by
    have e2 : (PySem.Str.ofString "/").length = 1 := by decide
    rw [e2, Nat.mul_one]; exact Nat.le_refl _)
  have e : (pathOf cs).length = (PySem.Str.ofString "/").length + (Txt.join (PySem.Str.ofString "/") cs).length := by
    unfold pathOf
    rw [← cl_length, cl_append, List.length_append, cl_length, cl_length]
  have e2 : (PySem.Str.ofString "/").length = 1 := by decide
  omega
theorem text_len {s : Str} (h : s.length ≤ 6) : (piece (.text s)).length ≤ 14 := by
  have e := cl_length (piece (.text s))
  rw [piece_text_cl, List.length_cons, List.length_append, cl_length] at e
  simp only [List.length_singleton] at e
  have := hide_len s
  omega
mutual
theorem piece_weight : ∀ (x : Thing) (d : Nat), Tidy x → x.depth ≤ d → (piece x).length + 1 ≤ 16 * 2 ^ d * nodes x
  | .text s, d, h, _ => by
    have h1 := text_len h.1
    have h2 : 1 ≤ 2 ^ d := Nat.one_le_two_pow
    rw [nodes, Nat.mul_one]
    omega
  | .list xs, 0, _, hd => by rw [Thing.depth] at hd; omega
  | .list xs, d + 1, h, hd => by
    rw [Thing.depth] at hd
    have h1 := pieces_weight xs d h (by omega)
    have e : piece (.list xs) = hideS (pathS xs) := by unfold piece; rfl
    rw [e]
    have h2 := hide_len (pathS xs)
    have h3 := pathOf_len (pieces xs)
    rw [← pathS_eq] at h3
    have h4 : 1 ≤ 2 ^ d := Nat.one_le_two_pow
    have e2 : 16 * 2 ^ (d + 1) * nodes (.list xs) = 2 * (16 * 2 ^ d * nodesL xs) + 2 * (16 * 2 ^ d) := by
      rw [nodes, Nat.pow_succ, Nat.mul_add, Nat.mul_one]
      have : 16 * (2 ^ d * 2) = 2 * (16 * 2 ^ d) := by omega
      rw [this, Nat.mul_assoc]
    rw [e2]
    generalize 16 * 2 ^ d * nodesL xs = X at h1 ⊢
    omega
theorem pieces_weight : ∀ (xs : List Thing) (d : Nat), Tidys xs → depths xs ≤ d → ((pieces xs).map (·.length)).sum + (pieces xs).length ≤ 16 * 2 ^ d * nodesL xs
  | [], d, _, _ => by simp [pieces]
  | x :: xs, d, h, hd => by
    rw [depths] at hd
    have h1 := piece_weight x d h.1 (by omega)
    have h2 := pieces_weight xs d h.2 (by omega)
    have e : pieces (x :: xs) = piece x :: pieces xs := by rw [pieces]
    rw [e, List.map_cons, List.sum_cons, List.length_cons, nodesL, Nat.mul_add]
    omega
end
theorem pathFits_of {xs : List Thing} (h : Tidys xs) (hd : depths xs ≤ 4) (hn : nodesL xs ≤ 200) : PathFits xs ∧ Room (pathS xs) := by
  have h1 := pieces_weight xs 4 h hd
  have h3 := pathOf_len (pieces xs)
  rw [← pathS_eq] at h3
  have h4 : 16 * 2 ^ 4 * nodesL xs ≤ 16 * 2 ^ 4 * 200 := Nat.mul_le_mul_left _ hn
  have h5 := hide_len (pathS xs)
  have h6 := hide_mid (pathS xs)
  refine ⟨⟨by omega, by omega⟩, ⟨by omega, by omega, by omega⟩⟩
mutual
theorem fits_of : ∀ (x : Thing), Tidy x → x.depth ≤ 4 → nodes x ≤ 200 → Fits x
  | .text s, h, _, _ => by
    have h5 := hide_len s
    have h6 := hide_mid s
    have h7 := h.1
    exact ⟨by omega, by omega, by omega⟩
  | .list xs, h, hd, hn => by
    rw [Thing.depth] at hd
    rw [nodes] at hn
    obtain ⟨q1, q2⟩ := pathFits_of (xs := xs) h (by omega) (by omega)
    exact ⟨fitsAll_of xs h (by omega) (by omega), q2, q1⟩
theorem fitsAll_of : ∀ (xs : List Thing), Tidys xs → depths xs ≤ 4 → nodesL xs ≤ 200 → FitsAll xs
  | [], _, _, _ => trivial
  | x :: xs, h, hd, hn => by
    rw [depths] at hd
    rw [nodesL] at hn
    exact ⟨fits_of x h.1 (by omega) (by omega), fitsAll_of xs h.2 (by omega) (by omega)⟩
end
/-- a list of the law's kind, of at most n things, however deep -/
structure Small (n : Nat) (xs : List Thing) : Prop where
  tidy : Tidys xs
  depth : depths xs ≤ 3
  nodes : nodesL xs ≤ n
theorem Small.append {n k : Nat} {xs ys : List Thing} (a : Small n xs) (b : Small k ys) : Small (n + k) (xs ++ ys) :=
  ⟨a.tidy.append b.tidy, by rw [depths_append]; exact Nat.max_le.mpr ⟨a.depth, b.depth⟩, by rw [nodesL_append]; exact Nat.add_le_add a.nodes b.nodes⟩
theorem Small.take {n : Nat} {xs : List Thing} (a : Small n xs) (k : Nat) : Small n (xs.take k) := ⟨a.tidy.take k, Nat.le_trans (depths_take xs k) a.depth, Nat.le_trans (nodesL_take xs k) a.nodes⟩
theorem Small.fits {n : Nat} {xs : List Thing} (a : Small n xs) (hn : n ≤ 200) : FitsAll xs ∧ PathFits xs ∧ Oks xs ∧ deeps xs ≤ 3 ∧ depths xs ≤ 3 ∧ xs.length ≤ 200 := by
  have hd : depths xs ≤ 4 := Nat.le_trans a.depth (by decide)
  have hn' := Nat.le_trans a.nodes hn
  exact ⟨fitsAll_of xs a.tidy hd hn', (pathFits_of a.tidy hd hn').1, oks_of_tidy a.tidy, by rw [deeps_depths]; exact a.depth, a.depth, Nat.le_trans (length_nodes xs) hn'⟩

/-! what the law builds is small -/
theorem signs_len : ∀ (e f k : Nat), k < 8 ^ e → (signsL f k).length ≤ e
  | 0, f, k, h => by
    have : k = 0 := by simpa using h
    subst this
    cases f <;> simp [signsL]
  | e + 1, 0, k, _ => by simp [signsL]
  | e + 1, f + 1, k, h => by
    unfold signsL
    by_cases hk : k = 0
    · rw [if_pos hk]; simp
    · rw [if_neg hk, List.length_cons]
      have := signs_len e f (k / 8) (by rw [Nat.pow_succ] at h; omega)
      omega
theorem signs_codes : ∀ (f k : Nat), ∀ c ∈ signsL f k, c < 0x110000
  | 0, _, c, h => by simp [signsL] at h
  | f + 1, k, c, h => by
    unfold signsL at h
    by_cases hk : k = 0
    · rw [if_pos hk] at h; cases h
    · rw [if_neg hk] at h
      rcases List.mem_cons.mp h with rfl | h
      · have h8 : k % 8 < 8 := Nat.mod_lt _ (by decide)
        generalize k % 8 = i at h8
        exact (by decide +kernel : ∀ i < 8, signAt i < 0x110000) i h8
      · exact signs_codes f (k / 8) c h
theorem signs_tidy (z : Int) : Tidy (.text (signsS (z.natAbs % 1000000 / 4))) := by
  have hk : z.natAbs % 1000000 / 4 < 8 ^ 6 := by
    have : z.natAbs % 1000000 < 1000000 := Nat.mod_lt _ (by decide)
    omega
  generalize z.natAbs % 1000000 / 4 = k at hk
  constructor
  · show (signsL k k).toArray.size ≤ 6
    rw [List.size_toArray]
    exact signs_len 6 k k hk
  · show ((signsL k k).toArray.all (· < 0x110000)) = true
    rw [← Array.all_toList, List.all_eq_true]
    intro c hc
    exact decide_eq_true (signs_codes k k c (by simpa using hc))
def stNodes (s0 : List (List Thing)) : Nat := (s0.map nodesL).sum
def StOk : List (List Thing) → Prop
  | [] => True
  | xs :: st => Tidys xs ∧ depths xs + (st.length + 1) ≤ 4 ∧ StOk st
theorem nodesL_single (x : Thing) : nodesL [x] = nodes x := by rw [nodesL, nodesL, Nat.add_zero]
theorem depths_single (x : Thing) : depths [x] = x.depth := by rw [depths, depths]; exact Nat.max_zero _
theorem nest_step_ok {s0 : List (List Thing)} (z : Int) (h : StOk s0) (hne : s0 ≠ []) : StOk (nestStep s0 z) ∧ nestStep s0 z ≠ [] ∧ stNodes s0 ≤ stNodes (nestStep s0 z) ∧ stNodes (nestStep s0 z) ≤ stNodes s0 + 1 := by
  cases s0 with
  | nil => exact absurd rfl hne
  | cons xs st =>
    obtain ⟨h1, h2, h3⟩ := h
    by_cases c1 : z.natAbs % 1000000 % 4 = 0 ∧ st.length + 1 < 4
    · rw [nestStep, if_pos c1]
      refine ⟨⟨trivial, by rw [depths, List.length_cons]; omega, h1, h2, h3⟩, by simp, ?_, ?_⟩ <;> simp [stNodes, nodesL]
    · by_cases c2 : z.natAbs % 1000000 % 4 = 1 ∧ st.length + 1 > 1
      · rw [nestStep, if_neg c1, if_pos c2]
        cases st with
        | nil => simp at c2
        | cons ys st' =>
          obtain ⟨k1, k2, k3⟩ := h3
          rw [List.length_cons] at h2
          refine ⟨⟨k1.append ⟨h1, trivial⟩, ?_, k3⟩, by simp [popStep], ?_, ?_⟩
          · rw [depths_append, depths_single, Thing.depth]
            have : max (depths ys) (depths xs + 1) ≤ 4 - (st'.length + 1) := Nat.max_le.mpr ⟨by omega, by omega⟩
            omega
          · simp only [stNodes, popStep, List.map_cons, List.sum_cons, nodesL_append, nodesL_single, nodes]; omega
          · simp only [stNodes, popStep, List.map_cons, List.sum_cons, nodesL_append, nodesL_single, nodes]; omega
      · rw [nestStep, if_neg c1, if_neg c2]
        refine ⟨⟨h1.append ⟨signs_tidy z, trivial⟩, ?_, h3⟩, by simp, ?_, ?_⟩
        · rw [depths_append, depths_single, Thing.depth, Nat.max_zero]; exact h2
        · simp only [stNodes, List.map_cons, List.sum_cons, nodesL_append]; omega
        · simp only [stNodes, List.map_cons, List.sum_cons, nodesL_append, nodesL_single, nodes]; omega
theorem nest_ok : ∀ (ns : List Int) {s0 : List (List Thing)}, StOk s0 → s0 ≠ [] → StOk (ns.foldl nestStep s0) ∧ ns.foldl nestStep s0 ≠ [] ∧ stNodes s0 ≤ stNodes (ns.foldl nestStep s0) ∧ stNodes (ns.foldl nestStep s0) ≤ stNodes s0 + ns.length
  | [], s0, h, hne => ⟨h, hne, Nat.le_refl _, Nat.le_refl _⟩
  | z :: ns, s0, h, hne => by
    obtain ⟨q1, q2, q3, q4⟩ := nest_step_ok z h hne
    obtain ⟨r1, r2, r3, r4⟩ := nest_ok ns q1 q2
    refine ⟨r1, r2, Nat.le_trans q3 r3, ?_⟩
    rw [List.length_cons, List.foldl_cons]; omega
theorem closeUp_ok : ∀ {st : List (List Thing)} {xs : List Thing}, StOk (xs :: st) → Tidys (closeUp xs st) ∧ depths (closeUp xs st) ≤ 3 ∧ nodesL (closeUp xs st) = stNodes (xs :: st) + st.length
  | [], xs, h => ⟨h.1, by have := h.2.1; simp only [List.length_nil] at this; rw [closeUp]; omega, by simp [closeUp, stNodes]⟩
  | ys :: st, xs, h => by
    obtain ⟨h1, h2, k1, k2, k3⟩ := h
    rw [List.length_cons] at h2
    have hs : StOk ((ys ++ [.list xs]) :: st) := by
      refine ⟨k1.append ⟨h1, trivial⟩, ?_, k3⟩
      rw [depths_append, depths_single, Thing.depth]
      have : max (depths ys) (depths xs + 1) ≤ 4 - (st.length + 1) := Nat.max_le.mpr ⟨by omega, by omega⟩
      omega
    obtain ⟨q1, q2, q3⟩ := closeUp_ok hs
    refine ⟨q1, q2, ?_⟩
    rw [closeUp, q3]
    simp only [stNodes, List.map_cons, List.sum_cons, nodesL_append, nodesL_single, nodes, List.length_cons]; omega
theorem nested_small (ns : List Int) : Small (ns.length + 3) (nestedOf ns) := by
  obtain ⟨h1, h2, _, h4⟩ := nest_ok ns (s0 := [[]]) ⟨trivial, by simp [depths], trivial⟩ (by simp)
  unfold nestedOf
  generalize ns.foldl nestStep [[]] = s1 at h1 h2 h4 ⊢
  cases s1 with
  | nil => exact absurd rfl h2
  | cons xs st =>
    obtain ⟨q1, q2, q3⟩ := closeUp_ok h1
    have h5 : st.length ≤ 3 := by have := h1.2.1; omega
    refine ⟨q1, q2, ?_⟩
    have h6 : stNodes [[]] = 0 := rfl
    show nodesL (closeUp xs st) ≤ _
    omega
theorem nested_ne (ns : List Int) : nestedOf (110 :: ns) ≠ [] := by
  intro e
  have e0 : nestStep [[]] 110 = [[.text (signsS 27)]] := by
    rw [nestStep, if_neg (by decide), if_neg (by decide)]
    rfl
  have t0 : Tidy (.text (signsS 27)) := signs_tidy 110
  obtain ⟨h1, h2, h3, _⟩ := nest_ok ns (s0 := [[.text (signsS 27)]]) ⟨⟨t0, trivial⟩, by simp [depths, Thing.depth], trivial⟩ (by simp)
  unfold nestedOf at e
  rw [List.foldl_cons, e0] at e
  generalize ns.foldl nestStep [[.text (signsS 27)]] = s1 at h1 h2 h3 e
  cases s1 with
  | nil => exact absurd rfl h2
  | cons xs st =>
    have e : closeUp xs st = [] := e
    obtain ⟨_, _, q3⟩ := closeUp_ok h1
    rw [e] at q3
    have h6 : stNodes [[.text (signsS 27)]] = 1 := rfl
    rw [nodesL] at q3
    omega
end
noncomputable section
open PySem PySem.W PyProof.Rows PySem.Spec PySem.Calls
theorem ints_of : ∀ {zs : List Value}, (∀ v ∈ zs, ∃ n t, v = .int n t) → ∃ ms, IntsAre zs ms
  | [], _ => ⟨[], .nil⟩
  | z :: zs, h => by
    obtain ⟨n, t, rfl⟩ := h z List.mem_cons_self
    obtain ⟨ms, r⟩ := ints_of fun v hv => h v (List.mem_cons_of_mem _ hv)
    exact ⟨n :: ms, .cons n t r⟩
theorem ints_mem : ∀ {vs : List Value} {ns : List Int}, IntsAre vs ns → ∀ v ∈ vs, ∃ n t, v = .int n t
  | _, _, .nil, v, h => nomatch h
  | _, _, .cons n t r, v, h => by
    rcases List.mem_cons.mp h with rfl | h
    · exact ⟨n, t, rfl⟩
    · exact ints_mem r v h
section
variable {prog : Program} {w : World} {A : Around} {E : Value → Shared → Prop} {s : Shared} {h₀ : Heap} {L l : Addr} {m : Str → Option Value} {news : List (Addr × Obj)} {value slice : PySem.Expr} {vs : List Value} {ns : List Int} {vl vu vk : Value} {lo hi st : Option Int} {Q : Value → Shared → Prop} {ops : List Value}
theorem slice3_ints (F : Fr h₀ L s.heap m) (N : News h₀ L s.heap news) (hl : s.heap.IsList l vs.toArray) (hi' : IntsAre vs ns) (pl : IsPart vl lo) (pu : IsPart vu hi) (pk : IsPart vk st) (h0 : st ≠ some 0)
    (h : ∀ D ws ms h', Fr h₀ L h' m → News h₀ L h' ((D, listOf (List.toArray ws) 0) :: news) → (∀ p ∈ news, p.1 < D) → IntsAre ws ms → ms.length ≤ ns.length → Q (.ref D) { s with heap := h' })
    (hs : subscripted slice false (.ref l) (.ref s.heap.objs.size) = operate ops (getItem (.ref l) (.ref s.heap.objs.size))) (ht : ∀ r, letTemporaryGo value (.ref l) r = pure ()) (hz : vs.toArray.size ≤ sizeLine) :
    wpAny (model prog w) A (subscriptTail value slice (.ref l) (.ref s.heap.objs.size)) Q E { s with heap := s.heap.push { cls := .type "slice", data := .fields #[vl, vu, vk] } } := by
  refine kmk_slice3_lit F N hl pl pu pk h0 (zs := (slicePick vs.toArray lo hi st).toList) rfl (fun D h' F' N' l1 => ?_) hs ht hz
  obtain ⟨ms, hm⟩ := ints_of (zs := (slicePick vs.toArray lo hi st).toList) fun v hv => by
    unfold slicePick at hv
    rw [List.toList_toArray, List.mem_filterMap] at hv
    obtain ⟨i, _, hi2⟩ := hv
    exact ints_mem hi' v (by have := Array.mem_of_getElem? hi2; simpa using this)
  refine h D _ ms h' F' N' l1 hm ?_
  have q := slicePick_size_le vs.toArray lo hi st
  rw [← hm.length, ← hi'.length, Array.length_toList]
  simpa using q
end
theorem first_does (w mean mg mb) (l : Addr) (ns : List Int) (hns : ns.length ≤ 30) :
    Does w mean mg mb 171 10 [.ref l] (fun h => ∃ vs, h.IsList l vs.toArray ∧ IntsAre vs ns)
      (fun h h' r => ∃ (tl : List (Addr × Obj)) (X : List Thing) (a : Addr) (vs : List Value) (n : Nat), r = .ref a ∧ (∀ p ∈ tl, h'.get? p.1 = some p.2 ∧ h.get? p.1 = none) ∧ (a, W.listOf vs.toArray n) ∈ tl ∧ AtAll (fun b o => (b, o) ∈ tl) X vs ∧ Small (ns.length + 3) X ∧ X = nestedOf ns) := by
  refine Does.weaken (nested_does w mean mg mb l ns hns) (Nat.le_refl _) (fun _ h => h) fun h h' r _ hP => ?_
  obtain ⟨tl, h1, a, vs, n, rfl, h2, h3⟩ := hP
  exact ⟨tl, nestedOf ns, a, vs, n, rfl, h1, h2, h3, nested_small ns, rfl⟩
theorem News.addEnd {h₀ h hs : Heap} {L : Addr} {m : Str → Option Value} {news tl : List (Addr × Obj)} (N : News h₀ L h news) (F : Fr h₀ L hs m) (ht : ∀ p ∈ tl, h.get? p.1 = some p.2 ∧ hs.get? p.1 = none) : News h₀ L h (news ++ tl) := by
  intro p hp
  rcases List.mem_append.mp hp with hp | hp
  · exact N p hp
  · exact News.addAll (news := []) News.nil F ht p (List.mem_append_left _ hp)
theorem offs_of {h₀ h hs : Heap} {L : Addr} {news tl : List (Addr × Obj)} (N : News h₀ L hs news) (ht : ∀ p ∈ tl, h.get? p.1 = some p.2 ∧ hs.get? p.1 = none) {c : Addr} {o : Obj} (hm : (c, o) ∈ news) : ∀ p ∈ tl, p.1 ≠ c := fun p hp e => by
  have := (N _ hm).1
  rw [← e, (ht p hp).2] at this
  cases this
section
variable {w : World} {mean : ExcName → Option Value} {mg mb : Str → Option Value} {f : Addr} {n : Nat} {vs : List Value}
    {Pre : Heap → Prop} {Post : Heap → Heap → Value → Prop} {cn : Str} {cs : Scope} {a : Addr} {ccd : Value} {h₀ : Heap} {L : Addr} {m : Str → Option Value} {s : Shared} {Q E : Value → Shared → Prop} {news : List (Addr × Obj)}
theorem Does.useL (C : Does w mean mg mb f n vs Pre Post) (F : Fr h₀ L s.heap m) (X : (hd.heap_39 w.params).In h₀) (N : News h₀ L s.heap news)
    (T : Top hd.view_39 LP mean mg mb h₀) (hk : cs.kind = .function) (hn : n ≤ 20) (ht : 0 < s.toks) (hp : Pre s.heap)
    (ret : ∀ r h' tk', s.heap.StaysIn h' → Fr h₀ L h' m → News h₀ L h' news → s.toks ≤ tk' → Post s.heap h' r → Q r { s with heap := h', toks := tk' }) :
    wpAny (model PySem.Challenge.rw_il0066_01.row.prog w) (callerA.deeper (envOfC cn cs L a ccd)) (call (.ref f) vs) Q E s := by
  have h1 : 1 + claimMargin + 1 + 20 < recursionLimit := by decide
  have h2 : 4 + 3 + 8 * 20 < cLine := by decide
  exact Does.use C (cl := cellsFrom (L + 1) cs.names []) (outer := []) (gd := some []) (dp := 1 + claimMargin + 1) (un := 4 + 3) (below_caller h₀) F X N T hk (by omega) (by omega) ht hp ret
end
theorem News.drop {h₀ h : Heap} {L : Addr} {news : List (Addr × Obj)} (N : News h₀ L h news) (k : Nat) : News h₀ L h (news.drop k) := fun p hp => N p (List.mem_of_mem_drop hp)
theorem News.keep1 {h₀ h : Heap} {L : Addr} {x : Addr × Obj} {rest : List (Addr × Obj)} (N : News h₀ L h (x :: rest)) (k : Nat) : News h₀ L h (x :: rest.drop k) := fun p hp => N p (by
  rcases List.mem_cons.mp hp with rfl | hp
  · exact List.mem_cons_self
  · exact List.mem_cons_of_mem _ (List.mem_of_mem_drop hp))
def Offs (tl : List (Addr × Obj)) (as : List Addr) : Prop := ∀ p ∈ tl, ∀ c ∈ as, p.1 ≠ c
theorem Offs.all {tl : List (Addr × Obj)} {as : List Addr} {c : Addr} (h : Offs tl as) (hm : c ∈ as) : ∀ p ∈ tl, p.1 ≠ c := fun p hp => h p hp _ hm
theorem Offs.of {h₀ h hs : Heap} {L : Addr} {news tl : List (Addr × Obj)} (N : News h₀ L hs news) (ht : ∀ p ∈ tl, h.get? p.1 = some p.2 ∧ hs.get? p.1 = none) : Offs tl (news.map (·.1)) := fun p hp c hc => by
  obtain ⟨q, hq, rfl⟩ := List.mem_map.mp hc
  exact offs_of N ht (c := q.1) (o := q.2) hq p hp
theorem Offs.more {h₀ h hs : Heap} {L : Addr} {news tl t1 : List (Addr × Obj)} {as : List Addr} (a : Offs t1 as) (N : News h₀ L hs news) (ht : ∀ p ∈ tl, h.get? p.1 = some p.2 ∧ hs.get? p.1 = none) (hm : ∀ c ∈ as, ∃ o, (c, o) ∈ news) : Offs (t1 ++ tl) as := fun p hp c hc => by
  rcases List.mem_append.mp hp with hp | hp
  · exact a p hp c hc
  · obtain ⟨o, ho⟩ := hm c hc
    exact offs_of N ht ho p hp
theorem four_mem {a b c d : Addr} {P : Addr → Prop} (ha : P a) (hb : P b) (hc : P c) (hd : P d) : ∀ x ∈ [a, b, c, d], P x := by
  intro x hx
  simp only [List.mem_cons, List.not_mem_nil, or_false] at hx
  rcases hx with rfl | rfl | rfl | rfl <;> assumption
theorem pick_int {vs : List Value} {k : Int} (h : 0 ≤ k) : kms_pick vs.toArray.toList none (some k) = vs.take k.toNat := by
  obtain ⟨i, rfl⟩ := Int.eq_ofNat_of_zero_le h
  exact pick_upto
theorem kept_nonneg (a : Int) (n : Nat) : 0 ≤ Int.fmod a ((n : Int) + 1) := Int.fmod_nonneg_of_pos _ (by omega)
theorem hat_of {h₀ h : Heap} {L a : Addr} {news tl : List (Addr × Obj)} {X : List Thing} {vs : List Value} {n : Nat} (N : News h₀ L h news) (hm : (a, W.listOf vs.toArray n) ∈ news) (hr : AtAll (fun b o => (b, o) ∈ tl) X vs) (hs : ∀ p ∈ tl, p ∈ news) : HAt h (.list X) (.ref a) :=
  ⟨a, vs, n, rfl, (N _ hm).1, AtAll.mono (fun b o q => (N _ (hs _ q)).1) X hr⟩
theorem AtAll.left {t1 t2 : List (Addr × Obj)} {X : List Thing} {vs : List Value} (h : AtAll (fun b o => (b, o) ∈ t1) X vs) : AtAll (fun b o => (b, o) ∈ t1 ++ t2) X vs := AtAll.mono (fun _ _ q => List.mem_append_left _ q) X h
theorem AtAll.right {t1 t2 : List (Addr × Obj)} {X : List Thing} {vs : List Value} (h : AtAll (fun b o => (b, o) ∈ t2) X vs) : AtAll (fun b o => (b, o) ∈ t1 ++ t2) X vs := AtAll.mono (fun _ _ q => List.mem_append_right _ q) X h
/-! a comprehension of texts over range(n) -/
abbrev rgO (n : Int) (t u v : Tok) : Obj := { cls := .type "range", data := .fields #[.int 0 t, .int n u, .int 1 v] }
def RgSrc (h₀ : Heap) (L : Addr) (m : Str → Option Value) (news : List (Addr × Obj)) (n : Nat) (s : Shared) (x : Value) (s₁ : Shared) : Prop :=
  ∃ r t u v h' tk, x = .ref r ∧ s₁ = { s with heap := h', toks := tk } ∧ s.toks ≤ tk ∧ Fr h₀ L h' m ∧ News h₀ L h' ((r, rgO n t u v) :: news)
section
variable {prog : Program} {w : World} {A : Around} {s : Shared} {env : Env} {h₀ : Heap} {L : Addr} {m : Str → Option Value} {news : List (Addr × Obj)} {Q : Value → Shared → Prop} {E : Value → Shared → Prop}
theorem range_K {n : Int} {t : Tok} (F : Fr h₀ L s.heap m) (N : News h₀ L s.heap news) (h : ∀ D h' t u v tk, s.toks ≤ tk → Fr h₀ L h' m → News h₀ L h' ((D, rgO n t u v) :: news) → Q (.ref D) { s with heap := h', toks := tk }) :
    wpAny (model prog w) A (call (.type "range") [.int n t]) Q E s :=
  call_range_1 (h _ _ _ _ _ _ (by omega) (F.push _) (N.push F _))
def CEnd (h₀ : Heap) (L : Addr) (m : Str → Option Value) (s₁ : Shared) (keep : List (Addr × Obj)) (R : Value → Prop) (y : Value) (s₂ : Shared) : Prop :=
  ∃ h' tk, s₂ = { s₁ with heap := h', toks := tk } ∧ Fr h₀ L h' m ∧ News h₀ L h' keep ∧ R y
theorem CEnd.intro {h₀ h' : Heap} {L : Addr} {m : Str → Option Value} {s₁ : Shared} {keep all : List (Addr × Obj)} {R : Value → Prop} {y : Value} {tk : Nat} (F : Fr h₀ L h' m) (N : News h₀ L h' all) (sub : ∀ p ∈ keep, p ∈ all) (r : R y) :
    CEnd h₀ L m s₁ keep R y { s₁ with heap := h', toks := tk } := ⟨h', tk, rfl, F, fun p hp => N p (sub p hp), r⟩
theorem comp_range {elt iter : PySem.Expr} {x : Str} {px : Pos} {scope : Scope} {cl : List (Str × Addr)} {pos : Pos} {n : Nat} (f : Nat → Str)
    (hh : A.handled = none) (hclos : closureFor scope env = pure cl) (hcell : ∀ y ∈ scope.names, y.2 ≠ .cell) (hkind : scope.kind = .function)
    (hnames : ∀ y ∈ scope.names, y.2 = .local → scope.names.lookup y.1 = some .local) (hx : scope.names.lookup x = some .local) (hs : ∀ x, foldedSetIterable iter env x = pure x) (hn : n ≤ 1000) (F₉ : Fr h₀ L s.heap m) (N₉ : News h₀ L s.heap news)
    (hiter : wpAny (model prog w) A (eval iter env) (RgSrc h₀ L m news n s) E s)
    (helt : ∀ (i : Nat) ti I oI C oC D oD m₂ h tk E', i < n → LCg.NsObj oC m₂ → m₂ x = some (.int i ti) → s.toks ≤ tk → Fr h₀ L h m → News h₀ L h ((I, oI) :: (C, oC) :: (D, oD) :: news) →
      wpAny (model prog w) A (eval elt (compEnvC scope cl C env)) (CEnd h₀ L m { s with heap := h, toks := tk } ((I, oI) :: (C, oC) :: (D, oD) :: news) (fun y => ∃ t, y = .str (f i) t)) E' { s with heap := h, toks := tk })
    (hQ : ∀ D h' tk us n', s.toks ≤ tk → us.map (fun x => x.fst) = (List.range n).map f → Fr h₀ L h' m → News h₀ L h' ((D, listOf (strValues us).toArray n') :: news) → Q (.ref D) { s with heap := h', toks := tk }) :
    wpAny (model prog w) A (eval (.ListComp elt [⟨.Name x px, iter, [], 0⟩] scope pos) env) Q E s := by
  rw [eval_ListComp]
  refine wpAny_comprehension_free (use := none) rfl hs hclos hkind hnames (wpAny_mono hiter (fun xv s₁ h₁ => ?_) fun _ _ e => e)
  obtain ⟨r, t, u, v, H, tk₁, rfl, rfl, htk₁, F₁, N₁⟩ := h₁
  have hr : IsRange H r 0 n 1 t u v := (N₁ _ (List.Mem.head _)).1
  have N₁' : News h₀ L H news := fun p hp => N₁ p (List.mem_cons_of_mem _ hp)
  have hsz : Builtin.Range.rangeSize 0 (n : Int) 1 = ((n : Nat) : Int) := by
    unfold Builtin.Range.rangeSize
    rw [if_pos (by decide)]
    split
    · rw [Int.ediv_one]; omega
    · omega
  refine wpAny_pyIter_range hr (small_one (by decide) (by decide) (by omega) (by omega)) ?_
  rw [hsz]
  refine wpAny_newObj_type (wpAny_newFunctionEnv hcell (by intro y hy; simp at hy) (fun h₁ hns₁ hsb₁ => ?_) hkind)
  dsimp only at hns₁ hsb₁ ⊢
  generalize hH1 : H.push { cls := .type "range_iterator", data := .fields #[rawInt 0, rawInt n, rawInt 1] } = H1 at hns₁ hsb₁ ⊢
  generalize hH2 : H1.push { cls := .type "list", dict := none, data := .seq ([] : List Value).toArray } = H2 at hns₁ hsb₁ ⊢
  have z1 : H1.objs.size = H.objs.size + 1 := by rw [← hH1, Heap.size_push]
  have z2 : H2.objs.size = H.objs.size + 2 := by rw [← hH2, Heap.size_push, z1]
  have c2 : ∀ b o, b < H.objs.size + 2 → H2.get? b = some o → h₁.get? b = some o := fun b o hb e => (hsb₁.2 b (by rw [z2]; exact Nat.ne_of_lt hb)).trans (Heap.get?_push_of_some _ e)
  have up1 : ∀ b o, H.get? b = some o → H1.get? b = some o := fun b o e => hH1 ▸ Heap.get?_push_of_some _ e
  have up2 : ∀ b o, H1.get? b = some o → H2.get? b = some o := fun b o e => hH2 ▸ Heap.get?_push_of_some _ e
  have old : H.StaysIn h₁ := fun b o e => c2 b o (Nat.lt_add_right 2 (Heap.lt_size e)) (up2 b o (up1 b o e))
  have hI : IsRangeIter h₁ H.objs.size 0 n 1 := c2 _ _ (Nat.lt_add_of_pos_right (by decide)) (up2 _ _ (hH1 ▸ Heap.get?_push_size _ rfl))
  have hD : h₁.get? H1.objs.size = some { cls := .type "list", data := .seq ([] : List Value).toArray } := c2 _ _ (by rw [z1]; omega) (hH2 ▸ Heap.get?_push_size _ rfl)
  have fresh : ∀ a, H.objs.size ≤ a → h₀.get? a = none ∧ a ≠ L := fun a ha => by
    refine ⟨?_, fun e => ?_⟩
    · cases e : h₀.get? a with
      | none => rfl
      | some o' => exact absurd (Heap.lt_size (F₁.keep a o' e)) (Nat.not_lt.mpr ha)
    · have := F₁.ns.lt
      rw [e] at ha
      exact absurd this (Nat.not_lt.mpr ha)
  have fI := fresh _ (Nat.le_refl _)
  have fD := fresh H1.objs.size (by rw [z1]; omega)
  have fC := fresh H2.objs.size (by rw [z2]; omega)
  have nID : H.objs.size ≠ H1.objs.size := by rw [z1]; exact Nat.ne_of_lt (Nat.lt_succ_self _)
  have nIC : H.objs.size ≠ H2.objs.size := by rw [z2]; exact Nat.ne_of_lt (by omega)
  have nDC : H1.objs.size ≠ H2.objs.size := by rw [z1, z2]; exact Nat.ne_of_lt (Nat.lt_succ_self _)
  have offI : ∀ p ∈ news, p.1 ≠ H.objs.size := fun p hp => Nat.ne_of_lt (Heap.lt_size (N₁' p hp).1)
  have offD : ∀ p ∈ news, p.1 ≠ H1.objs.size := fun p hp => by rw [z1]; exact Nat.ne_of_lt (Nat.lt_succ_of_lt (Heap.lt_size (N₁' p hp).1))
  have offC : ∀ p ∈ news, p.1 ≠ H2.objs.size := fun p hp => by rw [z2]; exact Nat.ne_of_lt (Nat.lt_add_right 2 (Heap.lt_size (N₁' p hp).1))
  have W := LCg.range_walks (prog := prog) (w := w) (A := A) (I := H.objs.size) hh 0 n
  have loop : ∀ s₃ : Shared, s₃ = { s with heap := h₁, toks := tk₁ + ([] : List (Str × Value)).length } →
      codeAny (model prog w) A (.compLoop (.ListComp elt [⟨.Name x px, iter, [], 0⟩] scope pos) 0 (.ref H.objs.size) (.ref H1.objs.size) (compEnvC scope cl H2.objs.size env))
        (compPost (model prog w) A E none Q (.ref H1.objs.size) H2.objs.size) s₃ := by
    rintro s₃ rfl
    refine codeAny_compLoop_tests
      (fun k s' => ∃ h' tk i us oI oC m', s' = { s with heap := h', toks := tk } ∧ s.toks ≤ tk ∧ i ≤ n ∧ k = n + 1 - i ∧ us.map (fun x => x.fst) = (List.range i).map f ∧ IsRangeIter h' H.objs.size (0 + (i : Nat) * 1) ((n : Int) - (i : Nat)) 1 ∧ LCg.NsObj oC m' ∧ Fr h₀ L h' m ∧
        News h₀ L h' ((H.objs.size, oI) :: (H2.objs.size, oC) :: (H1.objs.size, LCg.lst (strValues us)) :: news)) ?_ (n + 1) ?_
    · rintro k s' ⟨h', tk, i, us, oI, oC, m', rfl, htk, hi, rfl, hus, hit, hoC, F', N'⟩
      have nI := N' _ List.mem_cons_self
      have nC := N' _ (List.mem_cons_of_mem _ List.mem_cons_self)
      have nD := N' _ (List.mem_cons_of_mem _ (List.mem_cons_of_mem _ List.mem_cons_self))
      have nN : ∀ p ∈ news, h'.get? p.1 = some p.2 ∧ p.1 ≠ L ∧ h₀.get? p.1 = none := fun p hp => N' p (List.mem_cons_of_mem _ (List.mem_cons_of_mem _ (List.mem_cons_of_mem _ hp)))
      have old0 : ∀ b o, h₀.get? b = some o → b ≠ H.objs.size ∧ b ≠ H2.objs.size ∧ b ≠ H1.objs.size := fun b o e => ⟨(fun q => by rw [q, fI.1] at e; cases e), (fun q => by rw [q, fC.1] at e; cases e), (fun q => by rw [q, fD.1] at e; cases e)⟩
      by_cases hlt : i < n
      · refine wpAny_toks_up (W.item i _ _ _ hlt hit fun v h₂ tk₂ hPv hst₂ hk₂ => ?_)
        intro htk₂
        obtain ⟨ti, rfl⟩ := hPv
        have ei : (0 : Int) + ((i : Nat) : Int) = ((i : Nat) : Int) := by omega
        rw [ei]
        have k₂ : ∀ b o, b ≠ H.objs.size → h'.get? b = some o → h₂.get? b = some o := fun b o hb e => hk₂ b o (by simpa using hb) e
        refine wpAny_assign_Name (wpAny_storeName_local (lookup_relabel_local hx) ((hoC.ns (k₂ _ _ (Ne.symm nIC) nC.1))) (fun h₃ hn₃ hs₃ => ?_) (by simp [compEnvC, relabel, hkind]))
        refine wpAny_tests_nil ?_
        simp only [if_true]
        obtain ⟨oC₃, heC, hoC₃⟩ := LCg.ns_obj hn₃
        have k₃ : ∀ b o, b ≠ H.objs.size → b ≠ H2.objs.size → h'.get? b = some o → h₃.get? b = some o := fun b o b1 b2 e => (hs₃.2 b b2).trans (k₂ b o b1 e)
        have hit₃ : IsRangeIter h₃ H.objs.size _ _ 1 := (hs₃.2 _ nIC).trans hst₂
        have F₃ : Fr h₀ L h₃ m := ⟨F'.ns.at' fun o e => k₃ _ o (Ne.symm fI.2) (Ne.symm fC.2) e, fun b o e => k₃ b o (old0 b o e).1 (old0 b o e).2.1 (F'.keep b o e), F'.above⟩
        have N₃ : News h₀ L h₃ ((H.objs.size, _) :: (H2.objs.size, oC₃) :: (H1.objs.size, LCg.lst (strValues us)) :: news) := fun p hp => by
          rcases List.mem_cons.mp hp with rfl | hp
          · exact ⟨hit₃, nI.2⟩
          · rcases List.mem_cons.mp hp with rfl | hp
            · exact ⟨heC, nC.2⟩
            · rcases List.mem_cons.mp hp with rfl | hp
              · exact ⟨k₃ _ _ (Ne.symm nID) nDC nD.1, nD.2⟩
              · exact ⟨k₃ _ _ (offI p hp) (offC p hp) (nN p hp).1, (nN p hp).2⟩
        have htk₃ : tk ≤ tk₂ := htk₂
        refine wpAny_toks_up ?_
        refine wpAny_mono (helt i ti _ _ _ _ _ _ _ h₃ (tk₂ + 1) _ hlt hoC₃ (by simp) (by omega) F₃ N₃) (fun y s₄ h₄ => ?_) fun _ _ e => e
        intro htk₄
        obtain ⟨h₅, tk₅, rfl, F₅, N₅, t', rfl⟩ := h₄
        have htk₅ : tk₂ + 1 ≤ tk₅ := htk₄
        have mI := N₅ _ List.mem_cons_self
        have mC := N₅ _ (List.mem_cons_of_mem _ List.mem_cons_self)
        have mD := N₅ _ (List.mem_cons_of_mem _ (List.mem_cons_of_mem _ List.mem_cons_self))
        refine append_at (hsz := by show (strValues us).toArray.size ≤ sizeLine; rw [List.size_toArray, strValues_len]; have := congrArg List.length hus; simp at this; rw [sizeLine_eq]; omega) mD.1 fun h₆ hs₆ hD₆ => ?_
        refine ⟨n + 1 - (i + 1), by omega, h₆, tk₅, i + 1, us ++ [(f i, t')], { cls := .type "range_iterator", data := .fields #[rawInt (0 + ((i + 1 : Nat) : Int) * 1), rawInt ((n : Int) - ((i + 1 : Nat) : Int)), rawInt 1] }, oC₃, _, rfl, by omega, hlt, rfl, ?_, (hs₆.2 _ nID).trans (by rw [show (0 : Int) + ((i + 1 : Nat) : Int) * 1 = _ from rfl]; exact mI.1), hoC₃, F₅.change hs₆ fD.2 fD.1, fun p hp => ?_⟩
        · rw [List.map_append, hus, List.range_succ, List.map_append]; rfl
        · rcases List.mem_cons.mp hp with rfl | hp
          · exact ⟨(hs₆.2 _ nID).trans mI.1, mI.2⟩
          · rcases List.mem_cons.mp hp with rfl | hp
            · exact ⟨(hs₆.2 _ (Ne.symm nDC)).trans mC.1, mC.2⟩
            · rcases List.mem_cons.mp hp with rfl | hp
              · refine ⟨hD₆.trans (congrArg some ?_), mD.2⟩
                have := LCg.lst_snoc (strValues us) (.str (f i) t')
                rw [this]
                simp [strValues]
              · have q := N₅ p (List.mem_cons_of_mem _ (List.mem_cons_of_mem _ (List.mem_cons_of_mem _ hp)))
                exact ⟨(hs₆.2 _ (offD p hp)).trans q.1, q.2⟩
      · obtain rfl : i = n := Nat.le_antisymm hi (Nat.not_lt.mp hlt)
        refine wpAny_toks_up (W.done _ _ _ hit fun h₂ tk₂ hk₂ => ?_)
        intro htk₂
        have k₂ : ∀ b o, b ≠ H.objs.size → h'.get? b = some o → h₂.get? b = some o := fun b o hb e => hk₂ b o (by simpa using hb) e
        refine ⟨m', hoC.ns (k₂ _ _ (Ne.symm nIC) nC.1), fun h'' hs'' => ?_⟩
        have htk₃ : tk ≤ tk₂ := htk₂
        have k₃ : ∀ b o, b ≠ H.objs.size → b ≠ H2.objs.size → h'.get? b = some o → h''.get? b = some o := fun b o b1 b2 e => (hs''.2 b b2).trans (k₂ b o b1 e)
        have F₃ : Fr h₀ L h'' m := ⟨F'.ns.at' fun o e => k₃ _ o (Ne.symm fI.2) (Ne.symm fC.2) e, fun b o e => k₃ b o (old0 b o e).1 (old0 b o e).2.1 (F'.keep b o e), F'.above⟩
        refine hQ _ h'' tk₂ us (strValues us).length (by omega) hus F₃ fun p hp => ?_
        rcases List.mem_cons.mp hp with rfl | hp
        · exact ⟨k₃ _ _ (Ne.symm nID) nDC nD.1, nD.2⟩
        · exact ⟨k₃ _ _ (offI p hp) (offC p hp) (nN p hp).1, (nN p hp).2⟩
    · obtain ⟨oC, heC, hoC⟩ := LCg.ns_obj hns₁
      refine ⟨h₁, _, 0, [], { cls := .type "range_iterator", data := .fields #[rawInt 0, rawInt n, rawInt 1] }, oC, _, rfl, htk₁, Nat.zero_le _, rfl, rfl, by simpa using hI, hoC, F₁.keeps old, fun p hp => ?_⟩
      rcases List.mem_cons.mp hp with rfl | hp
      · exact ⟨hI, fI.2, fI.1⟩
      · rcases List.mem_cons.mp hp with rfl | hp
        · exact ⟨heC, fC.2, fC.1⟩
        · rcases List.mem_cons.mp hp with rfl | hp
          · exact ⟨hD, fD.2, fD.1⟩
          · exact (N₁'.grown old) p hp
  exact codeAny_compStart_list (loop _ rfl) (wpAny_pyIter_rangeiter hI (loop _ rfl))
end
end
noncomputable section
open PySem PySem.W PyProof.Rows PySem.Spec PySem.Calls
/-! the plain laws, as the walk asks them -/
theorem normS_self (xs : List Thing) : normS (pathS xs) = pathS xs := by
  rw [pathS_eq, normS_path (fun d hd => (pieces_comp xs d hd).2), norm_all (pieces_kept xs)]
  rfl
theorem normL_self (xs : List Thing) : normL (pathS xs) = pieces xs := by
  rw [pathS_eq, normL_path (fun d hd => (pieces_comp xs d hd).2), norm_all (pieces_kept xs)]
  rfl
theorem path_pos (cs : List Str) : ((pathOf cs).length : Int) ≠ 0 := by
  rw [← cl_length, path_cl, List.length_cons]; omega
theorem norm_path_does (w mean mg mb) (xs : List Thing) (t : Tok) (hp : PathFits xs) :
    Does w mean mg mb 152 3 [.str (pathS xs) t] (fun _ => True) (fun _ _ r => ∃ t', r = .str (pathS xs) t') := by
  have h := normpath_does w mean mg mb (pathS xs) t (Nat.le_trans hp.1 (by decide)) (norm_h1 _) (norm_h2 (pieces_comp xs)) (path_pos _) ⟨by rw [normL_self]; exact Nat.le_trans hp.2 (by decide)⟩
  rw [normS_self] at h
  exact h
theorem comp_dd : Comp (Str.ofString "..") := by rw [ddE]; exact ⟨by simp [cl], by simp [cl]⟩
theorem path_bound {cs : List Str} {B : Nat} (h : (cs.map (·.length)).sum + cs.length ≤ B) : (pathOf cs).length ≤ B + 1 := by
  have := pathOf_len cs; omega
theorem sum_take (cs : List Str) : ∀ i, ((cs.take i).map (·.length)).sum + (cs.take i).length ≤ (cs.map (·.length)).sum + cs.length := by
  induction cs with
  | nil => intro i; simp
  | cons c cs ih =>
    intro i
    cases i with
    | zero => simp
    | succ i => rw [List.take_succ_cons, List.map_cons, List.map_cons, List.sum_cons, List.sum_cons, List.length_cons, List.length_cons]; have := ih i; omega
theorem sum_mem {cs : List Str} {c : Str} (h : c ∈ cs) : c.length ≤ (cs.map (·.length)).sum + cs.length := by
  induction cs with
  | nil => cases h
  | cons d cs ih =>
    rw [List.map_cons, List.sum_cons, List.length_cons]
    rcases List.mem_cons.mp h with rfl | h
    · omega
    · have := ih h; omega
/-- reduce(join, ..) over components, from a path -/
theorem reduce_path_does (w mean mg mb) (a0 : Addr) (us : List (Str × Tok)) (cs : List Str) (t : Tok) {qs : List Str} (hq : us.map (fun x => x.fst) = qs) (hc : ∀ c ∈ cs, Comp c) (hqs : ∀ c ∈ qs, Comp c)
    (hB : ((cs ++ qs).map (·.length)).sum + (cs ++ qs).length ≤ 900000) :
    Does w mean mg mb 37 3 [.ref 131, .ref a0, .str (pathOf cs) t] (fun h => h.IsList a0 (strValues us).toArray) (fun h h' r => ∃ t', r = .str (pathOf (cs ++ qs)) t') := by
  subst hq
  rw [List.map_append, List.sum_append, List.length_append] at hB
  have h := reduce_does w mean mg mb a0 us (pathOf cs) t ⟨fun i => by
    rw [joinAll_path hc (fun c hcm => hqs c (List.mem_of_mem_take hcm))]
    have h1 := sum_take (us.map (fun x => x.fst)) i
    have h2 := path_bound (cs := cs ++ (us.map (fun x => x.fst)).take i) (B := 900000) (by
      rw [List.map_append, List.sum_append, List.length_append]
      omega)
    omega⟩ ⟨fun p hp => by
    have := sum_mem (c := p.1) (List.mem_map.mpr ⟨p, hp, rfl⟩ : p.1 ∈ us.map (fun x => x.fst))
    omega⟩
  rw [joinAll_path hc hqs] at h
  exact h
theorem dd_sum (n : Nat) : ((List.replicate n (Str.ofString "..")).map (·.length)).sum = 2 * n := by
  induction n with
  | zero => rfl
  | succ n ih =>
    rw [List.replicate_succ, List.map_cons, List.sum_cons, ih, show (Str.ofString "..").length = 2 from by decide]; omega
/-- normpath of a climb -/
theorem norm_climb_does (w mean mg mb) (cs ds : List Str) (up : Nat) (t : Tok) (h1 : ∀ c ∈ cs, Kept c) (h2 : ∀ c ∈ ds, Kept c) (hu : up ≤ 1000) (hc : (cs.map (·.length)).sum + cs.length ≤ 300000) (hd : (ds.map (·.length)).sum + ds.length ≤ 300000) :
    Does w mean mg mb 152 3 [.str (pathOf (cs ++ (List.replicate up (Str.ofString "..") ++ ds))) t] (fun _ => True) (fun _ _ r => ∃ t', r = .str (pathOf (cs.take (cs.length - up) ++ ds)) t') := by
  have hcomp : ∀ c ∈ cs ++ (List.replicate up (Str.ofString "..") ++ ds), Comp c := by
    intro c hc
    rcases List.mem_append.mp hc with hc | hc
    · exact (h1 c hc).1
    · rcases List.mem_append.mp hc with hc | hc
      · rw [(List.mem_replicate.mp hc).2]; exact comp_dd
      · exact (h2 c hc).1
  have hsl : ∀ c ∈ cs ++ (List.replicate up (Str.ofString "..") ++ ds), 47 ∉ cl c := fun c hc => (hcomp c hc).2
  have e : (cs ++ (List.replicate up (Str.ofString "..") ++ ds)).foldl normStep [] = cs.take (cs.length - up) ++ ds := by
    rw [List.foldl_append, List.foldl_append, norm_all h1, List.nil_append, norm_ups up h1, norm_all h2]
  have hl : (pathOf (cs ++ (List.replicate up (Str.ofString "..") ++ ds))).length ≤ 1000000 := by
    have := path_bound (cs := cs ++ (List.replicate up (Str.ofString "..") ++ ds)) (B := 900000) (by
      rw [List.map_append, List.map_append, List.sum_append, List.sum_append, List.length_append, List.length_append, dd_sum, List.length_replicate]
      omega)
    omega
  have h := normpath_does w mean mg mb (pathOf (cs ++ (List.replicate up (Str.ofString "..") ++ ds))) t hl (norm_h1 _) (norm_h2 hcomp) (path_pos _) ⟨by
    rw [normL_path hsl, e, List.map_append, List.sum_append, List.length_append]
    have := sum_take cs (cs.length - up)
    omega⟩
  rw [normS_path hsl, e] at h
  exact h
theorem comps_full {cs : List Str} (h : ∀ c ∈ cs, Kept c) : compsS (pathOf cs) = cs := by
  unfold compsS
  have e1 : pathOf cs = PySem.Str.join ⟨#[47]⟩ (PySem.Str.empty :: (if cs = [] then [PySem.Str.empty] else cs)) := by
    apply ext_cl
    rw [path_cl]
    by_cases h0 : cs = []
    · subst h0
      rw [if_pos rfl]
      decide +kernel
    · rw [if_neg h0]
      cases cs with
      | nil => exact absurd rfl h0
      | cons c cs =>
        show 47 :: cl (PySem.Str.join ⟨#[47]⟩ (c :: cs)) = cl (PySem.Str.empty ++ ⟨#[47]⟩ ++ PySem.Str.join ⟨#[47]⟩ (c :: cs))
        rw [cl_append, cl_append]
        rfl
  rw [e1, slE, split_join (by simp) (by
    intro p hp
    rcases List.mem_cons.mp hp with rfl | hp
    · simp [cl, PySem.Str.empty]
    · by_cases h0 : cs = []
      · rw [if_pos h0] at hp
        rw [List.mem_singleton.mp hp]; simp [cl, PySem.Str.empty]
      · rw [if_neg h0] at hp
        exact (h p hp).1.2)]
  have he : keptS (Str.ofString ".") PySem.Str.empty = false := by decide
  have hk : ∀ c ∈ cs, keptS (Str.ofString ".") c = true := by
    intro c hc
    obtain ⟨⟨q1, q2⟩, q3, q4⟩ := h c hc
    unfold keptS
    have : (c.length : Int) ≠ 0 := by
      intro e
      apply q1
      rw [← List.length_eq_zero_iff, cl_length]; omega
    rw [decide_eq_true this]
    simpa using q3
  rw [List.filter_cons, he, if_neg (by decide)]
  by_cases h0 : cs = []
  · rw [if_pos h0, h0, List.filter_cons, he, if_neg (by decide)]; rfl
  · rw [if_neg h0, List.filter_eq_self.mpr hk]
theorem both_pieces : ∀ (xs ys : List Thing), both (pieces xs) (pieces ys) = pieces (shared xs ys)
  | [], [] => by simp [pieces, both, shared]
  | [], _ :: _ => by simp [pieces, both, shared]
  | _ :: _, [] => by simp [pieces, both, shared]
  | x :: xs, y :: ys => by
    rw [pieces, pieces, both, shared]
    by_cases e : x = y
    · subst e
      rw [if_pos rfl, if_pos rfl, pieces, both_pieces xs ys]
    · rw [if_neg (fun q => e (piece_inj x y q)), if_neg e, pieces]
theorem shared_take : ∀ (xs ys : List Thing), ∃ k, shared xs ys = xs.take k
  | [], ys => ⟨0, by simp [shared]⟩
  | x :: xs, [] => ⟨0, by simp [shared]⟩
  | x :: xs, y :: ys => by
    rw [shared]
    by_cases e : x = y
    · obtain ⟨k, hk⟩ := shared_take xs ys
      exact ⟨k + 1, by rw [if_pos e, hk, List.take_succ_cons]⟩
    · exact ⟨0, by rw [if_neg e, List.take_zero]⟩
theorem Small.shared {n : Nat} {xs : List Thing} (a : Small n xs) (ys : List Thing) : Small n (shared xs ys) := by
  obtain ⟨k, hk⟩ := shared_take xs ys
  rw [hk]; exact a.take k
theorem starts_path (cs : List Str) : Txt.startswith (pathOf cs) (Str.ofString "/") = true := by
  rw [slE, starts_one, path_cl]; exact ⟨_, rfl⟩
theorem common_path_does (w mean mg mb) (a0 : Addr) (n0 : Nat) (xs ys : List Thing) (t u : Tok) (hx : PathFits xs) (hy : PathFits ys) (hs : PathFits (shared xs ys)) :
    Does w mean mg mb 157 6 [.ref a0] (fun h => h.get? a0 = some (W.listOf (strValues [(pathS xs, t), (pathS ys, u)]).toArray n0)) (fun h h' r => ∃ t', r = .str (pathS (shared xs ys)) t') := by
  have e1 : compsS (pathS xs) = pieces xs := by rw [pathS_eq, comps_full (pieces_kept xs)]
  have e2 : compsS (pathS ys) = pieces ys := by rw [pathS_eq, comps_full (pieces_kept ys)]
  have h := common_does w mean mg mb a0 n0 (pathS xs) (pathS ys) t u (Nat.le_trans hx.1 (by decide)) (Nat.le_trans hy.1 (by decide)) (starts_path _) (starts_path _) ⟨by
    rw [e1, e2, both_pieces]; exact Nat.le_trans hs.2 (by decide)⟩
  rw [e1, e2, both_pieces] at h
  exact h
theorem split_one {xs : List Thing} (h : xs ≠ []) : splitH (pathS xs) = pathS xs.dropLast ∧ splitT (pathS xs) = piece (xs.getLast h) := by
  have e : xs = xs.dropLast ++ [xs.getLast h] := (List.dropLast_concat_getLast h).symm
  have e2 : pathS xs = pathOf (pieces xs.dropLast ++ [piece (xs.getLast h)]) := by
    conv => lhs; rw [e]
    rw [pathS_eq, pieces_append]
    simp [pieces]
  obtain ⟨q1, q2⟩ := split_path (pieces_comp xs.dropLast) (piece_kept (xs.getLast h)).1
  rw [e2, q1, q2]
  exact ⟨rfl, rfl⟩
section
variable {prog : Program} {w : World} {A : Around} {E : Value → Shared → Prop} {s : Shared} {h₀ : Heap} {L l : Addr} {m : Str → Option Value} {news : List (Addr × Obj)} {Q : Value → Shared → Prop}
theorem slice_take {value slice : PySem.Expr} {vs : List Value} {k : Int} {u : Tok} {i : Nat} (F : Fr h₀ L s.heap m) (N : News h₀ L s.heap news) (hl : s.heap.IsList l vs.toArray) (h0 : 0 ≤ k) (hi : k.toNat = i)
    (h : ∀ D h', Fr h₀ L h' m → News h₀ L h' ((D, W.listOf (vs.take i).toArray 0) :: news) → (∀ p ∈ news, p.1 < D) → Q (.ref D) { s with heap := h' })
    (hs : subscripted slice false (.ref l) (.ref s.heap.objs.size) = operate [.ref s.heap.objs.size, .ref l] (getItem (.ref l) (.ref s.heap.objs.size))) (ht : ∀ r, letTemporaryGo value (.ref l) r = pure ()) (hz : vs.toArray.size ≤ sizeLine) :
    wpAny (model prog w) A (subscriptTail value slice (.ref l) (.ref s.heap.objs.size)) Q E { s with heap := s.heap.push { cls := .type "slice", data := .fields #[.none, .int k u, .none] } } := by
  subst hi
  exact kms_slice_lit F N hl IsPart.none (IsPart.int _ _) (pick_int h0) h hs ht hz
theorem pick_last {vs : List Value} : kms_pick vs.toArray.toList none (some (-1)) = vs.dropLast := by
  unfold kms_pick kms_lo kms_hi
  simp only [List.drop_zero, Nat.sub_zero]
  rw [List.dropLast_eq_take]
  congr 1
theorem slice_but_last {value slice : PySem.Expr} {vs : List Value} {u : Tok} (F : Fr h₀ L s.heap m) (N : News h₀ L s.heap news) (hl : s.heap.IsList l vs.toArray)
    (h : ∀ D h', Fr h₀ L h' m → News h₀ L h' ((D, W.listOf vs.dropLast.toArray 0) :: news) → (∀ p ∈ news, p.1 < D) → Q (.ref D) { s with heap := h' })
    (hs : subscripted slice false (.ref l) (.ref s.heap.objs.size) = operate [.ref s.heap.objs.size, .ref l] (getItem (.ref l) (.ref s.heap.objs.size))) (ht : ∀ r, letTemporaryGo value (.ref l) r = pure ()) (hz : vs.toArray.size ≤ sizeLine) :
    wpAny (model prog w) A (subscriptTail value slice (.ref l) (.ref s.heap.objs.size)) Q E { s with heap := s.heap.push { cls := .type "slice", data := .fields #[.none, .int (-1) u, .none] } } :=
  kms_slice_lit F N hl IsPart.none (IsPart.int _ _) pick_last h hs ht hz
theorem flat_rep (i : Nat) (v : Value) : List.foldl (fun (x1 x2 : Array Value) => x1 ++ x2) #[] (List.replicate (if (#[v] : Array Value).isEmpty = true then 0 else i) #[v]) = (List.replicate i v).toArray := by
  rw [if_neg (by simp)]
  have : ∀ (i : Nat) (a : Array Value), List.foldl (fun (x1 x2 : Array Value) => x1 ++ x2) a (List.replicate i #[v]) = a ++ (List.replicate i v).toArray := by
    intro i
    induction i with
    | zero => intro a; simp
    | succ i ih =>
      intro a
      rw [List.replicate_succ, List.foldl_cons, ih, List.replicate_succ]
      apply Array.toList_inj.mp
      simp
  rw [this]; simp
theorem mul_dd {x : Str} {t u : Tok} {k i : Nat} (F : Fr h₀ L s.heap m) (N : News h₀ L s.heap news) (hm : (l, W.listOf #[.str x t] k) ∈ news) (hi : i ≤ 1000)
    (h : ∀ D h', Fr h₀ L h' m → News h₀ L h' ((D, W.listOf (strValues (List.replicate i (x, t))).toArray 0) :: news) → (∀ p ∈ news, p.1 < D) → Q (.ref D) { s with heap := h' }) :
    wpAny (model prog w) A (binaryOp .Mult (.ref l) (.int ((i : Nat) : Int) u)) Q E s := by
  refine mul_list F N (N _ hm).1 (by omega) (by omega) (by simp; omega) fun h' F' N' => h _ h' F' ?_ fun p hp => Heap.lt_size (N p hp).1
  rw [Int.toNat_natCast, flat_rep] at N'
  have e : strValues (List.replicate i (x, t)) = List.replicate i (Value.str x t) := by simp [strValues]
  rw [e]
  exact N'
theorem eq_str_same {x : Str} {t u : Tok} (h : Q (.bool true) s) : wpAny (model prog w) A (compareOp .Eq (.str x t) (.str x u)) Q E s :=
  PyProof.Rows.eq_str (by rw [beq_self_eq_true]; exact h)
theorem eq_same {x : Thing} {v u : Value} (hx : HAt s.heap x v) (hy : HAt s.heap x u) (ox : x.Ok) (dx : x.deep ≤ 64) (hu : A.units + 64 < cLine) (h : Q (.bool true) s) : wpAny (model prog w) A (compareOp .Eq v u) Q E s :=
  eq_things hx hy ox ox dx dx hu (fun _ => h) fun q => absurd rfl q
/-- two lists of the same texts are equal -/
theorem texts_at {h : Heap} {us : List (Str × Tok)} {a : Addr} {n : Nat} (hg : h.get? a = some (W.listOf (strValues us).toArray n)) : HAt h (.list ((us.map (fun x => x.fst)).map Thing.text)) (.ref a) := by
  refine ⟨a, strValues us, n, rfl, hg, ?_⟩
  clear hg
  induction us with
  | nil => exact rfl
  | cons p us ih => exact ⟨_, _, rfl, ⟨_, rfl⟩, ih⟩
theorem texts_ok : ∀ {ss : List Str}, (∀ x ∈ ss, PyData.strOk x = true) → Oks (ss.map Thing.text) ∧ deeps (ss.map Thing.text) = 0
  | [], _ => ⟨trivial, rfl⟩
  | x :: ss, h => by
    obtain ⟨q1, q2⟩ := texts_ok fun y hy => h y (List.mem_cons_of_mem _ hy)
    refine ⟨⟨h x List.mem_cons_self, q1⟩, ?_⟩
    rw [List.map_cons, deeps, q2]; rfl
theorem eq_texts {us vs : List (Str × Tok)} {a b : Addr} {n k : Nat} {ss : List Str} (N : News h₀ L s.heap news) (ha : (a, W.listOf (strValues us).toArray n) ∈ news) (hb : (b, W.listOf (strValues vs).toArray k) ∈ news)
    (e1 : us.map (fun x => x.fst) = ss) (e2 : vs.map (fun x => x.fst) = ss) (hok : ∀ x ∈ ss, PyData.strOk x = true) (hu : A.units + 64 < cLine) (h : Q (.bool true) s) :
    wpAny (model prog w) A (compareOp .Eq (.ref a) (.ref b)) Q E s := by
  obtain ⟨q1, q2⟩ := texts_ok hok
  have ha' := texts_at (N _ ha).1
  have hb' := texts_at (N _ hb).1
  rw [e1] at ha'
  rw [e2] at hb'
  exact eq_same ha' hb' q1 (by rw [Thing.deep, q2]; decide) hu h
end
/-! the texts of the law are made of real signs -/
theorem strOk_cl (x : Str) : PyData.strOk x = true ↔ ∀ c ∈ cl x, c < 0x110000 := by
  show (x.cps.all (· < 0x110000)) = true ↔ _
  rw [← Array.all_toList, List.all_eq_true]
  exact ⟨fun h c hc => of_decide_eq_true (h c hc), fun h c hc => decide_eq_true (h c hc)⟩
theorem hide_ok {x : Str} (h : PyData.strOk x = true) : PyData.strOk (hideS x) = true := by
  rw [strOk_cl] at h ⊢
  rw [hide_cl]
  intro c hc
  obtain ⟨k, hk, hc⟩ := List.mem_flatMap.mp hc
  unfold enc at hc
  split at hc
  · rcases List.mem_cons.mp hc with rfl | hc
    · decide
    · rw [List.mem_singleton.mp hc]; decide
  · split at hc
    · rcases List.mem_cons.mp hc with rfl | hc
      · decide
      · rw [List.mem_singleton.mp hc]; decide
    · rw [List.mem_singleton.mp hc]; exact h k hk
theorem path_ok {cs : List Str} (h : ∀ c ∈ cs, PyData.strOk c = true) : PyData.strOk (pathOf cs) = true := by
  rw [strOk_cl, path_cl]
  intro c hc
  rcases List.mem_cons.mp hc with rfl | hc
  · decide
  · have : ∀ (cs : List Str), (∀ c ∈ cs, PyData.strOk c = true) → ∀ c ∈ cl (PySem.Str.join ⟨#[47]⟩ cs), c < 0x110000 := by
      intro cs
      induction cs with
      | nil => intro _ c hc; simp [PySem.Str.join, cl, PySem.Str.empty] at hc
      | cons a cs ih =>
        intro h c hc
        cases cs with
        | nil => exact (strOk_cl a).mp (h a List.mem_cons_self) c hc
        | cons b r =>
          have hc : c ∈ cl (a ++ ⟨#[47]⟩ ++ PySem.Str.join ⟨#[47]⟩ (b :: r)) := hc
          rw [cl_append, cl_append] at hc
          rcases List.mem_append.mp hc with hc | hc
          · rcases List.mem_append.mp hc with hc | hc
            · exact (strOk_cl a).mp (h a List.mem_cons_self) c hc
            · have : c = 47 := by simpa [cl] using hc
              rw [this]; decide
          · exact ih (fun x hx => h x (List.mem_cons_of_mem _ hx)) c hc
    exact this cs h c hc
mutual
theorem piece_ok : ∀ (x : Thing), x.Ok → PyData.strOk (piece x) = true
  | .text s, h => by
    have q := (strOk_cl _).mp (hide_ok (x := s) h)
    rw [strOk_cl, piece_text_cl]
    intro c hc
    rcases List.mem_cons.mp hc with rfl | hc
    · decide
    · rcases List.mem_append.mp hc with hc | hc
      · exact q c hc
      · rw [List.mem_singleton.mp hc]; decide
  | .list xs, h => by
    have e : piece (.list xs) = hideS (pathS xs) := by unfold piece; rfl
    rw [e]
    exact hide_ok (path_ok (pieces_ok xs h))
theorem pieces_ok : ∀ (xs : List Thing), Oks xs → ∀ c ∈ pieces xs, PyData.strOk c = true
  | [], _, c, hc => by rw [pieces] at hc; cases hc
  | x :: xs, h, c, hc => by
    rw [pieces] at hc
    rcases List.mem_cons.mp hc with rfl | hc
    · exact piece_ok x h.1
    · exact pieces_ok xs h.2 c hc
end
theorem pathS_ok {xs : List Thing} (h : Oks xs) : PyData.strOk (pathS xs) = true := by rw [pathS_eq]; exact path_ok (pieces_ok xs h)
/-- the climbs -/
noncomputable def climb (xs ys : List Thing) (up : Nat) : Str := pathS (xs.take (xs.length - up) ++ ys)
theorem climb_eq (xs ys : List Thing) (up : Nat) : pathOf ((pieces xs).take ((pieces xs).length - up) ++ pieces ys) = climb xs ys up := by
  unfold climb
  rw [pathS_eq, pieces_append, pieces_take, pieces_length]
theorem climbs_ok {xs ys : List Thing} (hx : Oks xs) (hy : Oks ys) (n : Nat) : ∀ x ∈ (List.range n).map (climb xs ys), PyData.strOk x = true := by
  intro x hx'
  obtain ⟨i, _, rfl⟩ := List.mem_map.mp hx'
  refine pathS_ok ?_
  have ap : ∀ {a b : List Thing}, Oks a → Oks b → Oks (a ++ b) := by
    intro a
    induction a with
    | nil => intro b _ h; exact h
    | cons y a ih => intro b h h'; exact ⟨h.1, ih h.2 h'⟩
  have tk : ∀ {a : List Thing} (k : Nat), Oks a → Oks (a.take k) := by
    intro a
    induction a with
    | nil => intro k _; simp [Oks]
    | cons y a ih =>
      intro k h
      cases k with
      | zero => exact trivial
      | succ k => exact ⟨h.1, ih k h.2⟩
  exact ap (tk _ hx) hy
theorem Small.weight {n : Nat} {xs : List Thing} (a : Small n xs) (hn : n ≤ 200) : ((pieces xs).map (·.length)).sum + (pieces xs).length ≤ 100000 := by
  have h1 := pieces_weight xs 4 a.tidy (Nat.le_trans a.depth (by decide))
  have h4 : 16 * 2 ^ 4 * nodesL xs ≤ 16 * 2 ^ 4 * 200 := Nat.mul_le_mul_left _ (Nat.le_trans a.nodes hn)
  omega
theorem reduce_root_does (w mean mg mb) (a0 : Addr) (us : List (Str × Tok)) (ys : List Thing) (t : Tok) (hq : us.map (fun x => x.fst) = pieces ys) (hw : ((pieces ys).map (·.length)).sum + (pieces ys).length ≤ 100000) :
    Does w mean mg mb 37 3 [.ref 131, .ref a0, .str (Str.ofString "/") t] (fun h => h.IsList a0 (strValues us).toArray) (fun h h' r => ∃ t', r = .str (pathS ys) t') := by
  have h := reduce_path_does w mean mg mb a0 us [] t hq (by simp) (pieces_comp ys) (by rw [List.nil_append]; omega)
  rw [root_path, List.nil_append] at h
  exact h
theorem reduce_one_does (w mean mg mb) (a0 : Addr) (us : List (Str × Tok)) (xs ys : List Thing) (t : Tok) (hq : us.map (fun x => x.fst) = pieces ys) (hx : ((pieces xs).map (·.length)).sum + (pieces xs).length ≤ 100000) (hw : ((pieces ys).map (·.length)).sum + (pieces ys).length ≤ 100000) :
    Does w mean mg mb 37 3 [.ref 131, .ref a0, .str (pathS xs) t] (fun h => h.IsList a0 (strValues us).toArray) (fun h h' r => ∃ t', r = .str (pathS (xs ++ ys)) t') := by
  have h := reduce_path_does w mean mg mb a0 us (pieces xs) t hq (pieces_comp xs) (pieces_comp ys) (by rw [List.map_append, List.sum_append, List.length_append]; omega)
  rw [← pieces_append] at h
  exact h
theorem reduce_up_does (w mean mg mb) (a0 : Addr) (us : List (Str × Tok)) (xs ys : List Thing) (t td : Tok) (up : Nat) (hq : us.map (fun x => x.fst) = pieces ys) (hu : up ≤ 1000) (hx : ((pieces xs).map (·.length)).sum + (pieces xs).length ≤ 100000) (hw : ((pieces ys).map (·.length)).sum + (pieces ys).length ≤ 100000) :
    Does w mean mg mb 37 3 [.ref 131, .ref a0, .str (pathS xs) t] (fun h => h.IsList a0 (strValues (List.replicate up (Str.ofString "..", td) ++ us)).toArray) (fun h h' r => ∃ t', r = .str (pathOf (pieces xs ++ (List.replicate up (Str.ofString "..") ++ pieces ys))) t') := by
  have e : (List.replicate up (Str.ofString "..", td) ++ us).map (fun x => x.fst) = List.replicate up (Str.ofString "..") ++ pieces ys := by
    rw [List.map_append, hq, List.map_replicate]
  exact reduce_path_does w mean mg mb a0 _ (pieces xs) t e (pieces_comp xs) (fun c hc => by
    rcases List.mem_append.mp hc with hc | hc
    · rw [(List.mem_replicate.mp hc).2]; exact comp_dd
    · exact pieces_comp ys c hc) (by
    rw [List.map_append, List.map_append, List.sum_append, List.sum_append, List.length_append, List.length_append, dd_sum, List.length_replicate]; omega)
theorem norm_up_does (w mean mg mb) (xs ys : List Thing) (t : Tok) (up : Nat) (hu : up ≤ 1000) (hx : ((pieces xs).map (·.length)).sum + (pieces xs).length ≤ 100000) (hw : ((pieces ys).map (·.length)).sum + (pieces ys).length ≤ 100000) :
    Does w mean mg mb 152 3 [.str (pathOf (pieces xs ++ (List.replicate up (Str.ofString "..") ++ pieces ys))) t] (fun _ => True) (fun _ _ r => ∃ t', r = .str (climb xs ys up) t') := by
  have h := norm_climb_does w mean mg mb (pieces xs) (pieces ys) up t (pieces_kept xs) (pieces_kept ys) hu (by omega) (by omega)
  rw [climb_eq] at h
  exact h
section
variable {prog : Program} {w : World} {A : Around} {E : Value → Shared → Prop} {s : Shared} {h₀ : Heap} {L l : Addr} {m : Str → Option Value} {news : List (Addr × Obj)} {Q : Value → Shared → Prop}
theorem slice_kept {value slice : PySem.Expr} {vs : List Value} {k : Int} {u : Tok} (F : Fr h₀ L s.heap m) (N : News h₀ L s.heap news) (hl : s.heap.IsList l vs.toArray) (h0 : 0 ≤ k)
    (h : ∀ D h' i, Fr h₀ L h' m → News h₀ L h' ((D, W.listOf (vs.take i).toArray 0) :: news) → (∀ p ∈ news, p.1 < D) → Q (.ref D) { s with heap := h' })
    (hs : subscripted slice false (.ref l) (.ref s.heap.objs.size) = operate [.ref s.heap.objs.size, .ref l] (getItem (.ref l) (.ref s.heap.objs.size))) (ht : ∀ r, letTemporaryGo value (.ref l) r = pure ()) (hz : vs.toArray.size ≤ sizeLine) :
    wpAny (model prog w) A (subscriptTail value slice (.ref l) (.ref s.heap.objs.size)) Q E { s with heap := s.heap.push { cls := .type "slice", data := .fields #[.none, .int k u, .none] } } :=
  slice_take F N hl h0 rfl (fun D h' F' N' l1 => h D h' _ F' N' l1) hs ht hz
theorem AtAll.dropLast {M : Addr → Obj → Prop} {xs : List Thing} {vs : List Value} (h : AtAll M xs vs) : AtAll M xs.dropLast vs.dropLast := by
  rw [List.dropLast_eq_take, List.dropLast_eq_take, h.length]
  exact AtAll.take _ h
theorem last_things {value slice : PySem.Expr} {k : Int} {u : Tok} {xs : List Thing} {vs : List Value} {M : Addr → Obj → Prop} (hl : s.heap.IsList l vs.toArray) (hr : AtAll M xs vs) (hne : xs ≠ []) (hx : xs.length ≤ 1000000) (hk : k = -1)
    (h : ∀ v, At M (xs.getLast hne) v → Q v s)
    (hs : subscripted slice false (.ref l) (.int k u) = operate [.ref l, .int k u] (getItem (.ref l) (.int k u))) :
    wpAny (model prog w) A (subscriptTail value slice (.ref l) (.int k u)) Q E s := by
  subst hk
  have hlen := hr.length
  have hpos : 0 < xs.length := List.length_pos_iff.mpr hne
  have e : xs[xs.length - 1]? = some (xs.getLast hne) := by rw [List.getLast_eq_getElem, List.getElem?_eq_getElem]
  obtain ⟨v, hv, hat⟩ := HAll.get_some hr (xs.length - 1) e
  refine tail_any hl.typeIs slot_list_getitem.lookup (wpAny_getItem_list_neg hl (by decide) ?_ (by decide) (x := v) ?_ (h v hat)) hs
  · rw [List.size_toArray]; omega
  · rw [List.size_toArray]
    have : ((-1 : Int) + ((vs.length : Nat) : Int)).toNat = xs.length - 1 := by omega
    rw [this]
    simpa using hv
theorem eq_tup2 {x y : Str} {t1 t2 t3 t4 : Tok} {a b : Addr} (N : News h₀ L s.heap news) (ha : (a, ({ cls := .type "tuple", data := .seq #[.str x t1, .str y t2] } : Obj)) ∈ news) (hb : (b, ({ cls := .type "tuple", data := .seq #[.str x t3, .str y t4] } : Obj)) ∈ news)
    (hx : PyData.strOk x = true) (hy : PyData.strOk y = true) (hu : A.units + 64 < cLine) (h : Q (.bool true) s) : wpAny (model prog w) A (compareOp .Eq (.ref a) (.ref b)) Q E s := by
  refine eq_dataH_same (da := .tuple [.str x, .str y]) (db := .tuple [.str x, .str y]) (reads_tuple_at (N _ ha).1 rfl rfl (ReadsAll.cons (Reads.str _ _) (ReadsAll.cons (Reads.str _ _) ReadsAll.nil))) (reads_tuple_at (N _ hb).1 rfl rfl (ReadsAll.cons (Reads.str _ _) (ReadsAll.cons (Reads.str _ _) ReadsAll.nil))) ?_ ?_ hu ?_ ?_
  · show (PyData.canLay0 _ && decide (PyData.depth _ ≤ 64)) = true
    simp [PyData.canLay0, PyData.canLayAll0, PyData.depth, PyData.depthAll, hx, hy]
  · show (PyData.canLay0 _ && decide (PyData.depth _ ≤ 64)) = true
    simp [PyData.canLay0, PyData.canLayAll0, PyData.depth, PyData.depthAll, hx, hy]
  · simp [SeqAt.noMix, SeqAt.noMixAll]
  · have e : Spec.same (.tuple [.str x, .str y]) (.tuple [.str x, .str y]) = true := by simp [Spec.same, Spec.sameAll]
    rw [e]; exact h
end
theorem pieces_of {h₀ h : Heap} {L : Addr} {news tl : List (Addr × Obj)} {S : List Thing} {vs : List Value} {us : List (Str × Tok)} (N : News h₀ L h news) (hs : ∀ p ∈ tl, p ∈ news) (hr : AtAll (fun b o => (b, o) ∈ tl) S vs)
    (hP : Paired (fun v (u : Str × Tok) => ∃ x ∈ S, At (fun b o => (b, o) ∈ tl) x v ∧ u.1 = piece x) vs us) : us.map (fun x => x.fst) = pieces S := by
  refine paired_pieces (h := h) (zs := S) (AtAll.mono (fun b o q => (N _ (hs _ q)).1) _ hr) ?_
  have mono : ∀ {vs : List Value} {us : List (Str × Tok)}, Paired (fun v (u : Str × Tok) => ∃ x ∈ S, At (fun b o => (b, o) ∈ tl) x v ∧ u.1 = piece x) vs us → Paired (fun v (u : Str × Tok) => ∃ x ∈ S, HAt h x v ∧ u.1 = piece x) vs us := by
    intro vs us q
    induction q with
    | nil => exact .nil
    | cons hf _ ih =>
      obtain ⟨x, hx, ha, e⟩ := hf
      exact .cons ⟨x, hx, At.mono (fun b o q => (N _ (hs _ q)).1) _ ha, e⟩ ih
  exact mono hP
theorem Small.dropLast {n : Nat} {xs : List Thing} (a : Small n xs) : Small n xs.dropLast := by rw [List.dropLast_eq_take]; exact a.take _
theorem Fits.of_mem : ∀ {xs : List Thing} {x : Thing}, FitsAll xs → x ∈ xs → Fits x
  | _ :: _, x, h, hm => by
    rcases List.mem_cons.mp hm with rfl | hm
    · exact h.1
    · exact Fits.of_mem h.2 hm
theorem Oks.of_mem : ∀ {xs : List Thing} {x : Thing}, Oks xs → x ∈ xs → x.Ok
  | _ :: _, x, h, hm => by
    rcases List.mem_cons.mp hm with rfl | hm
    · exact h.1
    · exact Oks.of_mem h.2 hm
theorem deep_list {xs : List Thing} (h : deeps xs ≤ 3) : (Thing.list xs).deep ≤ 64 := by rw [Thing.deep]; omega
theorem strValues_app (a b : List (Str × Tok)) : (strValues a).toArray.toList ++ (strValues b).toArray.toList = strValues (a ++ b) := by simp [strValues]
theorem max_K {prog : Program} {w : World} {A : Around} {E : Value → Shared → Prop} {s : Shared} {h₀ : Heap} {L : Addr} {m : Str → Option Value} {news : List (Addr × Obj)} {Q : Value → Shared → Prop} {a b : Int} {t u : Tok} (hh : A.handled = none) (F : Fr h₀ L s.heap m) (N : News h₀ L s.heap news)
    (h : ∀ h' tk t', s.toks ≤ tk → Fr h₀ L h' m → News h₀ L h' news → Q (.int (if b > a then b else a) t') { s with heap := h', toks := tk }) : wpAny (model prog w) A (call (.builtin "max") [.int a t, .int b u]) Q E s :=
  wpAny_toks_up (max_two_N hh F N fun h' tk F' N' hle => h h' tk _ hle F' N')
end
noncomputable section
open PySem PySem.W PyProof.Rows PySem.Spec PySem.Calls
local macro_rules | `(tactic| k_all) => `(tactic| exact Offs.all (by with_reducible assumption) (by k_mem))
local macro_rules | `(tactic| walk_at "binaryOp Mult ref int") => `(tactic| (k_here; k_dflt (k_extra "mul")))
local macro_rules | `(tactic| walk_at "call type:range") => `(tactic| (k_here; k_dflt (k_extra "range")))
local macro_rules | `(tactic| walk_at "compareOp Eq ref ref") => `(tactic| (k_here; k_dflt (k_extra "eq")))
local macro_rules | `(tactic| walk_at "RgSrc") => `(tactic| (k_here; k_dflt (k_extra "rgsrc")))
local macro_rules | `(tactic| walk_at "CEnd") => `(tactic| (k_here; k_dflt (k_extra "cend")))
local macro_rules | `(tactic| k_qdec) => `(tactic| decide +kernel)
theorem lawT : PySem.Challenge.rw_il0066_01.Holds := hd (by
  k_with_none
  k_with "replace" => (refine' replaceM ?k1 ?k2 ?k3 ?k4 ?k5 ?k6 ?_; (case k1 => (show @Ne Nat _ _); omega); (case k2 => (show @Ne Nat _ _); omega); (case k3 => (show @Ne Nat _ _); omega); (case k4 => decide); (case k5 => omega); (case k6 => decide); k_whole; intro tR kR hR; dsimp only at hR)
  k_with "used" => ((case uB => k_asm); (case uF => k_asm); (case uX => k_asm); (case uN => k_asm); (case uT => k_asm); (case uk => first | assumption | exact rfl); (case ud => ktr_room); (case uu => ktr_units); (case ut => (first | exact Nat.succ_pos _ | assumption | omega | (dsimp only; omega))); (case up => k_extra "pre"); k_whole; intro r9 h9 tk9 K9 F9 N9 ht9 hP9; (try dsimp only at ht9 K9))
  k_with "pre" => (first | trivial | assumption)
  k_with "enter" => (refine' enterM ?k1 ?k2 ?k3 ?k5 ?kA ?kF ?kK ?k6 ?k7 ?k8 ?k9 ?kB ?_ ?c2 ?c3 ?c4 ?c5 ?ct; (case kA => exact rfl); (case kF => exact rfl); (case kK => first | assumption | exact rfl); (case k1 => k_asm); (case k2 => k_asm); (case k3 => k_asm); (case k5 => k_asm); (case k6 => k_is); (case k7 => k_is); (case k8 => ktr_room); (case k9 => first | exact BindsTo.of_eq rfl | exact binds_K (by k_in) rfl (by k_is) rfl rfl rfl | exact kp_binds (by k_in) (fun _ => rfl)); (case c5 => decide); (case kB => exact locs rfl); (case c2 => exact rfl); (case c3 => exact rfl); (case c4 => exact rfl); (case ct => assumption); k_whole; intro L' h' tk0 htk0 F' N' B' X' T'; (try dsimp only); (try k_fold))
  k_with "enterR" => (refine' enterR ?k1 ?k2 ?k3 ?k5 ?kA ?kF ?kK ?k6 ?k7 ?k8 ?kV ?kP ?kG ?kB ?_ ?c2 ?c3 ?c4 ?c5 ?ct; (case kA => exact rfl); (case kF => exact rfl); (case kK => first | assumption | exact rfl); (case k1 => k_asm); (case k2 => k_asm); (case k3 => k_asm); (case k5 => k_asm); (case k6 => k_is); (case k7 => k_is); (case k8 => ktr_room); (case kV => kl_lit); (case kP => exact rfl); (case kG => exact fun _ => rfl); (case kB => exact fun _ => locs rfl); (case c5 => decide); (case c2 => exact rfl); (case c3 => exact rfl); (case c4 => exact rfl); (case ct => assumption); k_whole; intro D' L' h' tk0 htk0 hD' F' N' B' X' T'; (try dsimp only); (try k_fold))
  k_with "enterC" => (refine' enterC ?k1 ?k2 ?k3 ?k5 ?kA ?kF ?kK ?k6 ?k7 ?k8 ?k9 ?kB ?kD ?_ ?c2 ?c3 ?c4 ?ct; (case kA => exact rfl); (case kF => exact rfl); (case kK => first | assumption | exact rfl); (case k1 => k_asm); (case k2 => k_asm); (case k3 => k_asm); (case k5 => k_asm); (case k6 => k_is); (case k7 => k_is); (case k8 => ktr_room); (case k9 => first | exact BindsTo.of_eq rfl | exact binds_K (by k_in) rfl (by k_is) rfl rfl rfl | exact kp_binds (by k_in) (fun _ => rfl)); (case kB => exact rfl); (case kD => decide +kernel); (case c2 => exact rfl); (case c3 => exact rfl); (case c4 => exact rfl); (case ct => assumption); k_whole; intro L' h' tk0 cells' htk0 F' N' Y' B' X' T'; (try dsimp only); (try k_fold))
  k_go0
  all_goals try k_fold
  k_with "slice" =>
    (with_reducible show wpAny _ _ (subscriptTail _ (PySem.Expr.Slice _ _ (some _) _) (Value.ref _) (Value.ref _)) _ _ _)
    refine' slice3_ints ?sF ?sN ?sl ?si ?sp ?sq ?sk ?s0 ?_ ?ss ?st ?sz
    (case sF => k_asm)
    (case sN => k_asm)
    (case sl => exact News.isList (by k_asm) (by k_mem))
    (case si => with_reducible assumption)
    (case sp => kmk_part)
    (case sq => kmk_part)
    (case sk => kmk_part)
    (case s0 => decide)
    (case ss => with_unfolding_all rfl)
    (case st => kmk_pure)
    (case sz => kmk_size)
    k_whole
    intro D1 ws1 ms1 h1 F1 N1 l1 hI1 hle1
    have hw1 : ms1.length ≤ 16 := Nat.le_trans hle1 (List.length_take_le _ _)
    have hv1 := hI1.length
    (try k_lt l1)
    (try k_sweep)
  k_with "slice" =>
    refine' slice_kept (vs := vs1) ?pF ?pN ?pl ?pe ?_ ?ps ?pt ?pz
    (case pF => k_asm)
    (case pN => k_asm)
    (case pl => exact News.isList (by k_asm) (by repeat (first | exact hm1 | apply List.mem_cons_of_mem)))
    (case pe => exact kept_nonneg _ _)
    (case ps => with_unfolding_all rfl)
    (case pt => kmk_pure)
    (case pz => (rw [List.size_toArray, hr1.length, sizeLine_eq]; omega))
    k_whole
    intro Dk hk' kq Fk Nk lk
    (try k_lt lk)
    (try k_sweep)
  k_with "slice" =>
    have hq0 := hx2
    clear hq0
    refine' slice_take (vs := vs1) (i := X1.length - i) ?qF ?qN ?ql ?q0 ?qi ?_ ?qs ?qt ?qz
    (case qF => k_asm)
    (case qN => k_asm)
    (case ql => exact News.isList (by k_asm) (by repeat (first | exact hm1 | apply List.mem_cons_of_mem)))
    (case q0 => (split <;> omega))
    (case qi => (split <;> omega))
    (case qs => with_unfolding_all rfl)
    (case qt => kmk_pure)
    (case qz => (rw [List.size_toArray, hr1.length, sizeLine_eq]; omega))
    k_whole
    intro Dt ht' Ft Nt lt
    (try k_lt lt)
    (try k_sweep)
  k_with "slice" =>
    have hq0 := hp5
    clear hq0
    refine' slice_but_last (vs := vs1) ?rF ?rN ?rl ?_ ?rs ?rt ?rz
    (case rF => k_asm)
    (case rN => k_asm)
    (case rl => exact News.isList (by k_asm) (by repeat (first | exact hm1 | apply List.mem_cons_of_mem)))
    (case rs => with_unfolding_all rfl)
    (case rt => kmk_pure)
    (case rz => (rw [List.size_toArray, hr1.length, sizeLine_eq]; omega))
    k_whole
    intro Db hb' Fb Nb lb
    (try k_lt lb)
    (try k_sweep)
  k_with "item" =>
    refine' last_things (News.isList ?iN ?im) hr1 hne1 (by omega) rfl ?_ (by with_unfolding_all rfl)
    (case iN => k_asm)
    (case im => repeat (first | exact hm1 | apply List.mem_cons_of_mem))
    k_whole
    intro vL hvL
    have hdL := depth_le (List.getLast_mem hne1)
    have hfL := Fits.of_mem hfX.1 (List.getLast_mem hne1)
  k_with "len" => (refine len_things (News.isList (by k_asm) (by repeat (first | exact hm1 | apply List.mem_cons_of_mem))) hr1 (by omega) ?_)
  k_with "max" =>
    refine' max_K ?xh ?xF ?xN ?_
    (case xh => exact rfl)
    (case xF => k_asm)
    (case xN => k_asm)
    k_whole
    intro hx' tkx tx htkx Fx Nx
    (try dsimp only at htkx)
    (try (replace htkx : 0 < tkx := Nat.lt_of_lt_of_le (by first | exact Nat.succ_pos _ | assumption) htkx))
    (try k_sweep)
  k_with "mul" =>
    refine' mul_dd (i := i) ?mF ?mN ?mm ?mi ?_
    (case mF => k_asm)
    (case mN => k_asm)
    (case mm => k_mem)
    (case mi => omega)
    k_whole
    intro Dm hm' Fm Nm lm
    (try k_lt lm)
    (try k_sweep)
  k_with "range" =>
    refine' range_K ?gF ?gN ?_
    (case gF => k_asm)
    (case gN => k_asm)
    k_whole
    intro Dr hr' tr ur vr tkr htkr Fr' Nr
    (try dsimp only at htkr)
  k_with "rgsrc" => exact ⟨_, _, _, _, _, _, rfl, rfl, by (first | omega | (dsimp only; omega)), by k_asm, by k_asm⟩
  k_with "cend" =>
    first
    | exact CEnd.intro (by k_asm) (by k_asm) (fun p hp => by repeat (first | exact hp | apply List.mem_cons_of_mem)) ⟨_, rfl⟩
  k_with "add" =>
    have hq0 := hI1
    clear hq0
    refine' kmk_add_lit ?aF ?aN ?aa ?ab rfl ?_ ?az
    (case aF => k_asm)
    (case aN => k_asm)
    (case aa => exact News.isList (by k_asm) (by k_mem))
    (case ab => exact News.isList (by k_asm) (by k_mem))
    (case az => (rw [sizeLine_eq]; simp only [List.length_cons, List.length_nil, List.size_toArray, Array.length_toList]; omega))
    k_whole
    intro D' h' F' N' l1
    (try k_lt l1)
    (try k_sweep)
  k_with "add" =>
    have hq0 := hp5
    clear hq0
    refine' kmk_add_lit (zs := vs1 ++ wS) ?eF ?eN ?ea ?eb rfl ?_ ?ez
    (case eF => k_asm)
    (case eN => k_asm)
    (case ea => exact News.isList (by k_asm) (by repeat (first | exact hm1 | apply List.mem_cons_of_mem)))
    (case eb => exact News.isList (by k_asm) (by k_mem))
    (case ez => (rw [sizeLine_eq]; have := hr1.length; have := hrS.length; simp only [List.length_take]; omega))
    k_whole
    intro De he' Fe Ne le'
    (try k_lt le')
    (try k_sweep)
  k_with "add" =>
    have hq0 := Nt
    clear hq0
    refine' kmk_add_lit (zs := vs1.take (X1.length - i) ++ wS) ?dF ?dN ?da ?db rfl ?_ ?dz
    (case dF => k_asm)
    (case dN => k_asm)
    (case da => exact News.isList (by k_asm) (by k_mem))
    (case db => exact News.isList (by k_asm) (by k_mem))
    (case dz => (rw [sizeLine_eq]; have := hr1.length; have := hrS.length; simp only [List.length_take]; omega))
    k_whole
    intro De he' Fe Ne le'
    (try k_lt le')
    (try k_sweep)
  k_with "add" =>
    have hq0 := Nm
    clear hq0
    refine' kmk_add_lit (zs := strValues (List.replicate i (Str.ofString "..", _) ++ us3)) ?cF ?cN ?ca ?cb ?ce ?_ ?cz
    (case cF => k_asm)
    (case cN => k_asm)
    (case ca => exact News.isList (by k_asm) (by k_mem))
    (case cb => exact News.isList (by k_asm) (by k_mem))
    (case ce => exact strValues_app _ _)
    (case cz => (rw [sizeLine_eq]; have := congrArg List.length hp3; rw [List.length_map, pieces_length] at this; simp [strValues]; omega))
    k_whole
    intro Du hu' Fu Nu lu
    (try k_lt lu)
    (try k_sweep)
  k_with "add" =>
    have hq0 := hm2
    clear hq0
    refine' kmk_add_lit (zs := vs1.take kq ++ vs2) ?bF ?bN ?ba ?bb rfl ?_ ?bz
    (case bF => k_asm)
    (case bN => k_asm)
    (case ba => exact News.isList (by k_asm) (by k_mem))
    (case bb => exact News.isList (by k_asm) (by repeat (first | exact hm2 | apply List.mem_cons_of_mem)))
    (case bz => (rw [sizeLine_eq]; have := hr1.length; have := hr2.length; simp only [List.length_take]; omega))
    k_whole
    intro D2 hd2 Fd2 Nd2 ld2
    have hrS := AtAll.append (AtAll.take kq hr1) hr2
    have hSS := Small.append (hS1.take kq) hS2
    replace Nd2 := News.keep1 Nd2 5
    simp only [List.drop_succ_cons, List.drop_zero] at Nd2
    generalize X1.take kq ++ X2 = S2 at hrS hSS
    generalize vs1.take kq ++ vs2 = wS at hrS Nd2
    have hfX := hS1.fits (by decide)
    have hfS := hSS.fits (by decide)
    have hfA := (hS1.append hSS).fits (by decide)
    have hwX := hS1.weight (by decide)
    have hwS := hSS.weight (by decide)
    have hdX := hfX.2.2.2.2.1
    have hdS := hfS.2.2.2.2.1
    have hLS := hfS.2.2.2.2.2
    clear hr2 hm2 hL2
    (try k_lt ld2)
    (try k_sweep)
  k_with "acomp" => (refine wpAny_Assign_Name ?_ (by with_unfolding_all rfl))
  k_with "comp" =>
    (with_reducible show wpAny _ _ (eval (PySem.Expr.ListComp (PySem.Expr.Call _ [PySem.Expr.Call _ _ _ _] _ _) [⟨_, PySem.Expr.Call _ _ _ _, _, _⟩] _ _) _) _ _ _)
    refine' comp_range (n := X1.length + 2) (climb X1 S2) ?rh0 ?rh1 ?rh2 ?rh3 ?rh4 ?rh5 ?rh6 ?rhn ?rhF ?rhN ?_ ?rhel ?rhq
    (case rh0 => exact rfl)
    (case rh1 => exact rfl)
    (case rh2 => decide)
    (case rh3 => exact rfl)
    (case rh4 => decide)
    (case rh5 => exact rfl)
    (case rh6 => exact fun _ => rfl)
    (case rhn => omega)
    (case rhF => k_asm)
    (case rhN => k_asm)
    (case' rhel =>
      intro i ti I' oI' C' oC' DA' oD' m2 h2 tk2 E2 hi hC2 hx2 htk2 F2 N2
      dsimp only at htk2)
    (case' rhq =>
      intro D4 h4 tk4 us4 n4 htk4 hp4 F4 N4
      dsimp only at htk4
      (try (replace htk4 : 0 < tk4 := Nat.lt_of_lt_of_le (by first | exact Nat.succ_pos _ | assumption) htk4))
      (try k_sweep))
  k_with "comp" =>
    (with_reducible show wpAny _ _ (eval (PySem.Expr.ListComp (PySem.Expr.Call _ [PySem.Expr.BinOp _ _ _ _] _ _) [⟨_, PySem.Expr.Call _ _ _ _, _, _⟩] _ _) _) _ _ _)
    refine' comp_range (n := X1.length + 2) (climb X1 S2) ?sh0 ?sh1 ?sh2 ?sh3 ?sh4 ?sh5 ?sh6 ?shn ?shF ?shN ?_ ?shel ?shq
    (case sh0 => exact rfl)
    (case sh1 => exact rfl)
    (case sh2 => decide)
    (case sh3 => exact rfl)
    (case sh4 => decide)
    (case sh5 => exact rfl)
    (case sh6 => exact fun _ => rfl)
    (case shn => omega)
    (case shF => k_asm)
    (case shN => k_asm)
    (case' shel =>
      intro i ti I' oI' C' oC' DA' oD' m2 h2 tk2 E2 hi hC2 hx2 htk2 F2 N2
      dsimp only at htk2)
    (case' shq =>
      intro D5 h5 tk5 us5 n5 htk5 hp5 F5 N5
      dsimp only at htk5
      (try (replace htk5 : 0 < tk5 := Nat.lt_of_lt_of_le (by first | exact Nat.succ_pos _ | assumption) htk5))
      (try k_sweep))
  k_with "comp" =>
    refine' comp_strs (l := D2) (vs := wS) (fun _ => true) (fun v y => ∃ x ∈ S2, At (fun b o => (b, o) ∈ tl) x v ∧ y = piece x) ?h0 ?h1 ?h2 ?h3 ?h4 ?h5 ?h6 ?hF ?hN ?hl ?hz ?hi ?_ ?_ ?_
    (case h0 => exact rfl)
    (case h1 => exact rfl)
    (case h2 => decide)
    (case h3 => exact rfl)
    (case h4 => decide)
    (case h5 => exact rfl)
    (case h6 => exact fun _ => rfl)
    (case hF => k_asm)
    (case hN => k_asm)
    (case hl => exact News.isList (by k_asm) (by k_mem))
    (case hz => (rw [hrS.length, sizeLine_eq]; omega))
    (case hi => (intro Q' E' hq; walk1; exact hq))
    (intro C v s2 m2 E2 hv hn hm hst htk; exact wpAny_pure ⟨rfl, ⟨_, _, rfl, fun _ _ e => e⟩⟩)
    intro C v s2 m2 E2 hv hpv hn hm hst htk F2 N2
    dsimp only at htk
    obtain ⟨ix, hix⟩ := List.mem_iff_getElem?.mp hv
    obtain ⟨xq, hxq, hxa⟩ := hrS.get ix hix
    have hxm := List.mem_of_getElem? hxq
    have hxf := Fits.mem hfS.1 hxq
    have hxd := depths.mem hxq
    rotate_left
    intro D3 h3 tk3 us3 n3 htk3 hP3 F3 N3 K3 hD3
    rw [List.filter_eq_self.mpr (fun _ _ => rfl)] at hP3
    have hp3 := pieces_of N3 (fun p hp => by repeat (first | exact hp | apply List.mem_cons_of_mem)) hrS hP3
    have l3 := allNe_of (by with_reducible assumption) hD3
    simp only [AllNe] at l3
    replace l3 := l3.2.1
    clear hP3 K3 hD3
    dsimp only at l3 htk3
    (try (replace htk3 : 0 < tk3 := Nat.lt_of_lt_of_le (by first | exact Nat.succ_pos _ | assumption) htk3))
    (try k_sweep)
    rotate_right
  k_with "usedL" => ((case uF => k_asm); (case uX => k_asm); (case uN => k_asm); (case uT => k_asm); (case uk => exact rfl); (case ud => (first | decide | omega)); (case ut => (first | exact Nat.succ_pos _ | assumption | omega | (dsimp only; omega))); (case up => k_dflt (k_extra "pre")); k_whole; intro r9 h9 tk9 K9 F9 N9 ht9 hP9; (try dsimp only at ht9 K9); (try (replace ht9 : 0 < tk9 := Nat.lt_of_lt_of_le (by first | exact Nat.succ_pos _ | assumption) ht9)))
  k_with "eq" => (refine eq_texts (by k_asm) (by k_mem) (by k_mem) (by with_reducible assumption) (by with_reducible assumption) (climbs_ok hfX.2.2.1 hfS.2.2.1 _) (show 4 + 3 + 64 < cLine by decide) ?_)
  k_with "eq" => (have hq0 := hvL; clear hq0; refine eq_tup2 (by k_asm) (by k_mem) (by k_mem) (pathS_ok (hS1.dropLast.fits (by decide)).2.2.1) (piece_ok _ (Oks.of_mem hfX.2.2.1 (List.getLast_mem hne1))) (show 4 + 3 + 64 < cLine by decide) ?_)
  k_with "eq" => ((fail_if_success (with_reducible show wpAny _ _ (compareOp CmpOp.Eq (Value.ref _) _) _ _ _)); refine eq_same hq9 (hat_of (by k_asm) (by k_mem) hrS (fun p hp => by repeat (first | exact hp | apply List.mem_cons_of_mem))) hfS.2.2.1 (deep_list hfS.2.2.2.1) (show 4 + 3 + 64 < cLine by decide) ?_)
  k_with "eq" => ((fail_if_success (with_reducible show wpAny _ _ (compareOp CmpOp.Eq (Value.ref _) _) _ _ _)); refine eq_same hq9 (hat_of (by k_asm) (by (repeat (first | exact hm1 | apply List.mem_cons_of_mem)); done) hr1 (fun p hp => by repeat (first | exact hp | apply List.mem_cons_of_mem))) hfX.2.2.1 (deep_list hfX.2.2.2.1) (show 4 + 3 + 64 < cLine by decide) ?_)
  k_with "eq" => (refine eq_str_same ?_)
  k_with "pre" =>
    first
    | exact trivial
    | exact hq9
    | exact ⟨hat_of (by k_asm) (by (repeat (first | exact hm1 | apply List.mem_cons_of_mem)); done) hr1 (fun p hp => by repeat (first | exact hp | apply List.mem_cons_of_mem)), hat_of (by k_asm) (by k_mem) hrS (fun p hp => by repeat (first | exact hp | apply List.mem_cons_of_mem))⟩
    | exact News.isList (by k_asm) (by k_mem)
    | exact News.get (by k_asm) (by k_mem)
    | exact At.mono (fun b o q => News.get (by k_asm) (by repeat (first | exact q | apply List.mem_cons_of_mem))) _ hxa
    | exact At.mono (fun b o q => News.get (by k_asm) (by repeat (first | exact q | apply List.mem_cons_of_mem))) _ hvL
    | exact hat_of (by k_asm) (by k_mem) (AtAll.append (AtAll.take _ hr1) hrS) (fun p hp => by repeat (first | exact hp | apply List.mem_cons_of_mem))
    | exact hat_of (by k_asm) (by k_mem) (AtAll.append hr1 hrS) (fun p hp => by repeat (first | exact hp | apply List.mem_cons_of_mem))
    | exact hat_of (by k_asm) (by k_mem) (AtAll.dropLast hr1) (fun p hp => by repeat (first | exact hp | apply List.mem_cons_of_mem))
    | exact hat_of (by k_asm) (by k_mem) hrS (fun p hp => by repeat (first | exact hp | apply List.mem_cons_of_mem))
    | exact hat_of (by k_asm) (by (repeat (first | exact hm1 | apply List.mem_cons_of_mem)); done) hr1 (fun p hp => by repeat (first | exact hp | apply List.mem_cons_of_mem))
    | (refine' ⟨_, News.isList ?pN ?pm, ?pi⟩
       (case pN => k_asm)
       (case pm => k_mem)
       (case pi => k_dflt (first | exact .cons _ _ (.cons _ _ (.cons _ _ (.cons _ _ (.cons _ _ hI1)))) | exact .cons _ _ hI1)))
  k_with "use" =>
    (with_reducible show wpAny _ _ (call (Value.ref 157) _) _ _ _)
    k_dflt (refine' Does.useL (common_path_does _ _ _ _ _ _ X1 S2 _ _ hfX.2.1 hfS.2.1 ((hS1.shared S2).fits (by decide)).2.1) ?uF ?uX ?uN ?uT ?uk ?ud ?ut ?up ?_)
    k_extra "usedL"
    obtain ⟨t9, rfl⟩ := hP9
    (try k_sweep)
  k_with "use" =>
    (with_reducible show wpAny _ _ (call (Value.ref 211) _) _ _ _)
    k_dflt (refine' Does.useL (shared_does _ _ _ _ (.ref a1) (.ref D2) X1 S2 (by omega) (by omega) hfX.2.2.1 hfS.2.2.1 (Nat.le_trans hfX.2.2.2.1 (by decide)) (Nat.le_trans hfS.2.2.2.1 (by decide))) ?uF ?uX ?uN ?uT ?uk ?ud ?ut ?up ?_)
    k_extra "usedL"
    have hq9 := hP9
    clear hP9
    (try k_sweep)
  k_with "use" =>
    (with_reducible show wpAny _ _ (call (Value.ref 138) _) _ _ _)
    k_dflt (refine' Does.useL (split_does _ _ _ _ (pathS X1) _ (Nat.le_trans hfX.2.1.1 (by decide))) ?uF ?uX ?uN ?uT ?uk ?ud ?ut ?up ?_)
    k_extra "usedL"
    obtain ⟨D9, t91, t92, rfl, hf9, hD9⟩ := hP9
    rw [(split_one hne1).1, (split_one hne1).2] at hD9
    replace N9 := News.add N9 (by with_reducible assumption) hD9 hf9
    (try k_sweep)
  k_with "use" =>
    (with_reducible show wpAny _ _ (call (Value.ref 197) _) _ _ _)
    have hdq := hS1.dropLast.depth
    k_dflt (refine' Does.useL (path_does _ _ _ _ X1.dropLast (hS1.dropLast.fits (by decide)).1 (hS1.dropLast.fits (by decide)).2.1 (.ref Db)) ?uF ?uX ?uN ?uT ?uk ?ud ?ut ?up ?_)
    k_extra "usedL"
    obtain ⟨t9, rfl⟩ := hP9
    (try k_sweep)
  k_with "use" =>
    (with_reducible show wpAny _ _ (call (Value.ref 197) _) _ _ _)
    have hdq := (hS1.shared S2).depth
    k_dflt (refine' Does.useL (path_does _ _ _ _ (shared X1 S2) ((hS1.shared S2).fits (by decide)).1 ((hS1.shared S2).fits (by decide)).2.1 r9) ?uF ?uX ?uN ?uT ?uk ?ud ?ut ?up ?_)
    k_extra "usedL"
    obtain ⟨t9, rfl⟩ := hP9
    (try k_sweep)
  k_with "use" =>
    (with_reducible show wpAny _ _ (call (Value.ref 192) _) _ _ _)
    k_dflt (refine' Does.useL (piece_does _ _ _ _ (X1.getLast hne1) hfL vL) ?uF ?uX ?uN ?uT ?uk ?ud ?ut ?up ?_)
    k_extra "usedL"
    obtain ⟨t9, rfl⟩ := hP9
    (try k_sweep)
  k_with "use" =>
    (with_reducible show wpAny _ _ (call (Value.ref 192) _) _ _ _)
    k_dflt (refine' Does.useL (piece_does _ _ _ _ xq hxf v) ?uF ?uX ?uN ?uT ?uk ?ud ?ut ?up ?_)
    k_extra "usedL"
    obtain ⟨t9, rfl⟩ := hP9
    (try k_sweep)
  k_with "use" =>
    (with_reducible show wpAny _ _ (call (Value.ref 204) _) _ _ _)
    k_dflt (refine' Does.useL (read_does _ _ _ _ (depths X1) X1 (Nat.le_refl _) hfX.1 hfX.2.1 _) ?uF ?uX ?uN ?uT ?uk ?ud ?ut ?up ?_)
    k_extra "usedL"
    obtain ⟨tl9, htl9, hat9⟩ := hP9
    have hq9 := At.mono (M' := fun b o => h9.get? b = some o) (fun b o q => (htl9 _ q).1) _ hat9
    clear hat9 htl9
    (try k_sweep)
  k_with "use" =>
    (with_reducible show wpAny _ _ (call (Value.ref 204) _) _ _ _)
    k_dflt (refine' Does.useL (read_does _ _ _ _ (depths S2) S2 (Nat.le_refl _) hfS.1 hfS.2.1 _) ?uF ?uX ?uN ?uT ?uk ?ud ?ut ?up ?_)
    k_extra "usedL"
    obtain ⟨tl9, htl9, hat9⟩ := hP9
    have hq9 := At.mono (M' := fun b o => h9.get? b = some o) (fun b o q => (htl9 _ q).1) _ hat9
    clear hat9 htl9
    (try k_sweep)
  k_with "use" =>
    (with_reducible show wpAny _ _ (call (Value.ref 152) _) _ _ _)
    k_dflt (refine' Does.useL (norm_path_does _ _ _ _ X1 _ hfX.2.1) ?uF ?uX ?uN ?uT ?uk ?ud ?ut ?up ?_)
    k_extra "usedL"
    obtain ⟨t9, rfl⟩ := hP9
    (try k_sweep)
  k_with "use" =>
    (with_reducible show wpAny _ _ (call (Value.ref 152) _) _ _ _)
    k_dflt (refine' Does.useL (norm_path_does _ _ _ _ S2 _ hfS.2.1) ?uF ?uX ?uN ?uT ?uk ?ud ?ut ?up ?_)
    k_extra "usedL"
    obtain ⟨t9, rfl⟩ := hP9
    (try k_sweep)
  k_with "use" =>
    (with_reducible show wpAny _ _ (call (Value.ref 37) _) _ _ _)
    k_dflt (refine' Does.useL (reduce_root_does _ _ _ _ _ us3 S2 _ hp3 hwS) ?uF ?uX ?uN ?uT ?uk ?ud ?ut ?up ?_)
    k_extra "usedL"
    obtain ⟨t9, rfl⟩ := hP9
    (try k_sweep)
  k_with "use" =>
    (with_reducible show wpAny _ _ (call (Value.ref 37) _) _ _ _)
    k_dflt (refine' Does.useL (reduce_one_does _ _ _ _ _ us3 X1 S2 _ hp3 hwX hwS) ?uF ?uX ?uN ?uT ?uk ?ud ?ut ?up ?_)
    k_extra "usedL"
    obtain ⟨t9, rfl⟩ := hP9
    (try k_sweep)
  k_with "use" =>
    (with_reducible show wpAny _ _ (call (Value.ref 37) _) _ _ _)
    k_dflt (refine' Does.useL (reduce_up_does _ _ _ _ _ us3 X1 S2 _ _ i hp3 (by omega) hwX hwS) ?uF ?uX ?uN ?uT ?uk ?ud ?ut ?up ?_)
    k_extra "usedL"
    obtain ⟨t9, rfl⟩ := hP9
    (try k_sweep)
  k_with "use" =>
    (with_reducible show wpAny _ _ (call (Value.ref 152) _) _ _ _)
    k_dflt (refine' Does.useL (norm_up_does _ _ _ _ X1 S2 _ i (by omega) hwX hwS) ?uF ?uX ?uN ?uT ?uk ?ud ?ut ?up ?_)
    k_extra "usedL"
    obtain ⟨t9, rfl⟩ := hP9
    (try k_sweep)
  k_with "use" =>
    (with_reducible show wpAny _ _ (call (Value.ref 197) _) _ _ _)
    have hdq := ((hS1.take (X1.length - i)).append hSS).depth
    k_dflt (refine' Does.useL (path_does _ _ _ _ (X1.take (X1.length - i) ++ S2) (((hS1.take _).append hSS).fits (by decide)).1 (((hS1.take _).append hSS).fits (by decide)).2.1 (.ref De)) ?uF ?uX ?uN ?uT ?uk ?ud ?ut ?up ?_)
    k_extra "usedL"
    obtain ⟨t9, rfl⟩ := hP9
    (try k_sweep)
  k_with "use" =>
    (with_reducible show wpAny _ _ (call (Value.ref 197) _) _ _ _)
    have hq0 := hp5
    clear hq0
    have hdq := (hS1.append hSS).depth
    k_dflt (refine' Does.useL (path_does _ _ _ _ (X1 ++ S2) hfA.1 hfA.2.1 (.ref De)) ?uF ?uX ?uN ?uT ?uk ?ud ?ut ?up ?_)
    k_extra "usedL"
    obtain ⟨t9, rfl⟩ := hP9
    (try k_sweep)
  k_with "use" =>
    (with_reducible show wpAny _ _ (call (Value.ref 197) _) _ _ _)
    k_dflt (refine' Does.useL (path_does _ _ _ _ S2 hfS.1 hfS.2.1 (.ref D2)) ?uF ?uX ?uN ?uT ?uk ?ud ?ut ?up ?_)
    k_extra "usedL"
    obtain ⟨t9, rfl⟩ := hP9
    (try k_sweep)
  k_with "use" =>
    (with_reducible show wpAny _ _ (call (Value.ref 197) _) _ _ _)
    k_dflt (refine' Does.useL (path_does _ _ _ _ X1 hfX.1 hfX.2.1 (.ref a1)) ?uF ?uX ?uN ?uT ?uk ?ud ?ut ?up ?_)
    k_extra "usedL"
    obtain ⟨t9, rfl⟩ := hP9
    (try k_sweep)
  k_with "use" =>
    (with_reducible show wpAny _ _ (call (Value.ref 171) _) _ _ _)
    k_dflt (refine' Does.useL (first_does _ _ _ _ _ (10 :: ms1) (by simp only [List.length_cons]; omega)) ?uF ?uX ?uN ?uT ?uk ?ud ?ut ?up ?_)
    k_extra "usedL"
    obtain ⟨tl2, X2, a2, vs2, n2, rfl, htl2, hm2, hr2, hS2, hX2⟩ := hP9
    replace hS2 : Small 20 X2 := ⟨hS2.tidy, hS2.depth, Nat.le_trans hS2.nodes (by simp only [List.length_cons]; omega)⟩
    have hL2 := (hS2.fits (by decide)).2.2.2.2.2
    clear hX2
    dsimp only at htl2
    replace N9 := News.addEnd N9 (by with_reducible assumption) htl2
    have hof2 := Offs.more hof (by with_reducible assumption) htl2
    replace hof := hof2 (by k_dflt (exact four_mem ⟨_, by k_mem⟩ ⟨_, by k_mem⟩ ⟨_, by k_mem⟩ ⟨_, by k_mem⟩))
    clear hof2
    replace hm1 := List.mem_append_left tl2 hm1
    replace hm2 := List.mem_append_right tl1 hm2
    replace hr1 := AtAll.left (t2 := tl2) hr1
    replace hr2 := AtAll.right (t1 := tl1) hr2
    simp only [List.cons_append] at N9
    clear htl2
    generalize tl1 ++ tl2 = tl at N9 hof hm1 hm2 hr1 hr2
    clear hI1 hle1 hv1 hw1
    (try k_sweep)
  k_with "use" =>
    (with_reducible show wpAny _ _ (call (Value.ref 171) _) _ _ _)
    k_dflt (refine' Does.useL (first_does _ _ _ _ _ (110 :: 0 :: 6 :: 1 :: 2 :: ms1) (by simp only [List.length_cons]; omega)) ?uF ?uX ?uN ?uT ?uk ?ud ?ut ?up ?_)
    k_extra "usedL"
    obtain ⟨tl1, X1, a1, vs1, n1, rfl, htl1, hm1, hr1, hS1, hX1⟩ := hP9
    have hne1 : X1 ≠ [] := by rw [hX1]; exact nested_ne _
    replace hS1 : Small 24 X1 := ⟨hS1.tidy, hS1.depth, Nat.le_trans hS1.nodes (by simp only [List.length_cons]; omega)⟩
    have hL1 := (hS1.fits (by decide)).2.2.2.2.2
    clear hX1
    dsimp only at htl1
    have hof := Offs.of (News.drop (by with_reducible assumption) 4) htl1
    replace N9 := News.addEnd (News.drop N9 3) (by with_reducible assumption) htl1
    simp only [List.drop_succ_cons, List.drop_zero, List.cons_append, List.nil_append, List.map_cons, List.map_nil] at N9 hof
    clear htl1 hI1 hle1 hv1 hw1
    (try k_sweep)
  k_steps
  · exact hxm
  · exact hxa
  · exact ⟨_, _, rfl, K9⟩)
end
end Mine
theorem PySem.Challenge.cw_il0066_01_holds : PySem.Challenge.rw_il0066_01.Holds := by
  exact Mine.lawT
