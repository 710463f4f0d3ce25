import Derived.Lib.JoinSame2
namespace Go.Proofs.Qxb6604484aFmt.Cl
open Go.Lib.Pa

/-- The elements kept, the last first. -/
def keep (ro : Bool) (l : List UInt8) : List (List UInt8) := (els l).foldl (cleanStep ro) []

/-- A path's elements as Clean leaves them, the last first. -/
def Norm (ro : Bool) : List (List UInt8) → Prop
  | [] => True
  | x :: r => x ≠ [] ∧ x ≠ [46] ∧ 47 ∉ x ∧ (x = [46, 46] → ro = false ∧ ∀ y ∈ r, y = [46, 46]) ∧ Norm ro r

theorem norm_step {ro : Bool} {st : List (List UInt8)} (h : Norm ro st) (e : List UInt8) (he : 47 ∉ e) : Norm ro (cleanStep ro st e) := by
  unfold cleanStep
  by_cases h1 : e = [] ∨ e = [46]
  · rw [if_pos h1]; exact h
  · rw [if_neg h1]
    have h1a : e ≠ [] := fun x => h1 (.inl x)
    have h1b : e ≠ [46] := fun x => h1 (.inr x)
    by_cases h2 : e = [46, 46]
    · rw [if_pos h2]
      cases st with
      | nil =>
        cases ro with
        | true => simp [Norm]
        | false => simp [Norm, h2]
      | cons x r =>
        simp only
        by_cases hx : x = [46, 46]
        · rw [if_pos hx]
          have h' := h
          obtain ⟨_, _, _, hd, _⟩ := h'
          obtain ⟨hro, hall⟩ := hd hx
          refine ⟨h1a, h1b, he, fun _ => ⟨hro, ?_⟩, h⟩
          intro y hy
          rcases List.mem_cons.1 hy with e1 | e1
          · rw [e1]; exact hx
          · exact hall y e1
        · rw [if_neg hx]; exact h.2.2.2.2
    · rw [if_neg h2]
      exact ⟨h1a, h1b, he, fun x => absurd x h2, h⟩

theorem els_no47 : ∀ l : List UInt8, ∀ e ∈ els l, 47 ∉ e
  | [] => by simp [els]
  | c :: t => by
    have ih := els_no47 t
    by_cases hc : c = 47
    · subst hc
      rw [els_slash]
      intro e he
      rcases List.mem_cons.1 he with h | h
      · rw [h]; simp
      · exact ih e h
    · obtain ⟨a, r, har⟩ := els_ne t
      rw [els, if_neg hc, har]
      rw [har] at ih
      intro e he
      rcases List.mem_cons.1 he with h | h
      · rw [h]
        intro hm
        rcases List.mem_cons.1 hm with h' | h'
        · exact hc h'.symm
        · exact ih a (by simp) h'
      · exact ih e (by simp [h])

theorem norm_foldl (ro : Bool) : ∀ (es : List (List UInt8)) (st : List (List UInt8)), (∀ e ∈ es, 47 ∉ e) → Norm ro st → Norm ro (es.foldl (cleanStep ro) st)
  | [], _, _, h => h
  | e :: es, st, he, h => norm_foldl ro es _ (fun x hx => he x (by simp [hx])) (norm_step h e (he e (by simp)))

theorem norm_keep (ro : Bool) (l : List UInt8) : Norm ro (keep ro l) := norm_foldl ro _ _ (els_no47 l) trivial

theorem fold_norm (ro : Bool) : ∀ st : List (List UInt8), Norm ro st → st.reverse.foldl (cleanStep ro) [] = st
  | [], _ => rfl
  | x :: r, h => by
    have ih := fold_norm ro r h.2.2.2.2
    rw [List.reverse_cons, List.foldl_append, ih]
    obtain ⟨h1, h2, _, hd, _⟩ := h
    show cleanStep ro r x = x :: r
    by_cases hx : x = [46, 46]
    · obtain ⟨hro, hall⟩ := hd hx
      subst hro
      subst hx
      cases r with
      | nil => rfl
      | cons y r =>
        have hy := hall y (by simp)
        subst hy
        rfl
    · exact step_elem ro r x h1 h2 hx

theorem els_plain (x : List UInt8) (h : 47 ∉ x) : els x = [x] := by
  have := els_elem x [] h (.inl rfl)
  simpa [tailEls] using this

theorem flatMap_els : ∀ X : List (List UInt8), (∀ x ∈ X, 47 ∉ x) → X.flatMap els = X
  | [], _ => rfl
  | x :: X, h => by
    rw [List.flatMap_cons, els_plain x (h x (by simp)), flatMap_els X (fun y hy => h y (by simp [hy]))]
    rfl

theorem norm_mem {ro : Bool} : ∀ {st : List (List UInt8)}, Norm ro st → ∀ x ∈ st, x ≠ [] ∧ 47 ∉ x
  | [], _, x, hx => by simp at hx
  | y :: r, h, x, hx => by
    rcases List.mem_cons.1 hx with e | e
    · subst e; exact ⟨h.1, h.2.2.1⟩
    · exact norm_mem h.2.2.2.2 x e

/-- The elements of what is joined are the elements. -/
theorem fold_join (ro : Bool) (st : List (List UInt8)) (h : Norm ro st) : (els (([47] : List UInt8).intercalate st.reverse)).foldl (cleanStep ro) [] = st := by
  have hm := norm_mem h
  have hf := fold_norm ro st h
  have hm' : ∀ x ∈ st.reverse, x ≠ [] ∧ 47 ∉ x := fun x hx => hm x (by simpa using hx)
  cases hr : st.reverse with
  | nil =>
    have : st = [] := by simpa using hr
    subst this
    simp [List.intercalate, els, step_nil]
  | cons y Y =>
    rw [els_J y Y, ← hr, flatMap_els _ (fun x hx => (hm' x hx).2), hf]

theorem join_head {ro : Bool} {st : List (List UInt8)} (h : Norm ro st) : (([47] : List UInt8).intercalate st.reverse).head? ≠ some 47 ∧ (([47] : List UInt8).intercalate st.reverse = [] ↔ st = []) := by
  have hm := norm_mem h
  have hm' : ∀ x ∈ st.reverse, x ≠ [] ∧ 47 ∉ x := fun x hx => hm x (by simpa using hx)
  cases hr : st.reverse with
  | nil =>
    have : st = [] := by simpa using hr
    subst this
    simp [List.intercalate]
  | cons y Y =>
    rw [hr] at hm'
    obtain ⟨hy, hy47⟩ := hm' y (by simp)
    obtain ⟨j1, j2⟩ := J_head y Y hy
    refine ⟨?_, ?_⟩
    · rw [j1]
      intro e
      obtain ⟨t, ht⟩ : ∃ t, y = 47 :: t := by
        cases y with
        | nil => simp at e
        | cons a t => simp at e; exact ⟨t, by rw [e]⟩
      exact hy47 (by rw [ht]; simp)
    · constructor
      · intro e; exact absurd e j2
      · intro e
        subst e
        simp at hr

theorem cleanEls_eq (l : List UInt8) : cleanEls l = if (l.head? == some 47) = true then 47 :: ([47] : List UInt8).intercalate (keep true l).reverse else if ([47] : List UInt8).intercalate (keep false l).reverse = [] then [46] else ([47] : List UInt8).intercalate (keep false l).reverse := by
  by_cases hne : l = []
  · subst hne; decide
  · cases h : (l.head? == some 47) with
    | true => rw [if_pos rfl]; exact cleanEls_abs l hne h
    | false => rw [if_neg (by simp)]; exact cleanEls_rel l hne h

theorem cleanEls_ne (l : List UInt8) : cleanEls l ≠ [] := by
  rw [cleanEls_eq]
  split
  · simp
  · split
    · simp
    · assumption

theorem cleanEls_head (l : List UInt8) : ((cleanEls l).head? == some 47) = (l.head? == some 47) := by
  rw [cleanEls_eq]
  cases h : (l.head? == some 47) with
  | true => simp
  | false =>
    simp only [Bool.false_eq_true, if_false]
    split
    · rfl
    · have := (join_head (norm_keep false l)).1
      simpa using this

theorem cleanEls_idem (l : List UInt8) : cleanEls (cleanEls l) = cleanEls l := by
  have hh := cleanEls_head l
  rw [cleanEls_eq (cleanEls l), hh]
  cases h : (l.head? == some 47) with
  | true =>
    rw [if_pos rfl]
    have e : cleanEls l = 47 :: ([47] : List UInt8).intercalate (keep true l).reverse := by rw [cleanEls_eq, if_pos h]
    have k : keep true (cleanEls l) = keep true l := by
      rw [e]
      unfold keep
      rw [els_slash, List.foldl_cons, step_nil]
      exact fold_join true (keep true l) (norm_keep true l)
    rw [k, e]
  | false =>
    rw [if_neg (by simp)]
    have e : cleanEls l = if ([47] : List UInt8).intercalate (keep false l).reverse = [] then [46] else ([47] : List UInt8).intercalate (keep false l).reverse := by rw [cleanEls_eq, if_neg (by rw [h]; simp)]
    by_cases hz : ([47] : List UInt8).intercalate (keep false l).reverse = []
    · rw [if_pos hz] at e
      rw [e]; decide
    · rw [if_neg hz] at e
      have k : keep false (cleanEls l) = keep false l := by
        rw [e]
        exact fold_join false (keep false l) (norm_keep false l)
      rw [k, e, if_neg hz]

/-- What holds where the scanner stands at place i between two elements, 'st' the elements kept, the last first. -/
structure Inv (l : List UInt8) (ro : Bool) (i : Nat) (st : List (List UInt8)) : Prop where
  le : i ≤ l.length
  fold : (els (l.drop i)).foldl (cleanStep ro) st = keep ro l
  few : st.length ≤ i
  short : ∀ e ∈ st, e.length ≤ l.length
  norm : Norm ro st

theorem inv_start (l : List UInt8) (ro : Bool) : Inv l ro 0 [] := ⟨Nat.zero_le _, rfl, Nat.le_refl _, by simp, trivial⟩

theorem inv_end {l : List UInt8} {ro : Bool} {i : Nat} {st : List (List UInt8)} (h : Inv l ro i st) (hi : l.length ≤ i) : st = keep ro l := by
  have := h.fold
  rw [List.drop_eq_nil_of_le hi] at this
  simpa [els, step_nil] using this

theorem drop_cons {l : List UInt8} {i : Nat} {c : UInt8} (h : l[i]? = some c) : l.drop i = c :: l.drop (i + 1) := by
  obtain ⟨hi, hc⟩ := List.getElem?_eq_some_iff.1 h
  rw [List.drop_eq_getElem_cons hi, hc]

theorem inv_slash {l : List UInt8} {ro : Bool} {i : Nat} {st : List (List UInt8)} (h : Inv l ro i st) (hc : l[i]? = some 47) : Inv l ro (i + 1) st := by
  obtain ⟨hi, _⟩ := List.getElem?_eq_some_iff.1 hc
  refine ⟨hi, ?_, Nat.le_succ_of_le h.few, h.short, h.norm⟩
  have := h.fold
  rw [drop_cons hc, els_slash, List.foldl_cons, step_nil] at this
  exact this

theorem step_few (ro : Bool) (st : List (List UInt8)) (e : List UInt8) : (cleanStep ro st e).length ≤ st.length + 1 := by
  unfold cleanStep
  split
  · omega
  · split
    · cases st with
      | nil => cases ro <;> simp
      | cons x r =>
        simp only
        split
        · simp
        · simp only [List.length_cons]; omega
    · simp

theorem step_short {ro : Bool} {st : List (List UInt8)} {e : List UInt8} {n : Nat} (h : ∀ x ∈ st, x.length ≤ n) (he : e.length ≤ n) : ∀ x ∈ cleanStep ro st e, x.length ≤ n := by
  have hc : ∀ x ∈ e :: st, x.length ≤ n := by
    intro x hx
    rcases List.mem_cons.1 hx with e1 | e1
    · rw [e1]; exact he
    · exact h x e1
  unfold cleanStep
  split
  · exact h
  · split
    · cases st with
      | nil =>
        cases ro with
        | true => simp
        | false => simpa using he
      | cons y r =>
        simp only
        split
        · exact hc
        · exact fun x hx => h x (by simp [hx])
    · exact hc

theorem inv_seg {l : List UInt8} {ro : Bool} {i j : Nat} {st : List (List UInt8)} (h : Inv l ro i st) (hij : i < j) (hj : j ≤ l.length) (hn : ∀ k, i ≤ k → k < j → l[k]? ≠ some 47) (he : j = l.length ∨ l[j]? = some 47) :
    Inv l ro j (cleanStep ro st ((l.drop i).take (j - i))) := by
  have e1 : l.drop i = (l.drop i).take (j - i) ++ l.drop j := by
    rw [show j = i + (j - i) by omega, ← List.drop_drop, show i + (j - i) - i = j - i by omega, List.take_append_drop]
  have h47 : 47 ∉ (l.drop i).take (j - i) := by
    intro hm
    obtain ⟨k, hk, hkk⟩ := List.mem_iff_getElem.1 hm
    have hlt : k < j - i := by rw [List.length_take] at hk; omega
    have : l[i + k]? = some 47 := by
      have h2 : ((l.drop i).take (j - i))[k]? = some 47 := List.getElem?_eq_some_iff.2 ⟨hk, hkk⟩
      rw [List.getElem?_take, if_pos hlt, List.getElem?_drop] at h2
      exact h2
    exact hn (i + k) (by omega) (by omega) this
  have hr : l.drop j = [] ∨ (l.drop j).head? = some 47 := by
    rcases he with he | he
    · left; rw [he]; simp
    · right; rw [List.head?_drop]; exact he
  have hf := h.fold
  rw [e1, els_elem _ _ h47 hr, List.foldl_cons, ← foldl_rest _ _ _ hr] at hf
  refine ⟨hj, hf, ?_, step_short h.short (by rw [List.length_take, List.length_drop]; omega), norm_step h.norm _ h47⟩
  have := step_few ro st ((l.drop i).take (j - i))
  have := h.few
  omega

/-- The bytes gathered when the first j of the elements X have been written. -/
def bufAt (ro : Bool) (X : List (List UInt8)) (j : Nat) : List UInt8 := (if ro = true then [47] else []) ++ ([47] : List UInt8).intercalate (X.take j)

theorem bufAt_zero (ro : Bool) (X : List (List UInt8)) : bufAt ro X 0 = if ro = true then [47] else [] := by simp [bufAt, List.intercalate]

theorem take_snoc {X : List (List UInt8)} {j : Nat} {x : List UInt8} (h : X[j]? = some x) : X.take (j + 1) = X.take j ++ [x] := by
  rw [List.take_add_one, h]; rfl

theorem bufAt_first {ro : Bool} {X : List (List UInt8)} {x : List UInt8} (h : X[0]? = some x) : bufAt ro X 1 = bufAt ro X 0 ++ x := by
  have : X.take 1 = [x] := by rw [take_snoc h]; simp
  unfold bufAt
  rw [this, List.take_zero, J_one]
  simp [List.intercalate]

theorem bufAt_next {ro : Bool} {X : List (List UInt8)} {j : Nat} {x : List UInt8} (hj : 0 < j) (h : X[j]? = some x) : bufAt ro X (j + 1) = (bufAt ro X j ++ [47]) ++ x := by
  have hne : X.take j ≠ [] := by
    intro e
    have hl := congrArg List.length e
    have := (List.getElem?_eq_some_iff.1 h).1
    rw [List.length_take, List.length_nil] at hl
    omega
  unfold bufAt
  rw [take_snoc h, inter_snoc x _ hne]
  simp [List.append_assoc]

theorem bufAt_le {ro : Bool} {X : List (List UInt8)} {n : Nat} (hX : ∀ x ∈ X, x.length ≤ n) : ∀ j, j ≤ X.length → (bufAt ro X j).length ≤ 1 + j * (n + 1)
  | 0, _ => by rw [bufAt_zero]; cases ro <;> simp
  | j + 1, h => by
    have ih := bufAt_le (ro := ro) hX j (by omega)
    have hx : X[j]? = some X[j] := List.getElem?_eq_getElem (by omega)
    have hlen := hX X[j] (List.getElem_mem _)
    rw [Nat.succ_mul]
    by_cases hj : j = 0
    · subst hj
      rw [bufAt_first hx, List.length_append]
      omega
    · rw [bufAt_next (by omega) hx, List.length_append, List.length_append]
      simp only [List.length_cons, List.length_nil]
      omega

theorem bufAt_end (l : List UInt8) (ro : Bool) (h : (l.head? == some 47) = ro) (st : List (List UInt8)) (hst : st = keep ro l) : cleanEls l = if bufAt ro st.reverse st.length = [] then [46] else bufAt ro st.reverse st.length := by
  have e : bufAt ro st.reverse st.length = (if ro = true then [47] else []) ++ ([47] : List UInt8).intercalate st.reverse := by
    unfold bufAt
    rw [List.take_of_length_le (by simp)]
  rw [e, cleanEls_eq, h, hst]
  cases ro <;> simp

end Go.Proofs.Qxb6604484aFmt.Cl
