import Derived.Lib.Strings
namespace Go.Proofs.Qxb6608866a.Pl

def white (c : UInt8) : Bool := ((c.toNat : Int) == 32) || ((c.toNat : Int) == 9) || ((c.toNat : Int) == 10) || ((c.toNat : Int) == 13)
def paren (c : UInt8) : Bool := ((c.toNat : Int) == 40) || ((c.toNat : Int) == 41)

def flush (cur : List UInt8) : List (List UInt8) := if cur = [] then [] else [cur]

/-- The tokens of what is left, 'cur' the token that is open. -/
def tks : List UInt8 → List UInt8 → List (List UInt8)
  | cur, [] => flush cur
  | cur, c :: t => if white c = true then flush cur ++ tks [] t else if paren c = true then flush cur ++ [c] :: tks [] t else tks (cur ++ [c]) t

/-- The fields of what is left, 'cur' the field that is open. -/
def flds : List UInt8 → List UInt8 → List (List UInt8)
  | cur, [] => flush cur
  | cur, c :: t => if white c = true then flush cur ++ flds [] t else flds (cur ++ [c]) t

def padOne (c : UInt8) : List UInt8 := if paren c = true then [32, c, 32] else [c]
def pad (l : List UInt8) : List UInt8 := l.flatMap padOne

theorem paren_not_white {c : UInt8} (h : paren c = true) : white c = false := by
  unfold paren at h
  unfold white
  simp only [Bool.or_eq_true, beq_iff_eq] at h
  rcases h with h | h <;> rw [h] <;> decide

theorem flush_one (c : UInt8) : flush [c] = [[c]] := by simp [flush]
theorem flush_nil : flush [] = [] := by simp [flush]
theorem white32 : white 32 = true := by decide

theorem flds_pad : ∀ (l cur : List UInt8), flds cur (pad l) = tks cur l
  | [], _ => rfl
  | c :: t, cur => by
    have ih := flds_pad t
    show flds cur (padOne c ++ pad t) = _
    unfold padOne
    by_cases hp : paren c = true
    · rw [if_pos hp]
      have hw := paren_not_white hp
      show flds cur (32 :: c :: 32 :: pad t) = _
      rw [flds, if_pos white32, flds, if_neg (by rw [hw]; simp), List.nil_append, flds, if_pos white32, ih, flush_one, tks, if_neg (by rw [hw]; simp), if_pos hp]
      rfl
    · rw [if_neg hp]
      show flds cur (c :: pad t) = _
      rw [flds, tks]
      by_cases hw : white c = true
      · rw [if_pos hw, if_pos hw, ih]
      · rw [if_neg hw, if_neg hw, if_neg hp, ih]

theorem tks_blank : ∀ (l cur : List UInt8), tks cur (l ++ [32]) = tks cur l
  | [], cur => by
    show (if white 32 = true then flush cur ++ tks [] [] else if paren 32 = true then flush cur ++ [32] :: tks [] [] else tks (cur ++ [32]) []) = flush cur
    rw [if_pos white32]
    simp [tks, flush_nil]
  | c :: t, cur => by
    show tks cur (c :: (t ++ [32])) = tks cur (c :: t)
    rw [tks, tks, tks_blank t, tks_blank t]

/-! ### by places -/
theorem drop_cons {l : List UInt8} {i : Nat} {c : UInt8} (h : l[i]? = some c) : l.drop i = c :: l.drop (i + 1) := by
  obtain ⟨hi, hc⟩ := List.getElem?_eq_some_iff.1 h
  rw [List.drop_eq_getElem_cons hi, hc]

theorem take_cons {l : List UInt8} {k i : Nat} {c : UInt8} (hk : k ≤ i) (h : l[i]? = some c) : (l.drop k).take (i + 1 - k) = (l.drop k).take (i - k) ++ [c] := by
  have : (l.drop k)[i - k]? = some c := by rw [List.getElem?_drop, show k + (i - k) = i by omega]; exact h
  rw [show i + 1 - k = (i - k) + 1 by omega, List.take_add_one, this]; rfl

/-- The token that is open at place i: none, or the text from place k on. -/
def cur (l : List UInt8) : Option Nat → Nat → List UInt8
  | none, _ => []
  | some k, i => (l.drop k).take (i - k)

/-- What holds where the scanner of the tokens stands at place pos of the text and a blank behind it. -/
structure EI (l : List UInt8) (pos : Nat) (s : Option Nat) (out : List (List UInt8)) : Prop where
  le : pos ≤ l.length + 1
  eq : out ++ tks (cur l s pos) ((l ++ [32]).drop pos) = tks [] l
  opn : ∀ k, s = some k → k < pos ∧ pos ≤ l.length
  few : out.length ≤ 2 * pos

theorem ei_start (l : List UInt8) : EI l 0 none [] := ⟨Nat.zero_le _, by show tks [] (l ++ [32]) = _; exact tks_blank l [], (fun _ h => by cases h), Nat.le_refl _⟩

theorem cur_ne {l : List UInt8} {k pos : Nat} (h1 : k < pos) (h2 : pos ≤ l.length) : flush ((l.drop k).take (pos - k)) = [(l.drop k).take (pos - k)] := by
  unfold flush
  rw [if_neg]
  intro e
  have := congrArg List.length e
  rw [List.length_take, List.length_drop, List.length_nil] at this
  omega

theorem ei_white {l : List UInt8} {pos : Nat} {s : Option Nat} {out : List (List UInt8)} {c : UInt8} (h : EI l pos s out) (hc : (l ++ [32])[pos]? = some c) (hw : white c = true) : EI l (pos + 1) none (out ++ flush (cur l s pos)) := by
  have hlt := (List.getElem?_eq_some_iff.1 hc).1
  simp only [List.length_append, List.length_cons, List.length_nil] at hlt
  refine ⟨by omega, ?_, (fun _ h => by cases h), ?_⟩
  · rw [← h.eq, drop_cons hc, tks, if_pos hw, List.append_assoc]; rfl
  · have := h.few
    have : (flush (cur l s pos)).length ≤ 1 := by unfold flush; split <;> simp
    rw [List.length_append]; omega

theorem ei_paren {l : List UInt8} {pos : Nat} {s : Option Nat} {out : List (List UInt8)} {c : UInt8} (h : EI l pos s out) (hc : (l ++ [32])[pos]? = some c) (hp : paren c = true) : EI l (pos + 1) none (out ++ flush (cur l s pos) ++ [[c]]) := by
  have hlt := (List.getElem?_eq_some_iff.1 hc).1
  simp only [List.length_append, List.length_cons, List.length_nil] at hlt
  have hw := paren_not_white hp
  refine ⟨by omega, ?_, (fun _ h => by cases h), ?_⟩
  · rw [← h.eq, drop_cons hc, tks, if_neg (by rw [hw]; simp), if_pos hp]
    simp [List.append_assoc, cur]
  · have := h.few
    have : (flush (cur l s pos)).length ≤ 1 := by unfold flush; split <;> simp
    rw [List.length_append, List.length_append]; simp; omega

theorem ei_other {l : List UInt8} {pos : Nat} {s : Option Nat} {out : List (List UInt8)} {c : UInt8} (h : EI l pos s out) (hc : (l ++ [32])[pos]? = some c) (hw : white c = false) (hp : paren c = false) : EI l (pos + 1) (some (s.getD pos)) out := by
  have hlt := (List.getElem?_eq_some_iff.1 hc).1
  simp only [List.length_append, List.length_cons, List.length_nil] at hlt
  have hl : pos < l.length := by
    rcases Nat.lt_or_ge pos l.length with h | h
    · exact h
    · have e : pos = l.length := by omega
      subst e
      rw [List.getElem?_append_right (Nat.le_refl _)] at hc
      simp at hc
      subst hc
      simp [white32] at hw
  have hcl : l[pos]? = some c := by rw [List.getElem?_append_left hl] at hc; exact hc
  have e1 : cur l (some (s.getD pos)) (pos + 1) = cur l s pos ++ [c] := by
    cases s with
    | none =>
      show (l.drop pos).take (pos + 1 - pos) = [] ++ [c]
      rw [take_cons (Nat.le_refl _) hcl]; simp
    | some k =>
      have := (h.opn k rfl).1
      show (l.drop k).take (pos + 1 - k) = _
      rw [take_cons (by omega) hcl]; rfl
  refine ⟨by omega, ?_, fun k hk => ?_, by have := h.few; omega⟩
  · rw [e1, ← h.eq, drop_cons hc]
    conv => rhs; rw [tks, if_neg (by rw [hw]; simp), if_neg (by rw [hp]; simp)]
  · cases hk
    refine ⟨?_, hl⟩
    cases s with
    | none => simp
    | some k => have := (h.opn k rfl).1; simp; omega

theorem ei_run {l : List UInt8} {pos : Nat} {s : Option Nat} {out : List (List UInt8)} (h : EI l pos s out) : ∀ n, 0 < n → (∀ j, j < n → ∃ c, (l ++ [32])[pos + j]? = some c ∧ white c = false ∧ paren c = false) → EI l (pos + n) (some (s.getD pos)) out
  | 0, h0, _ => absurd h0 (Nat.lt_irrefl _)
  | 1, _, hb => by
    obtain ⟨c, hc, hw, hp⟩ := hb 0 (by omega)
    exact ei_other h hc hw hp
  | n + 2, _, hb => by
    have ih := ei_run h (n + 1) (by omega) (fun j hj => hb j (by omega))
    obtain ⟨c, hc, hw, hp⟩ := hb (n + 1) (by omega)
    exact ei_other ih hc hw hp

theorem ei_end {l : List UInt8} {pos : Nat} {s : Option Nat} {out : List (List UInt8)} (h : EI l pos s out) (hp : l.length + 1 ≤ pos) : out = tks [] l := by
  have hs : s = none := by
    cases s with
    | none => rfl
    | some k => have := (h.opn k rfl).2; omega
  subst hs
  rw [← h.eq, List.drop_eq_nil_of_le (by simp; omega)]
  simp [cur, tks, flush_nil]

/-! ### the model's two loops -/
theorem pad_snoc (l : List UInt8) (c : UInt8) : pad (l ++ [c]) = pad l ++ padOne c := by simp [pad]
theorem padOne_le (c : UInt8) : (padOne c).length ≤ 3 := by unfold padOne; split <;> simp
theorem pad_le (l : List UInt8) : (pad l).length ≤ 3 * l.length := by
  induction l with
  | nil => simp [pad]
  | cons c t ih =>
    show (padOne c ++ pad t).length ≤ _
    have := padOne_le c
    rw [List.length_append, List.length_cons]; omega

structure FI (d : List UInt8) (i : Nat) (s : Option Nat) (out : List (List UInt8)) : Prop where
  le : i ≤ d.length
  eq : out ++ flds (cur d s i) (d.drop i) = flds [] d
  opn : ∀ k, s = some k → k < i
  few : out.length ≤ i

theorem fi_start (d : List UInt8) : FI d 0 none [] := ⟨Nat.zero_le _, rfl, (fun _ h => by cases h), Nat.le_refl _⟩

theorem fi_white {d : List UInt8} {i : Nat} {s : Option Nat} {out : List (List UInt8)} {c : UInt8} (h : FI d i s out) (hc : d[i]? = some c) (hw : white c = true) : FI d (i + 1) none (out ++ flush (cur d s i)) := by
  have hlt := (List.getElem?_eq_some_iff.1 hc).1
  refine ⟨hlt, ?_, (fun _ h => by cases h), ?_⟩
  · rw [← h.eq, drop_cons hc, flds, if_pos hw, List.append_assoc]; rfl
  · have := h.few
    have : (flush (cur d s i)).length ≤ 1 := by unfold flush; split <;> simp
    rw [List.length_append]; omega

theorem fi_other {d : List UInt8} {i : Nat} {s : Option Nat} {out : List (List UInt8)} {c : UInt8} (h : FI d i s out) (hc : d[i]? = some c) (hw : white c = false) : FI d (i + 1) (some (s.getD i)) out := by
  have hlt := (List.getElem?_eq_some_iff.1 hc).1
  have e1 : cur d (some (s.getD i)) (i + 1) = cur d s i ++ [c] := by
    cases s with
    | none =>
      show (d.drop i).take (i + 1 - i) = [] ++ [c]
      rw [take_cons (Nat.le_refl _) hc]; simp
    | some k =>
      have := h.opn k rfl
      show (d.drop k).take (i + 1 - k) = _
      rw [take_cons (by omega) hc]; rfl
  refine ⟨hlt, ?_, fun k hk => ?_, by have := h.few; omega⟩
  · rw [e1, ← h.eq, drop_cons hc]
    conv => rhs; rw [flds, if_neg (by rw [hw]; simp)]
  · cases hk
    cases s with
    | none => simp
    | some k => have := h.opn k rfl; simp; omega

theorem fi_end {d : List UInt8} {i : Nat} {s : Option Nat} {out : List (List UInt8)} (h : FI d i s out) (hi : d.length ≤ i) : out ++ flush (cur d s i) = flds [] d := by
  rw [← h.eq, List.drop_eq_nil_of_le hi]; rfl

end Go.Proofs.Qxb6608866a.Pl
