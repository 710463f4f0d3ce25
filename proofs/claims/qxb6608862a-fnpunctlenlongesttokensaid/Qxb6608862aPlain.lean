import Derived.Lib.Strings
namespace Go.Proofs.Qxb6608862a.Pl

/-- A punctuation token of one byte. -/
def sing (c : UInt8) : Bool := ((c.toNat : Int) == 123) || ((c.toNat : Int) == 125) || ((c.toNat : Int) == 40) || ((c.toNat : Int) == 41) || ((c.toNat : Int) == 91) || ((c.toNat : Int) == 93) || ((c.toNat : Int) == 44) || ((c.toNat : Int) == 59) || ((c.toNat : Int) == 124) || ((c.toNat : Int) == 94) || ((c.toNat : Int) == 64) || ((c.toNat : Int) == 46) || ((c.toNat : Int) == 58) || ((c.toNat : Int) == 33) || ((c.toNat : Int) == 60) || ((c.toNat : Int) == 45)

def p3 : List UInt8 → Bool
  | a :: b :: c :: _ => (a == 58 && b == 58 && c == 61) || (a == 46 && b == 46 && c == 46)
  | _ => false
def p2 : List UInt8 → Bool
  | a :: b :: _ => (a == 46 && b == 46) || (a == 91 && b == 91) || (a == 93 && b == 93)
  | _ => false
def p1 : List UInt8 → Bool
  | a :: _ => sing a
  | [] => false

/-- The length of the longest token at the head. -/
def plen (l : List UInt8) : Nat := if p3 l = true then 3 else if p2 l = true then 2 else if p1 l = true then 1 else 0

def oneB : List UInt8 → Bool
  | [c] => sing c
  | _ => false

/-- Is x, whole, one token? -/
def isTok (x : List UInt8) : Bool := (x == [58, 58, 61]) || (x == [46, 46, 46]) || (x == [46, 46]) || (x == [91, 91]) || (x == [93, 93]) || oneB x

theorem plen_le (l : List UInt8) : plen l ≤ 3 ∧ plen l ≤ l.length := by
  match l with
  | [] => simp [plen, p3, p2, p1]
  | [a] => cases h : sing a <;> simp [plen, p3, p2, p1, h]
  | [a, b] => cases h2 : p2 [a, b] <;> cases h : sing a <;> simp [plen, p3, p1, h, h2]
  | a :: b :: c :: t =>
    have : plen (a :: b :: c :: t) ≤ 3 := by
      unfold plen
      split
      · omega
      · split
        · omega
        · split <;> omega
    simp only [List.length_cons]
    omega

theorem tok3 (a b c : UInt8) (t : List UInt8) : isTok ((a :: b :: c :: t).take 3) = p3 (a :: b :: c :: t) := by
  simp [isTok, oneB, p3, Bool.and_assoc]

theorem tok2 (a b : UInt8) (t : List UInt8) : isTok ((a :: b :: t).take 2) = p2 (a :: b :: t) := by
  simp [isTok, oneB, p2]

theorem tok1 (a : UInt8) (t : List UInt8) : isTok ((a :: t).take 1) = p1 (a :: t) := by
  simp [isTok, oneB, p1]

/-- Trying the prefixes from the longest down. -/
theorem plen_is (l : List UInt8) : plen l = if 3 ≤ l.length ∧ isTok (l.take 3) = true then 3 else if 2 ≤ l.length ∧ isTok (l.take 2) = true then 2 else if 1 ≤ l.length ∧ isTok (l.take 1) = true then 1 else 0 := by
  match l with
  | [] => simp [plen, p3, p2, p1]
  | [a] =>
    rw [tok1]
    simp [plen, p3, p2]
  | [a, b] =>
    rw [tok2, tok1]
    simp [plen, p3]
  | a :: b :: c :: t =>
    rw [tok3, tok2, tok1]
    simp [plen]

theorem plen_take (l : List UInt8) : plen (l.take (plen l)) = plen l := by
  match l with
  | [] => rfl
  | [a] =>
    cases h : sing a <;> simp [plen, p3, p2, p1, h]
  | [a, b] =>
    cases h2 : p2 [a, b]
    · cases h : sing a
      · simp [plen, p3, p1, h, h2]
        rfl
      · simp [plen, p3, p1, h, h2]
        rfl
    · simp [plen, p3, h2]
  | a :: b :: c :: t =>
    cases h3 : p3 (a :: b :: c :: t)
    · cases h2 : p2 (a :: b :: c :: t)
      · cases h : sing a <;> simp [plen, p1, h, h2, h3]
        · simp [p3, p2]
        · simp [p3, p2]
      · have h2' : p2 [a, b] = true := h2
        simp [plen, h2, h3, h2']
        simp [p3]
    · have h3' : p3 [a, b, c] = true := h3
      simp [plen, h3, h3']

theorem p3_app (s t : List UInt8) (h : p3 s = true) : p3 (s ++ t) = true := by
  match s, h with
  | a :: b :: c :: r, h => exact h
theorem p2_app (s t : List UInt8) (h : p2 s = true) : p2 (s ++ t) = true := by
  match s, h with
  | a :: b :: r, h => exact h
theorem p1_app (s t : List UInt8) (h : p1 s = true) : p1 (s ++ t) = true := by
  match s, h with
  | a :: r, h => exact h

theorem plen_app (s t : List UInt8) : plen s ≤ plen (s ++ t) := by
  unfold plen
  by_cases h3 : p3 s = true
  · rw [if_pos h3, if_pos (p3_app s t h3)]; exact Nat.le_refl _
  · rw [if_neg h3]
    by_cases h2 : p2 s = true
    · rw [if_pos h2, if_pos (p2_app s t h2)]
      split <;> omega
    · rw [if_neg h2]
      by_cases h1 : p1 s = true
      · rw [if_pos h1, if_pos (p1_app s t h1)]
        split <;> (try split) <;> omega
      · rw [if_neg h1]; omega

theorem plen_long (s t : List UInt8) (h : 3 ≤ s.length) : plen (s ++ t) = plen s := by
  match s, h with
  | a :: b :: c :: r, _ => rfl

/-- The tokens of more than one byte, in the text's order. -/
def toks : List (List UInt8) := [[58, 58, 61], [46, 46, 46], [46, 46], [91, 91], [93, 93]]

theorem p3_prefix (l : List UInt8) : p3 l = (([58, 58, 61] : List UInt8).isPrefixOf l || ([46, 46, 46] : List UInt8).isPrefixOf l) := by
  match l with
  | [] => rfl
  | [a] => simp [p3, List.isPrefixOf]
  | [a, b] => simp [p3, List.isPrefixOf]
  | a :: b :: c :: t =>
    simp only [p3, List.isPrefixOf, Bool.and_true, Bool.and_assoc]
    rw [show ((58 : UInt8) == a) = (a == 58) from BEq.comm, show ((58 : UInt8) == b) = (b == 58) from BEq.comm, show ((61 : UInt8) == c) = (c == 61) from BEq.comm, show ((46 : UInt8) == a) = (a == 46) from BEq.comm, show ((46 : UInt8) == b) = (b == 46) from BEq.comm, show ((46 : UInt8) == c) = (c == 46) from BEq.comm]

theorem p2_prefix (l : List UInt8) : p2 l = (([46, 46] : List UInt8).isPrefixOf l || ([91, 91] : List UInt8).isPrefixOf l || ([93, 93] : List UInt8).isPrefixOf l) := by
  match l with
  | [] => rfl
  | [a] => simp [p2, List.isPrefixOf]
  | a :: b :: t =>
    simp only [p2, List.isPrefixOf, Bool.and_true]
    rw [show ((46 : UInt8) == a) = (a == 46) from BEq.comm, show ((46 : UInt8) == b) = (b == 46) from BEq.comm, show ((91 : UInt8) == a) = (a == 91) from BEq.comm, show ((91 : UInt8) == b) = (b == 91) from BEq.comm, show ((93 : UInt8) == a) = (a == 93) from BEq.comm, show ((93 : UInt8) == b) = (b == 93) from BEq.comm]

/-- No one of the first k tokens heads l. -/
def NoTok (l : List UInt8) (k : Nat) : Prop := ∀ j, j < k → ∀ t, toks[j]? = some t → t.isPrefixOf l = false

theorem noTok_zero (l : List UInt8) : NoTok l 0 := fun _ h => absurd h (Nat.not_lt_zero _)
theorem noTok_succ {l t : List UInt8} {k : Nat} (h : NoTok l k) (ht : toks[k]? = some t) (hp : t.isPrefixOf l = false) : NoTok l (k + 1) := fun j hj t' ht' => by
  by_cases e : j = k
  · subst e
    rw [ht] at ht'
    obtain rfl := Option.some.inj ht'
    exact hp
  · exact h j (by omega) t' ht'

theorem noTok_end {l : List UInt8} (h : NoTok l 5) : plen l = if p1 l = true then 1 else 0 := by
  have h0 := h 0 (by omega) _ rfl
  have h1 := h 1 (by omega) _ rfl
  have h2 := h 2 (by omega) _ rfl
  have h3 := h 3 (by omega) _ rfl
  have h4 := h 4 (by omega) _ rfl
  unfold plen
  rw [p3_prefix, p2_prefix, h0, h1, h2, h3, h4]
  simp

theorem tok_hit {l t : List UInt8} {k : Nat} (h : NoTok l k) (ht : toks[k]? = some t) (hp : t.isPrefixOf l = true) : plen l = t.length := by
  unfold plen
  rw [p3_prefix, p2_prefix]
  match k, ht with
  | 0, ht =>
    obtain rfl := Option.some.inj ht
    rw [hp]; simp
  | 1, ht =>
    obtain rfl := Option.some.inj ht
    rw [hp]; simp
  | 2, ht =>
    have h0 := h 0 (by omega) _ rfl
    have h1 := h 1 (by omega) _ rfl
    obtain rfl := Option.some.inj ht
    rw [h0, h1, hp]; simp
  | 3, ht =>
    have h0 := h 0 (by omega) _ rfl
    have h1 := h 1 (by omega) _ rfl
    obtain rfl := Option.some.inj ht
    rw [h0, h1, hp]; simp
  | 4, ht =>
    have h0 := h 0 (by omega) _ rfl
    have h1 := h 1 (by omega) _ rfl
    obtain rfl := Option.some.inj ht
    rw [h0, h1, hp]; simp
  | n + 5, ht => simp [toks] at ht

theorem toks_len {t : List UInt8} {k : Nat} (ht : toks[k]? = some t) : t.length ≤ 3 := by
  have hm := List.mem_of_getElem? ht
  simp [toks] at hm
  rcases hm with rfl | rfl | rfl | rfl | rfl <;> simp

/-- Nothing longer than k at the head is a token. -/
def NoL (l : List UInt8) (k : Nat) : Prop := ∀ j, k < j → j ≤ 3 → ¬ (j ≤ l.length ∧ isTok (l.take j) = true)

theorem noL_three (l : List UInt8) : NoL l 3 := fun _ h1 h2 => absurd h1 (by omega)
theorem noL_pred {l : List UInt8} {k : Nat} (h : NoL l k) (hk : ¬ (k ≤ l.length ∧ isTok (l.take k) = true)) : NoL l (k - 1) := fun j h1 h2 => by
  by_cases e : j = k
  · rw [e]; exact hk
  · exact h j (by omega) h2
theorem noL_zero {l : List UInt8} (h : NoL l 0) : plen l = 0 := by
  rw [plen_is, if_neg (h 3 (by omega) (by omega)), if_neg (h 2 (by omega) (by omega)), if_neg (h 1 (by omega) (by omega))]
theorem noL_hit {l : List UInt8} {k : Nat} (h : NoL l k) (h1 : 1 ≤ k) (h3 : k ≤ 3) (hk : k ≤ l.length) (ht : isTok (l.take k) = true) : plen l = k := by
  rw [plen_is]
  match k, h1, h3 with
  | 1, _, _ => rw [if_neg (h 3 (by omega) (by omega)), if_neg (h 2 (by omega) (by omega)), if_pos ⟨hk, ht⟩]
  | 2, _, _ => rw [if_neg (h 3 (by omega) (by omega)), if_pos ⟨hk, ht⟩]
  | 3, _, _ => rw [if_pos ⟨hk, ht⟩]

end Go.Proofs.Qxb6608862a.Pl
