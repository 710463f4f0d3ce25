import Derived.Lib.Strings
namespace Go.Proofs.Qxb6606305a.Pl

/-- The byte that an escape's third byte stands for. -/
def hex (c : UInt8) : Option UInt8 := if c = 70 ∨ c = 102 then some 47 else if c = 69 ∨ c = 101 then some 46 else none

/-- The escape that stands at the head. -/
def code : List UInt8 → Option UInt8
  | a :: b :: c :: _ => if a = 37 ∧ b = 50 then hex c else none
  | _ => none

/-- The text decoded, and whether an escape was met; the first number is fuel. -/
def run : Nat → List UInt8 → List UInt8 × Bool
  | 0, _ => ([], false)
  | _ + 1, [] => ([], false)
  | n + 1, c :: t => match code (c :: t) with
    | some d => (d :: (run n (t.drop 2)).1, true)
    | none => (c :: (run n t).1, (run n t).2)

def dec (l : List UInt8) : List UInt8 := (run l.length l).1
def has (l : List UInt8) : Bool := (run l.length l).2

theorem run_fuel : ∀ (n m : Nat) (l : List UInt8), l.length ≤ n → l.length ≤ m → run n l = run m l
  | 0, m, l, h, _ => by
    have : l = [] := List.eq_nil_of_length_eq_zero (by omega)
    subst this
    cases m <;> rfl
  | n + 1, 0, l, _, h => by
    have : l = [] := List.eq_nil_of_length_eq_zero (by omega)
    subst this
    rfl
  | n + 1, m + 1, [], _, _ => rfl
  | n + 1, m + 1, c :: t, h1, h2 => by
    simp only [List.length_cons] at h1 h2
    have e1 := run_fuel n m (t.drop 2) (by rw [List.length_drop]; omega) (by rw [List.length_drop]; omega)
    have e2 := run_fuel n m t (by omega) (by omega)
    simp only [run, e1, e2]

theorem run_hit {c d : UInt8} {t : List UInt8} (h : code (c :: t) = some d) : dec (c :: t) = d :: dec (t.drop 2) ∧ has (c :: t) = true := by
  unfold dec has
  have e := run_fuel t.length (t.drop 2).length (t.drop 2) (by rw [List.length_drop]; omega) (Nat.le_refl _)
  simp only [List.length_cons, run, h, e]
  simp

theorem run_miss {c : UInt8} {t : List UInt8} (h : code (c :: t) = none) : dec (c :: t) = c :: dec t ∧ has (c :: t) = has t := by
  unfold dec has
  simp only [List.length_cons, run, h]
  simp

theorem dec_nil : dec [] = [] := rfl
theorem has_nil : has [] = false := rfl

/-! ### by places -/
theorem drop_cons {l : List UInt8} {i : Nat} {c : UInt8} (h : l[i]? = some c) : l.drop i = c :: l.drop (i + 1) := by
  obtain ⟨hi, hc⟩ := List.getElem?_eq_some_iff.1 h
  rw [List.drop_eq_getElem_cons hi, hc]

theorem at_hit {l : List UInt8} {i : Nat} {d : UInt8} (h : code (l.drop i) = some d) : dec (l.drop i) = d :: dec (l.drop (i + 3)) ∧ has (l.drop i) = true := by
  cases hl : l.drop i with
  | nil => rw [hl] at h; simp [code] at h
  | cons c t =>
    rw [hl] at h
    have e : l.drop (i + 3) = t.drop 2 := by rw [← List.drop_drop, hl]; rfl
    rw [e]
    exact run_hit h

theorem at_miss {l : List UInt8} {i : Nat} {c : UInt8} (hc : l[i]? = some c) (h : code (l.drop i) = none) : dec (l.drop i) = c :: dec (l.drop (i + 1)) ∧ has (l.drop i) = has (l.drop (i + 1)) := by
  rw [drop_cons hc] at h ⊢
  exact run_miss h

/-- No escape between two places: the text between them is copied. -/
theorem skip {l : List UInt8} {a b : Nat} (hab : a ≤ b) (hb : b ≤ l.length) (h : ∀ t, a ≤ t → t < b → code (l.drop t) = none) : dec (l.drop a) = (l.drop a).take (b - a) ++ dec (l.drop b) ∧ has (l.drop a) = has (l.drop b) := by
  obtain ⟨n, rfl⟩ : ∃ n, b = a + n := ⟨b - a, by omega⟩
  clear hab
  induction n generalizing a with
  | zero => simp
  | succ n ih =>
    have hc : l[a]? = some l[a] := List.getElem?_eq_getElem (by omega)
    obtain ⟨e1, e2⟩ := at_miss hc (h a (Nat.le_refl _) (by omega))
    obtain ⟨f1, f2⟩ := ih (a := a + 1) (by omega) (fun t h1 h2 => h t (by omega) (by omega))
    rw [show a + 1 + n = a + (n + 1) by omega] at f1 f2
    rw [show a + (n + 1) - (a + 1) = n by omega] at f1
    constructor
    · rw [e1, f1, drop_cons hc, show a + (n + 1) - a = n + 1 by omega, List.take_succ_cons, List.cons_append]
    · rw [e2, f2]

theorem rest_none {l : List UInt8} {a : Nat} (ha : a ≤ l.length) (h : ∀ t, a ≤ t → code (l.drop t) = none) : dec (l.drop a) = l.drop a ∧ has (l.drop a) = false := by
  obtain ⟨e1, e2⟩ := skip ha (Nat.le_refl _) (fun t h1 _ => h t h1)
  rw [List.drop_eq_nil_of_le (Nat.le_refl l.length)] at e1 e2
  constructor
  · rw [e1, dec_nil, List.append_nil, List.take_of_length_le (by rw [List.length_drop]; omega)]
  · rw [e2]; rfl

theorem code_three {a b c d : UInt8} {t : List UInt8} (h : code (a :: b :: c :: t) = some d) : a = 37 ∧ b = 50 ∧ hex c = some d := by
  have h' : (if a = 37 ∧ b = 50 then hex c else none) = some d := h
  by_cases hab : a = 37 ∧ b = 50
  · rw [if_pos hab] at h'
    exact ⟨hab.1, hab.2, h'⟩
  · rw [if_neg hab] at h'
    cases h'

/-- An escape's first bytes. -/
theorem code_some {l : List UInt8} {i : Nat} {d : UInt8} (h : code (l.drop i) = some d) : l[i]? = some 37 ∧ l[i + 1]? = some 50 ∧ ∃ c, l[i + 2]? = some c ∧ hex c = some d := by
  have g : ∀ k, (l.drop i)[k]? = l[i + k]? := fun k => by rw [List.getElem?_drop]
  match hl : l.drop i, h with
  | a :: b :: c :: t, h =>
    rw [hl] at g
    have g0 := g 0
    have g1 := g 1
    have g2 := g 2
    simp at g0 g1 g2
    obtain ⟨h1, h2, h3⟩ := code_three h
    rw [← g0, ← g1, ← g2, h1, h2]
    exact ⟨rfl, rfl, c, rfl, h3⟩
  | [], h => simp [code] at h
  | [_], h => simp [code] at h
  | [_, _], h => simp [code] at h

theorem code_of {l : List UInt8} {i : Nat} {c : UInt8} (h0 : l[i]? = some 37) (h1 : l[i + 1]? = some 50) (h2 : l[i + 2]? = some c) : code (l.drop i) = hex c := by
  rw [drop_cons h0, drop_cons h1, drop_cons h2]
  simp [code]

/-! ### the balance -/
theorem hex_some {c d : UInt8} (h : hex c = some d) : (d = 47 ∨ d = 46) ∧ c ≠ 47 ∧ c ≠ 46 := by
  unfold hex at h
  split at h
  · rename_i hc
    simp at h
    refine ⟨.inl h.symm, ?_, ?_⟩ <;> (rcases hc with rfl | rfl <;> decide)
  · split at h
    · rename_i hc
      simp at h
      refine ⟨.inr h.symm, ?_, ?_⟩ <;> (rcases hc with rfl | rfl <;> decide)
    · simp at h

structure Bal (l m : List UInt8) : Prop where
  other : ∀ b : UInt8, b ≠ 47 → b ≠ 46 → m.count b ≤ l.count b
  slash : l.count 47 ≤ m.count 47
  dot : l.count 46 ≤ m.count 46
  len : l.length + 2 * (l.count 47 + l.count 46) = m.length + 2 * (m.count 47 + m.count 46)

theorem bal_run : ∀ (n : Nat) (l : List UInt8), l.length ≤ n → Bal l (dec l) ∧ (has l = true → l.count 47 + l.count 46 < (dec l).count 47 + (dec l).count 46) ∧ (has l = false → dec l = l)
  | _, [], _ => ⟨⟨fun _ _ _ => Nat.le_refl _, Nat.le_refl _, Nat.le_refl _, rfl⟩, ⟨(fun h => by cases h), fun _ => rfl⟩⟩
  | 0, c :: t, h => by simp at h
  | n + 1, c :: t, h => by
    simp only [List.length_cons] at h
    cases hc : code (c :: t) with
    | none =>
      obtain ⟨e1, e2⟩ := run_miss hc
      obtain ⟨b, g, k⟩ := bal_run n t (by omega)
      rw [e1, e2]
      refine ⟨⟨fun x h1 h2 => ?_, ?_, ?_, ?_⟩, fun hh => ?_, fun hh => ?_⟩
      · have := b.other x h1 h2
        simp only [List.count_cons]; omega
      · have := b.slash
        simp only [List.count_cons]; omega
      · have := b.dot
        simp only [List.count_cons]; omega
      · have := b.len
        simp only [List.count_cons, List.length_cons]; omega
      · have := g hh
        simp only [List.count_cons]; omega
      · rw [k hh]
    | some d =>
      obtain ⟨e1, e2⟩ := run_hit hc
      match t, hc, h with
      | b :: x :: r, hc, h =>
        simp only [List.length_cons] at h
        obtain ⟨bal, g, k⟩ := bal_run n r (by omega)
        simp only [List.drop_succ_cons, List.drop_zero] at e1
        obtain ⟨rfl, rfl, hc'⟩ := code_three hc
        obtain ⟨hd, hx1, hx2⟩ := hex_some hc'
        rw [e1, e2]
        have c1 : ∀ y : UInt8, (37 :: 50 :: x :: r).count y = r.count y + (if x == y then 1 else 0) + (if (50 : UInt8) == y then 1 else 0) + (if (37 : UInt8) == y then 1 else 0) := fun y => by simp only [List.count_cons]
        have x47 : (x == 47) = false := by simpa using hx1
        have x46 : (x == 46) = false := by simpa using hx2
        have b0 := bal.slash
        have b1 := bal.dot
        have b2 := bal.len
        have f47 : (37 :: 50 :: x :: r).count 47 = r.count 47 := by rw [c1, x47]; rfl
        have f46 : (37 :: 50 :: x :: r).count 46 = r.count 46 := by rw [c1, x46]; rfl
        refine ⟨⟨fun y h1 h2 => ?_, ?_, ?_, ?_⟩, fun _ => ?_, (fun hh => by cases hh)⟩
        · have := bal.other y h1 h2
          rw [c1, List.count_cons]
          have : (d == y) = false := by
            rcases hd with rfl | rfl
            · simpa using fun e => h1 e.symm
            · simpa using fun e => h2 e.symm
          rw [this]
          simp only [Bool.false_eq_true, if_false]
          omega
        · rw [f47, List.count_cons]; omega
        · rw [f46, List.count_cons]; omega
        · rw [f47, f46]
          simp only [List.length_cons, List.count_cons]
          rcases hd with rfl | rfl <;> simp <;> omega
        · rw [f47, f46]
          simp only [List.count_cons]
          rcases hd with rfl | rfl <;> simp <;> omega
      | [], hc, _ => simp [code] at hc
      | [_], hc, _ => simp [code] at hc

theorem bal (l : List UInt8) : Bal l (dec l) := (bal_run l.length l (Nat.le_refl _)).1
theorem has_more (l : List UInt8) (h : has l = true) : l.count 47 + l.count 46 < (dec l).count 47 + (dec l).count 46 := (bal_run l.length l (Nat.le_refl _)).2.1 h
theorem has_not (l : List UInt8) (h : has l = false) : dec l = l := (bal_run l.length l (Nat.le_refl _)).2.2 h

/-! ### the decoder's loop -/
theorem none_of {l : List UInt8} {t : Nat} (h : l[t]? ≠ some 37) : code (l.drop t) = none := by
  cases hc : code (l.drop t) with
  | none => rfl
  | some d => exact absurd (code_some hc).1 h

theorem none_short {l : List UInt8} {t : Nat} (h : l.length ≤ t + 2) : code (l.drop t) = none := by
  cases hc : code (l.drop t) with
  | none => rfl
  | some d =>
    obtain ⟨_, _, c, h2, _⟩ := code_some hc
    have := (List.getElem?_eq_some_iff.1 h2).1
    omega

structure DI (l : List UInt8) (copied at' : Nat) (out : List UInt8) : Prop where
  le1 : copied ≤ at'
  le2 : at' ≤ l.length
  no : ∀ t, copied ≤ t → t < at' → code (l.drop t) = none
  eq : out ++ dec (l.drop copied) = dec l
  zero : copied = 0 → out = []
  pos : copied ≠ 0 → has l = true
  len : out.length ≤ copied

theorem di_start (l : List UInt8) : DI l 0 0 [] := ⟨Nat.le_refl _, Nat.zero_le _, fun t h1 h2 => by omega, rfl, fun _ => rfl, fun h => absurd rfl h, Nat.le_refl _⟩

theorem di_miss {l out : List UInt8} {copied at' i : Nat} (h : DI l copied at' out) (hi : at' ≤ i) (hl : i < l.length) (hno : ∀ t, at' ≤ t → t < i → l[t]? ≠ some 37) (hc : code (l.drop i) = none) : DI l copied (i + 1) out :=
  ⟨Nat.le_trans h.le1 (by omega), by omega, fun t h1 h2 => by
    by_cases h3 : t < at'
    · exact h.no t h1 h3
    · by_cases h4 : t < i
      · exact none_of (hno t (by omega) h4)
      · rw [show t = i by omega]; exact hc, h.eq, h.zero, h.pos, h.len⟩

theorem di_hit {l out : List UInt8} {copied at' i : Nat} {d : UInt8} (h : DI l copied at' out) (hi : at' ≤ i) (hno : ∀ t, at' ≤ t → t < i → l[t]? ≠ some 37) (hc : code (l.drop i) = some d) : DI l (i + 3) (i + 3) (out ++ (l.drop copied).take (i - copied) ++ [d]) := by
  obtain ⟨_, _, c, h2, _⟩ := code_some hc
  have hlt := (List.getElem?_eq_some_iff.1 h2).1
  have h1 := h.le1
  obtain ⟨e1, e2⟩ := skip (l := l) (a := copied) (b := i) (by omega) (by omega) (fun t t1 t2 => by
    by_cases t3 : t < at'
    · exact h.no t t1 t3
    · exact none_of (hno t (by omega) t2))
  obtain ⟨f1, f2⟩ := at_hit hc
  refine ⟨Nat.le_refl _, by omega, fun t t1 t2 => by omega, ?_, fun e => by omega, fun _ => ?_, ?_⟩
  · rw [← h.eq, e1, f1]; simp [List.append_assoc]
  · by_cases hz : copied = 0
    · subst hz
      rw [List.drop_zero] at e2
      rw [e2, f2]
    · exact h.pos hz
  · have := h.len
    simp only [List.length_append, List.length_take, List.length_drop, List.length_cons, List.length_nil]
    omega

theorem di_end {l out : List UInt8} {copied at' : Nat} (h : DI l copied at' out) (hno : ∀ t, at' ≤ t → code (l.drop t) = none) : (copied = 0 → dec l = l ∧ has l = false) ∧ (copied ≠ 0 → dec l = out ++ l.drop copied ∧ has l = true) := by
  have hall : ∀ t, copied ≤ t → code (l.drop t) = none := fun t t1 => by
    by_cases t2 : t < at'
    · exact h.no t t1 t2
    · exact hno t (by omega)
  obtain ⟨e1, e2⟩ := rest_none (Nat.le_trans h.le1 h.le2) hall
  constructor
  · intro hz
    subst hz
    rw [List.drop_zero] at e1 e2
    exact ⟨e1, e2⟩
  · intro hz
    exact ⟨by rw [← h.eq, e1], h.pos hz⟩

/-- Where no '%2' stands nothing is decoded. -/
theorem no_sub {l : List UInt8} (h : ∀ t : Nat, ¬ (l[t]? = some (37 : UInt8) ∧ l[t + 1]? = some (50 : UInt8))) : dec l = l ∧ has l = false := by
  have := rest_none (l := l) (a := 0) (Nat.zero_le _) (fun t _ => by
    cases hc : code (l.drop t) with
    | none => rfl
    | some d =>
      obtain ⟨h0, h1, _⟩ := code_some hc
      exact absurd ⟨h0, h1⟩ (h t))
  simpa using this

end Go.Proofs.Qxb6606305a.Pl
