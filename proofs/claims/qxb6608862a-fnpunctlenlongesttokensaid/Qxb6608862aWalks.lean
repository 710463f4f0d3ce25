import Derived.Test.Qxb6608862aPlain
import Derived.Test.Qxb6608862aShelf
import Derived.WalkKit
import Derived.WalkSpells
import Derived.WalkLawsBesides
import Derived.Lib.IndexAny
namespace Go.Proofs.Qxb6608862a
open Go.RowKit

theorem at_eq (s : ByteArray) (i : Nat) (h : i < s.size) : s.data.toList[i]? = some (s[i]'h) := by
  obtain ⟨⟨l⟩⟩ := s
  have h' : i < l.length := h
  show l[i]? = some _
  rw [List.getElem?_eq_getElem h']
  rfl

theorem sing_index (c : UInt8) : decide (0 ≤ Lib.indexByte [123, 125, 40, 41, 91, 93, 44, 59, 124, 94, 64, 46, 58, 33, 60, 45] c) = Pl.sing c := by
  have : ∀ n : Fin 256, decide (0 ≤ Lib.indexByte [123, 125, 40, 41, 91, 93, 44, 59, 124, 94, 64, 46, 58, 33, 60, 45] (UInt8.ofNat n.val)) = Pl.sing (UInt8.ofNat n.val) := by decide +kernel
  have h := this ⟨c.toNat, c.toNat_lt⟩
  simpa using h

theorem head_p1 (s : ByteArray) (h : 0 < s.size) : Pl.p1 s.data.toList = Pl.sing (s[0]'h) := by
  have h0 := at_eq s 0 h
  cases hl : s.data.toList with
  | nil => rw [hl] at h0; simp at h0
  | cons a t =>
    rw [hl] at h0
    simp at h0
    rw [← h0]; rfl

/-- The table of tokens lies in block b. -/
def TokAt (w : World) (b : Nat) : Prop := ∀ (j : Nat) t, Pl.toks[j]? = some t → w.cell? ⟨b, j, none⟩ = some (.string ⟨t.toArray⟩)

theorem tok_new (w : World) : TokAt (w.alloc (.cells #[.string ⟨#[58, 58, 61]⟩, .string ⟨#[46, 46, 46]⟩, .string ⟨#[46, 46]⟩, .string ⟨#[91, 91]⟩, .string ⟨#[93, 93]⟩] 9)) w.heap.size := fun j t h => by
  rw [World.cell?_alloc_at _ _ _ _ rfl]
  match j, h with
  | 0, h => obtain rfl := Option.some.inj h; rfl
  | 1, h => obtain rfl := Option.some.inj h; rfl
  | 2, h => obtain rfl := Option.some.inj h; rfl
  | 3, h => obtain rfl := Option.some.inj h; rfl
  | 4, h => obtain rfl := Option.some.inj h; rfl
  | n + 5, h => simp [Pl.toks] at h

set_option maxRecDepth 100000 in
set_option maxHeartbeats 400000 in
theorem punct_calls (s : ByteArray) (w : World) (h0 : 0 < s.size) :
    Calls Try.prog 16 #[.string s] w fun e w' => e = .returned (.int .i64 (Pl.plen s.data.toList : Nat)) ∧ Below w.heap.size w w' := by
  go_enter Try.func16, Try.ntmps16
  go_wp2
  go_loopw [7] (fun i wr => ∃ k : Nat, k ≤ 5 ∧ i = .int .i64 k ∧ Pl.NoTok s.data.toList k ∧ TokAt wr w.heap.size ∧ Below w.heap.size w wr) (fun i _ => 5 - (intOf i).toNat)
  case atStart => exact ⟨0, by omega, rfl, Pl.noTok_zero _, tok_new _, (Below.refl _ _).alloc (Nat.le_refl _) _⟩
  case round =>
    obtain ⟨k, hk, rfl, hno, htab, hbel⟩ := hrel
    by_cases hlt : k < 5
    · obtain ⟨t, ht⟩ : ∃ t, Pl.toks[k]? = some t := ⟨_, List.getElem?_eq_getElem (by simpa [Pl.toks] using hlt)⟩
      have hc := htab k t ht
      have HT : Hid (Pl.toks[k]? = some t) := ht
      have HA : Hid (TokAt wr w.heap.size) := htab
      clear ht htab
      go_wp2_with fail
      refine (Try.strings_HasPrefix s ⟨t.toArray⟩ wr).mono ?_
      rintro e w1 ⟨rfl, rfl⟩
      cases hb : Lib.hasPrefix s.data.toList t with
      | true =>
        have E1 : Hid (Pl.plen s.data.toList = t.length) := Pl.tok_hit hno HT.out hb
        go_wp2
        go_ret
        exact ⟨by rw [E1.out]; rfl, hbel⟩
      | false =>
        have E1 : Hid (Pl.NoTok s.data.toList (k + 1)) := Pl.noTok_succ hno HT.out hb
        go_wp2
        exact ⟨⟨k + 1, by omega, by go_num, E1.out, HA.out, hbel⟩, by simp [intOf]; omega⟩
    · obtain rfl : k = 5 := by omega
      have E1 : Hid (Pl.plen s.data.toList = if Pl.sing (s[0]'h0) = true then 1 else 0) := by have := Pl.noTok_end hno; rw [head_p1 s h0] at this; exact this
      clear hno htab
      go_wp2_with fail
      refine (Try.strings_IndexByte _ _ wr).mono ?_
      rintro e w1 ⟨rfl, rfl⟩
      have e2 : ((s[0]'h0).toNat : Int).toNat.toUInt8 = s[0]'h0 := by simp
      have hi := sing_index (s[0]'h0)
      rw [e2]
      cases hs : Pl.sing (s[0]'h0) with
      | true =>
        have hi' : 0 ≤ Lib.indexByte [123, 125, 40, 41, 91, 93, 44, 59, 124, 94, 64, 46, 58, 33, 60, 45] (s[0]'h0) := of_decide_eq_true (hi.trans hs)
        clear hi
        generalize Lib.indexByte [123, 125, 40, 41, 91, 93, 44, 59, 124, 94, 64, 46, 58, 33, 60, 45] (s[0]'h0) = ix at *
        go_wp2
        go_ret
        exact ⟨by rw [E1.out, if_pos hs]; rfl, hbel⟩
      | false =>
        have hi' : ¬ 0 ≤ Lib.indexByte [123, 125, 40, 41, 91, 93, 44, 59, 124, 94, 64, 46, 58, 33, 60, 45] (s[0]'h0) := of_decide_eq_false (hi.trans hs)
        clear hi
        generalize Lib.indexByte [123, 125, 40, 41, 91, 93, 44, 59, 124, 94, 64, 46, 58, 33, 60, 45] (s[0]'h0) = ix at *
        go_wp2
        go_ret
        exact ⟨by rw [E1.out, if_neg (by rw [hs]; simp)]; rfl, hbel⟩

set_option maxRecDepth 100000 in
set_option maxHeartbeats 400000 in
theorem zz_calls (s : ByteArray) (w : World) (h0 : 0 < s.size) :
    Calls Try.prog 8 #[.string s] w fun e w' => e = .returned (.int .i64 (Pl.plen s.data.toList : Nat)) ∧ Below w.heap.size w w' := by
  go_enter Try.func8, Try.ntmps8
  go_wp2_with fail
  refine (punct_calls s w h0).mono ?_
  rintro e w1 ⟨rfl, hb⟩
  go_wp2
  go_ret
  exact ⟨rfl, hb⟩

theorem one_tok (x : ByteArray) (h : x.size = 1) : x.data.toList = [x[0]'(by omega)] := by
  have h0 := at_eq x 0 (by omega)
  have hl : x.data.toList.length = 1 := by rw [← Lib.size_eq]; exact h
  obtain ⟨a, ha⟩ := List.length_eq_one_iff.1 hl
  rw [ha] at h0
  rw [ha]
  simp at h0
  rw [h0]

set_option maxRecDepth 100000 in
set_option maxHeartbeats 1000000 in
theorem tok_calls (x : ByteArray) (w : World) :
    Calls Try.prog 17 #[.string x] w fun e w' => e = .returned (.bool (Pl.isTok x.data.toList)) ∧ w' = w := by
  by_cases h5 : (x.toList == [58, 58, 61]) = true ∨ (x.toList == [46, 46, 46]) = true ∨ (x.toList == [46, 46]) = true ∨ (x.toList == [91, 91]) = true ∨ (x.toList == [93, 93]) = true
  · have E1 : Hid (Pl.isTok x.data.toList = true) := by
      unfold Hid Pl.isTok
      rw [ByteArray.toList_eq] at h5
      rcases h5 with h | h | h | h | h <;> simp [h]
    rcases h5 with h | h | h | h | h
    · have e := beq_iff_eq.1 h
      clear e
      go_enter Try.func17, Try.ntmps17
      go_wp2
      go_ret
      exact ⟨by rw [E1.out]; rfl, rfl⟩
    · have e := beq_iff_eq.1 h
      have q1 : (x.toList == [58, 58, 61]) = false := by rw [e]; decide
      clear e
      go_enter Try.func17, Try.ntmps17
      go_wp2
      go_ret
      exact ⟨by rw [E1.out]; rfl, rfl⟩
    · have e := beq_iff_eq.1 h
      have q1 : (x.toList == [58, 58, 61]) = false := by rw [e]; decide
      have q2 : (x.toList == [46, 46, 46]) = false := by rw [e]; decide
      clear e
      go_enter Try.func17, Try.ntmps17
      go_wp2
      go_ret
      exact ⟨by rw [E1.out]; rfl, rfl⟩
    · have e := beq_iff_eq.1 h
      have q1 : (x.toList == [58, 58, 61]) = false := by rw [e]; decide
      have q2 : (x.toList == [46, 46, 46]) = false := by rw [e]; decide
      have q3 : (x.toList == [46, 46]) = false := by rw [e]; decide
      clear e
      go_enter Try.func17, Try.ntmps17
      go_wp2
      go_ret
      exact ⟨by rw [E1.out]; rfl, rfl⟩
    · have e := beq_iff_eq.1 h
      have q1 : (x.toList == [58, 58, 61]) = false := by rw [e]; decide
      have q2 : (x.toList == [46, 46, 46]) = false := by rw [e]; decide
      have q3 : (x.toList == [46, 46]) = false := by rw [e]; decide
      have q4 : (x.toList == [91, 91]) = false := by rw [e]; decide
      clear e
      go_enter Try.func17, Try.ntmps17
      go_wp2
      go_ret
      exact ⟨by rw [E1.out]; rfl, rfl⟩
  · have q1 : (x.toList == [58, 58, 61]) = false := by cases h : (x.toList == [58, 58, 61]) <;> simp_all
    have q2 : (x.toList == [46, 46, 46]) = false := by cases h : (x.toList == [46, 46, 46]) <;> simp_all
    have q3 : (x.toList == [46, 46]) = false := by cases h : (x.toList == [46, 46]) <;> simp_all
    have q4 : (x.toList == [91, 91]) = false := by cases h : (x.toList == [91, 91]) <;> simp_all
    have q5 : (x.toList == [93, 93]) = false := by cases h : (x.toList == [93, 93]) <;> simp_all
    have E0 : Hid (Pl.isTok x.data.toList = Pl.oneB x.data.toList) := by
      unfold Hid Pl.isTok
      rw [ByteArray.toList_eq] at q1 q2 q3 q4 q5
      rw [q1, q2, q3, q4, q5]
      simp
    clear h5
    by_cases h1 : x.size = 1
    · have hpos : 0 < x.size := by omega
      have E1 : Hid (Pl.isTok x.data.toList = Pl.sing (x[0]'hpos)) := by have := E0.out; rw [one_tok x h1] at this; rw [one_tok x h1]; exact this
      have hn : ((x.size : Int) != 1) = false := by simp [h1]
      have H1 : Hid (x.size = 1) := h1
      clear h1 E0
      go_enter Try.func17, Try.ntmps17
      go_wp2
      all_goals
        go_ret
        refine ⟨?_, rfl⟩
        rw [E1.out]
        simp_all [Pl.sing]
    · have E1 : Hid (Pl.isTok x.data.toList = false) := by
        rw [Hid, E0.out]
        match hc : x.data.toList with
        | [c] => exact absurd (by rw [Lib.size_eq, hc]; rfl) h1
        | [] => rfl
        | _ :: _ :: _ => rfl
      have hn : ((x.size : Int) != 1) = true := by simp; omega
      clear h1 E0
      go_enter Try.func17, Try.ntmps17
      go_wp2
      all_goals (go_ret; exact ⟨by rw [E1.out]; rfl, rfl⟩)

end Go.Proofs.Qxb6608862a
