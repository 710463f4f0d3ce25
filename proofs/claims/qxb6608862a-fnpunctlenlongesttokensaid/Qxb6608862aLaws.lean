import Derived.Test.Qxb6608862aWalks
namespace Go.Proofs.Qxb6608862a
open Go.RowKit

theorem upto_list (s : ByteArray) (k : Nat) : (s.extract 0 k).data.toList = s.data.toList.take k := by
  rw [Lib.extract_data]; simp

set_option maxRecDepth 100000 in
set_option maxHeartbeats 400000 in
theorem longest_calls (s : ByteArray) (w : World) :
    Calls Try.prog 9 #[.string s] w fun e w' => e = .returned (.int .i64 (Pl.plen s.data.toList : Nat)) ∧ w' = w := by
  go_enter Try.func9, Try.ntmps9
  go_wp2
  go_loop [3] (fun i => ∃ k : Nat, k ≤ 3 ∧ i = .int .i64 k ∧ Pl.NoL s.data.toList k) (fun i => (intOf i).toNat)
  case atStart => exact ⟨3, Nat.le_refl _, rfl, Pl.noL_three _⟩
  case round =>
    obtain ⟨k, hk, rfl, hno⟩ := hrel
    by_cases h1 : 1 ≤ k
    · by_cases hle : k ≤ s.size
      · cases ht : Pl.isTok (s.data.toList.take k) with
        | true =>
          have E1 : Hid (Pl.plen s.data.toList = k) := Pl.noL_hit hno h1 hk (by rw [← Lib.size_eq]; exact hle) ht
          clear hno
          go_wp2_with fail
          refine (tok_calls (s.extract 0 k) w).mono ?_
          rintro e w1 ⟨rfl, rfl⟩
          rw [upto_list, ht]
          go_wp2
          go_ret
          exact ⟨by rw [E1.out]; rfl, rfl⟩
        | false =>
          have E1 : Hid (Pl.NoL s.data.toList (k - 1)) := Pl.noL_pred hno (by rw [ht]; simp)
          clear hno
          go_wp2_with fail
          refine (tok_calls (s.extract 0 k) w).mono ?_
          rintro e w1 ⟨rfl, rfl⟩
          rw [upto_list, ht]
          go_wp2
          go_round
          case rel => exact ⟨k - 1, by omega, by congr 1; omega, E1.out⟩
          case measure => simp [intOf]; omega
      · have E1 : Hid (Pl.NoL s.data.toList (k - 1)) := Pl.noL_pred hno (by rw [← Lib.size_eq]; omega)
        clear hno
        go_wp2
        go_round
        case rel => exact ⟨k - 1, by omega, by congr 1; omega, E1.out⟩
        case measure => simp [intOf]; omega
    · obtain rfl : k = 0 := by omega
      have E1 : Hid (Pl.plen s.data.toList = 0) := Pl.noL_zero hno
      clear hno
      go_wp2
      go_ret
      exact ⟨by rw [E1.out]; rfl, rfl⟩

set_option maxRecDepth 100000 in
set_option maxHeartbeats 400000 in
theorem bytes7 (a : ByteArray) (w : World) (ha : a.size ≤ maxLen) :
    Calls Try.prog 7 #[.string a] w fun e w' => (∃ r : Bool, e = .returned (.bool r)) ∧ w' = w := by
  unfold maxLen at ha
  go_enter Try.func7, Try.ntmps7
  go_wp2
  all_goals (go_ret; exact ⟨⟨_, rfl⟩, rfl⟩)

set_option maxRecDepth 100000 in
set_option maxHeartbeats 400000 in
theorem bytes10 (a b : ByteArray) (w : World) (ha : a.size ≤ maxLen) (hb : b.size ≤ maxLen) :
    Calls Try.prog 10 #[.string a, .string b] w fun e w' => (∃ r : Bool, e = .returned (.bool r)) ∧ w' = w := by
  unfold maxLen at ha hb
  go_enter Try.func10, Try.ntmps10
  go_wp2
  all_goals (go_ret; exact ⟨⟨_, rfl⟩, rfl⟩)

set_option maxRecDepth 100000 in
set_option maxHeartbeats 400000 in
theorem longest_law (s : ByteArray) (w : World) (hs : s.size ≤ maxLen) :
    Calls Try.prog 3 #[.string s] w fun e w' => e = .returned (.bool true) ∧ Below w.heap.size w w' := by
  go_enter Try.func3, Try.ntmps3
  go_wp2_with fail
  refine (bytes7 s w hs).mono ?_
  rintro e w1 ⟨⟨r, rfl⟩, rfl⟩
  cases r with
  | false =>
    go_wp2
    go_ret
    exact ⟨rfl, Below.refl _ _⟩
  | true =>
    by_cases hbig : s.size ≤ 1048576
    case neg =>
      go_wp2
      go_ret
      exact ⟨rfl, Below.refl _ _⟩
    case pos =>
      by_cases h0 : 0 < s.size
      case neg =>
        have hz : ((s.size : Int) == 0) = true := beq_iff_eq.2 (by omega)
        go_wp2
        go_ret
        exact ⟨rfl, Below.refl _ _⟩
      case pos =>
        have hz : ((s.size : Int) == 0) = false := beq_eq_false_iff_ne.2 (by omega)
        go_wp2_with fail
        refine (zz_calls s w1 h0).mono ?_
        rintro e w2 ⟨rfl, hb2⟩
        go_wp2_with fail
        refine (longest_calls s w2).mono ?_
        rintro e w3 ⟨rfl, rfl⟩
        have hpl := Pl.plen_le s.data.toList
        rw [← Lib.size_eq] at hpl
        have T1 : Hid (Pl.plen (s.data.toList.take (Pl.plen s.data.toList)) = Pl.plen s.data.toList) := Pl.plen_take _
        generalize Pl.plen s.data.toList = r at *
        obtain ⟨l3, ll⟩ := hpl
        by_cases hr : 0 < r
        · go_wp2_with fail
          refine (zz_calls (s.extract 0 r) w3 (by simp; omega)).mono ?_
          rintro e w4 ⟨rfl, hb4⟩
          rw [upto_list, T1.out]
          go_wp2
          go_ret
          exact ⟨by simp, hb2.trans (hb4.mono hb2.size)⟩
        · go_wp2
          go_ret
          exact ⟨by simp, hb2⟩

theorem data_app (a b : ByteArray) : (a ++ b).data.toList = a.data.toList ++ b.data.toList := by simp

set_option maxRecDepth 100000 in
set_option maxHeartbeats 400000 in
theorem extension_law (s t : ByteArray) (w : World) (hs : s.size ≤ maxLen) (ht : t.size ≤ maxLen) :
    Calls Try.prog 4 #[.string s, .string t] w fun e w' => e = .returned (.bool true) ∧ Below w.heap.size w w' := by
  go_enter Try.func4, Try.ntmps4
  go_wp2_with fail
  refine (bytes10 s t w hs ht).mono ?_
  rintro e w1 ⟨⟨r, rfl⟩, rfl⟩
  cases r with
  | false =>
    go_wp2
    go_ret
    exact ⟨rfl, Below.refl _ _⟩
  | true =>
    by_cases hb1 : s.size ≤ 524288
    case neg =>
      go_wp2
      go_ret
      exact ⟨rfl, Below.refl _ _⟩
    case pos =>
      by_cases hb2 : t.size ≤ 524288
      case neg =>
        go_wp2
        go_ret
        exact ⟨rfl, Below.refl _ _⟩
      case pos =>
        by_cases h0 : 0 < s.size
        case neg =>
          have hz : ((s.size : Int) == 0) = true := beq_iff_eq.2 (by omega)
          go_wp2
          go_ret
          exact ⟨rfl, Below.refl _ _⟩
        case pos =>
          have hz : ((s.size : Int) == 0) = false := beq_eq_false_iff_ne.2 (by omega)
          go_wp2_with fail
          refine (zz_calls s w1 h0).mono ?_
          rintro e w2 ⟨rfl, hbe2⟩
          go_wp2_with fail
          refine (zz_calls (s ++ t) w2 (by simp; omega)).mono ?_
          rintro e w3 ⟨rfl, hbe3⟩
          have hbel := hbe2.trans (hbe3.mono hbe2.size)
          clear hbe2 hbe3
          go_wp2_with fail
          refine (longest_calls (s ++ t) w3).mono ?_
          rintro e w4 ⟨rfl, rfl⟩
          rw [data_app]
          have hm := Pl.plen_app s.data.toList t.data.toList
          have hl : 3 ≤ s.size → Pl.plen (s.data.toList ++ t.data.toList) = Pl.plen s.data.toList := fun h => Pl.plen_long _ _ (by rw [← Lib.size_eq]; exact h)
          generalize Pl.plen (s.data.toList ++ t.data.toList) = b at *
          generalize Pl.plen s.data.toList = a at *
          by_cases h3 : 3 ≤ s.size
          · have hab := hl h3
            subst hab
            clear hl
            go_wp2
            go_ret
            exact ⟨by simp, hbel⟩
          · clear hl
            go_wp2
            go_ret
            exact ⟨by simp, hbel⟩

end Go.Proofs.Qxb6608862a
