import Derived.Test.Qxb6608866aPad
import Derived.Lib.BufferMore
namespace Go.Proofs.Qxb6608866a
open Go.RowKit

set_option maxRecDepth 100000 in
set_option maxHeartbeats 400000 in
theorem same_calls (a1 a2 : Option Addr) (c1 c2 B1 B2 : Nat) (out : List (List UInt8)) (w : World) (hn : out.length ≤ 2097154)
    (h1 : w.ownsRow B1 9 1 (.slice a1 out.length c1) out.length (strVals out)) (h2 : w.ownsRow B2 9 1 (.slice a2 out.length c2) out.length (strVals out)) :
    Calls Try.prog 11 #[.slice a1 out.length c1, .slice a2 out.length c2] w fun e w' => e = .returned (.bool true) ∧ Below w.heap.size w w' := by
  go_enter Try.func11, Try.ntmps11
  go_wp2
  go_loopw [5] (fun i wr => ∃ k : Nat, k ≤ out.length ∧ i = .int .i64 k ∧ wr.ownsRow B1 9 1 (.slice a1 out.length c1) out.length (strVals out) ∧ wr.ownsRow B2 9 1 (.slice a2 out.length c2) out.length (strVals out) ∧ Below w.heap.size w wr) (fun i _ => out.length - (intOf i).toNat)
  case atStart => exact ⟨0, Nat.zero_le _, rfl, h1, h2, Below.refl _ _⟩
  case round =>
    clear h1 h2
    obtain ⟨k, hk, rfl, h1, h2, hbel⟩ := hrel
    by_cases hlt : k < out.length
    · obtain ⟨x, hx⟩ : ∃ x, out[k]? = some x := ⟨_, List.getElem?_eq_getElem hlt⟩
      obtain ⟨g1, rfl, hc1, _⟩ := owns_at h1 (by omega)
      obtain ⟨g2, rfl, hc2, _⟩ := owns_at h2 (by omega)
      have e1 := hc1 k _ (strVals_at hx)
      have e2 := hc2 k _ (strVals_at hx)
      have l1 : g1 < wr.heap.size := World.block_lt_of_cell? wr _ e1
      have l2 : g2 < wr.heap.size := World.block_lt_of_cell? wr _ e2
      clear hc1 hc2 hx
      go_wp2
      go_region
      go_wp2
      go_roundw
      case rel => exact ⟨k + 1, by omega, by go_num, h1.drew, h2.drew, hbel.drew⟩
      case measure => simp [intOf]; omega
    · go_wp2
      go_ret
      exact ⟨rfl, hbel⟩

set_option maxRecDepth 100000 in
set_option maxHeartbeats 400000 in
theorem bytes8 (a : ByteArray) (w : World) (ha : a.size ≤ maxLen) :
    Calls Try.prog 8 #[.string a] w fun e w' => (∃ r : Bool, e = .returned (.bool r)) ∧ w' = w := by
  unfold maxLen at ha
  go_enter Try.func8, Try.ntmps8
  go_wp2
  all_goals (go_ret; exact ⟨⟨_, rfl⟩, rfl⟩)

set_option maxRecDepth 100000 in
set_option maxHeartbeats 400000 in
theorem zz_calls (p : ByteArray) (w : World) (hp : p.size ≤ 1048576) :
    Calls Try.prog 9 #[.string p] w fun e w' => ∃ v, e = .returned v ∧ w'.ownsRow (w.heap.size + 1) 9 1 v (Pl.tks [] p.data.toList).length (strVals (Pl.tks [] p.data.toList)) ∧ (Pl.tks [] p.data.toList = [] → v = .slice none 0 0) ∧ Below w.heap.size w w' := by
  go_enter Try.func9, Try.ntmps9
  go_wp2_with fail
  refine (tokens_calls p w hp).mono ?_
  rintro e w1 ⟨v, rfl, ho, hn, hb⟩
  have HN : Hid (Pl.tks [] p.data.toList = [] → v = .slice none 0 0) := hn
  clear hn
  go_wp2
  go_ret
  exact ⟨v, rfl, ho, HN.out, hb⟩

theorem flush_le (cur : List UInt8) : (Pl.flush cur).length ≤ 1 := by unfold Pl.flush; split <;> simp

theorem tks_le : ∀ (l cur : List UInt8), (Pl.tks cur l).length ≤ 2 * l.length + 1
  | [], cur => flush_le cur
  | c :: t, cur => by
    have h0 := flush_le cur
    have h1 := tks_le t []
    have h2 := tks_le t (cur ++ [c])
    rw [Pl.tks]
    split
    · rw [List.length_append, List.length_cons]; omega
    · split
      · rw [List.length_append, List.length_cons, List.length_cons]; omega
      · rw [List.length_cons]; omega

set_option maxRecDepth 100000 in
set_option maxHeartbeats 400000 in
theorem law (p : ByteArray) (w : World) (hp : p.size ≤ maxLen) :
    Calls Try.prog 3 #[.string p] w fun e w' => e = .returned (.bool true) ∧ Below w.heap.size w w' := by
  go_enter Try.func3, Try.ntmps3
  go_wp2_with fail
  refine (bytes8 p w hp).mono ?_
  rintro e w1 ⟨⟨r, rfl⟩, rfl⟩
  cases r with
  | false =>
    go_wp2
    go_ret
    exact ⟨rfl, Below.refl _ _⟩
  | true =>
    by_cases hbig : p.size ≤ 1048576
    case neg =>
      go_wp2
      go_ret
      exact ⟨rfl, Below.refl _ _⟩
    case pos =>
      go_wp2_with fail
      refine (zz_calls p w1 hbig).mono ?_
      rintro e w2 ⟨v1, rfl, ho1, hn1, hb2⟩
      obtain ⟨a1, c1, hv1⟩ := owns_shape ho1
      rw [hv1]
      rw [hv1] at ho1 hn1
      go_wp2_with fail
      refine (pad_calls p w2 hbig).mono ?_
      rintro e w3 ⟨v2, B, rfl, hB, ho2, hb3⟩
      obtain ⟨a2, c2, hv2⟩ := owns_shape ho2
      rw [hv2]
      rw [hv2] at ho2
      have ho1' := owns_below ho1 hb3
      have hbel := hb2.trans (hb3.mono hb2.size)
      have hlen : (Pl.tks [] p.data.toList).length ≤ 2097154 := Nat.le_trans (tks_le _ _) (by rw [← Lib.size_eq]; omega)
      clear hb2 hb3 ho1 hv1 hv2 hB
      generalize Pl.tks [] p.data.toList = out at *
      by_cases hz : out = []
      · have hnil := hn1 hz
        have ha : a1 = none := by injection hnil
        subst ha
        have he := fun w => Lib.run_eql_slice_nil_nil (P := Try.prog) w (t := 23) out.length c1 Try.underlying23
        have hl : ((out.length : Int) == 0) = true := by rw [hz]; rfl
        have HS := fun (w' : World) (x : w'.ownsRow (w1.heap.size + 1) 9 1 (.slice none out.length c1) out.length (strVals out)) (y : w'.ownsRow B 9 1 (.slice a2 out.length c2) out.length (strVals out)) => same_calls none a2 c1 c2 (w1.heap.size + 1) B out w' hlen x y
        clear hn1 hnil hz
        go_wp2_with fail
        refine (HS w3 ho1' ho2).mono ?_
        rintro e w4 ⟨rfl, hb4⟩
        go_wp2
        go_ret
        exact ⟨by simp, hbel.trans (hb4.mono hbel.size)⟩
      · have hpos : 0 < out.length := List.length_pos_iff.2 hz
        obtain ⟨g, rfl, _, _⟩ := owns_at ho1' hpos
        have he := fun w => Lib.run_eql_slice_some_nil (P := Try.prog) w (t := 23) ⟨g, 0, none⟩ out.length c1 Try.underlying23
        have hl : ((out.length : Int) == 0) = false := beq_eq_false_iff_ne.2 (by omega)
        clear hn1 hz
        go_wp2_with fail
        refine (same_calls (some ⟨g, 0, none⟩) a2 c1 c2 (w1.heap.size + 1) B out w3 hlen ho1' ho2).mono ?_
        rintro e w4 ⟨rfl, hb4⟩
        go_wp2
        go_ret
        exact ⟨by simp, hbel.trans (hb4.mono hbel.size)⟩

end Go.Proofs.Qxb6608866a
