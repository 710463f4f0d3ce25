import Derived.Test.Qxb6606305aModel
namespace Go.Proofs.Qxb6606305a
open Go.RowKit

set_option maxRecDepth 100000 in
set_option maxHeartbeats 400000 in
theorem bytes6 (a : ByteArray) (w : World) (ha : a.size ≤ maxLen) :
    Calls Try.prog 6 #[.string a] w fun e w' => (∃ r : Bool, e = .returned (.bool r)) ∧ w' = w := by
  unfold maxLen at ha
  go_enter Try.func6, Try.ntmps6
  go_wp2
  all_goals (go_ret; exact ⟨⟨_, rfl⟩, rfl⟩)

set_option maxRecDepth 100000 in
set_option maxHeartbeats 400000 in
theorem model_law (p : ByteArray) (m : Int) (w : World) (hp : p.size ≤ maxLen) (hm : w.cell? ⟨0, 0, none⟩ = some (.int .i64 m)) :
    Calls Try.prog 3 #[.string p] w fun e w' => e = .returned (.bool true) ∧ Below w.heap.size w w' := by
  go_enter Try.func3, Try.ntmps3
  go_wp2_with fail
  refine (bytes6 p w hp).mono ?_
  rintro e w1 ⟨⟨r, rfl⟩, rfl⟩
  cases r with
  | false =>
    go_wp2
    go_ret
    exact ⟨rfl, Below.refl _ _⟩
  | true =>
    by_cases hbig : p.size ≤ 1048576
    · go_wp2_with fail
      refine (zz_calls p m w1 hbig hm).mono ?_
      rintro e w2 ⟨rfl, hb2⟩
      go_wp2_with fail
      refine (model_calls p w2 hbig).mono ?_
      rintro e w3 ⟨rfl, hb3⟩
      have hbel := hb2.trans (hb3.mono hb2.size)
      clear hb2 hb3 hm
      go_wp2
      go_ret
      exact ⟨by simp, hbel⟩
    · go_wp2
      go_ret
      exact ⟨rfl, Below.refl _ _⟩

end Go.Proofs.Qxb6606305a
