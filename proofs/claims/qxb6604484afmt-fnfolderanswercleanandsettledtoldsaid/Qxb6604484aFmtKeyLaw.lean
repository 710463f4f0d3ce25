import Derived.Test.Qxb6604484aFmtKeyWalks
import Derived.Maps.OwnSet
namespace Go.Proofs.Qxb6604484aFmt
open Go.RowKit Go.Maps Go.WideMaps

theorem zero20 (w : World) : (zeroValue 20).run Tryf.prog w = .ok .nilIface w := by kernel_rfl

/-- A section without values: every key is absent. -/
theorem looks_nil (w : World) (k : ByteArray) (hk : k.size ≤ maxLen) : Looks w none k .nilIface false := fun wx _ =>
  Maps.look_nil (P := Tryf.prog) (w := wx) (t := 48) (e := 20) true law9 Tryf.underlying48 (zero20 wx) (keyOf_string_mk Tryf.underlying9 hk)

set_option maxRecDepth 100000 in
set_option maxHeartbeats 400000 in
theorem bytes8 (a b c : ByteArray) (w : World) (ha : a.size ≤ maxLen) (hb : b.size ≤ maxLen) (hc : c.size ≤ maxLen) :
    Calls Tryf.prog 8 #[.string a, .string b, .string c] w fun e w' => (∃ r : Bool, e = .returned (.bool r)) ∧ w' = w := by
  unfold maxLen at ha hb hc
  go_enter Tryf.func8, Tryf.ntmps8
  go_wp2
  all_goals (go_ret; exact ⟨⟨_, rfl⟩, rfl⟩)

set_option maxRecDepth 100000 in
set_option maxHeartbeats 400000 in
theorem newEmpty (key bd : ByteArray) (w : World) :
    Calls Tryf.prog 9 #[.string key, .string bd] w fun e w' => e = .returned (.pointer (some ⟨w.heap.size, 0, none⟩)) ∧ Below w.heap.size w w' ∧ Sec w' w.heap.size key bd none := by
  go_enter Tryf.func9, Tryf.ntmps9
  go_wp2
  go_ret
  exact ⟨rfl, (Below.refl _ _).alloc (Nat.le_refl _) _, by simp, by go_simp, by go_simp, by go_simp, by go_simp, by go_simp, by simp⟩

set_option maxRecDepth 100000 in
set_option maxHeartbeats 800000 in
theorem key_law (key bd k : ByteArray) (w : World) (ha : key.size ≤ maxLen) (hb : bd.size ≤ maxLen) (hc : k.size ≤ maxLen) :
    Calls Tryf.prog 3 #[.string key, .string bd, .string k] w fun e w' => e = .returned (.bool true) ∧ Below w.heap.size w w' := by
  have ha' := ha
  have hb' := hb
  have hc' := hc
  unfold maxLen at ha' hb' hc'
  by_cases hbig : key.size ≤ 65536 ∧ bd.size ≤ 65536 ∧ k.size ≤ 65536
  case neg =>
    go_enter Tryf.func3, Tryf.ntmps3
    go_wp2_with fail
    refine (bytes8 key bd k w ha hb hc).mono ?_
    rintro e w1 ⟨⟨r, rfl⟩, rfl⟩
    cases r with
    | false =>
      go_wp2
      go_ret
      exact ⟨rfl, Below.refl _ _⟩
    | true =>
      go_wp2_with fail
      all_goals first | (exfalso; omega) | (go_ret; exact ⟨rfl, Below.refl _ _⟩)
  case pos =>
    obtain ⟨b1, b2, b3⟩ := hbig
    go_enter Tryf.func3, Tryf.ntmps3
    go_wp2_with fail
    refine (bytes8 key bd k w ha hb hc).mono ?_
    rintro e w1 ⟨⟨r, rfl⟩, rfl⟩
    cases r with
    | false =>
      go_wp2
      go_ret
      exact ⟨rfl, Below.refl _ _⟩
    | true =>
      go_wp2_with fail
      refine (newEmpty key bd w1).mono ?_
      rintro e w2 ⟨rfl, hb2, hs2⟩
      go_wp2_with fail
      refine (zzKeyErr_calls w1.heap.size key bd k _ none w2 hs2 (by omega) (by omega)).mono ?_
      rintro e w3 ⟨rfl, hb3⟩
      have hs3 := hs2.below hb3
      go_wp2_with fail
      refine (zzFolder_none w1.heap.size key bd k none .nilIface w3 hs3 (looks_nil w3 k hc) (by omega) (by omega)).mono ?_
      rintro e w4 ⟨rfl, hb4⟩
      have hbel : Below w1.heap.size w1 w4 := (hb2.trans (hb3.mono hb2.size)).trans hb4
      have hz := fullKey_size key k
      have ht := fullKey_tail key k
      clear hs2 hs3 hb2 hb3 hb4
      generalize fullKey key k = kk at *
      obtain ⟨z1, z2⟩ := hz
      go_wp2
      go_ret
      exact ⟨rfl, hbel⟩

end Go.Proofs.Qxb6604484aFmt
