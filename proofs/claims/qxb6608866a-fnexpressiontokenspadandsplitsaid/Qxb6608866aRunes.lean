import Derived.Test.Qxb6608866aShelf
import Derived.WalkKit
import Derived.WalkSpells
import Derived.WalkLawsBesides
import Derived.WalkMore
import Derived.Lib.OthersKept
import Derived.Lib.IndexLaws
import Derived.Deep.QuietTactic
import Derived.BigQuiet
namespace Go.Proofs.Qxb6608866a
open Go.RowKit

theorem conv_rune (r : Int) (w : World) : (convert 21 9 (.int .i32 r)).run Try.prog w = .ok (.string (Utf8.encode r)) w := by kernel_rfl

theorem encode_forms (r : Int) (h1 : 128 ≤ r) : ∃ n, n < 64 ∧ ((∃ a, Utf8.encode r = ⟨#[a, UInt8.ofNat (128 + n)]⟩) ∨ (∃ a b, Utf8.encode r = ⟨#[a, b, UInt8.ofNat (128 + n)]⟩) ∨ (∃ a b c, Utf8.encode r = ⟨#[a, b, c, UInt8.ofNat (128 + n)]⟩)) := by
  have hc : 128 ≤ (if Utf8.valid r then r.toNat else Utf8.runeError) := by
    split
    · omega
    · decide
  unfold Utf8.encode
  generalize (if Utf8.valid r then r.toNat else Utf8.runeError) = c at hc ⊢
  refine ⟨c % 64, Nat.mod_lt _ (by omega), ?_⟩
  by_cases h2 : c < 0x800
  · left
    refine ⟨UInt8.ofNat (0xC0 + c / 64), ?_⟩
    simp only
    rw [if_neg (by omega), if_pos h2]
  · by_cases h3 : c < 0x10000
    · right; left
      refine ⟨UInt8.ofNat (0xE0 + c / 4096), UInt8.ofNat (0x80 + c / 64 % 64), ?_⟩
      simp only
      rw [if_neg (by omega), if_neg h2, if_pos h3]
    · right; right
      refine ⟨UInt8.ofNat (0xF0 + c / 262144), UInt8.ofNat (0x80 + c / 4096 % 64), UInt8.ofNat (0x80 + c / 64 % 64), ?_⟩
      simp only
      rw [if_neg (by omega), if_neg h2, if_neg h3]

/-- A rune beyond ASCII: two to four bytes, the last of them no ASCII byte. -/
theorem encode_high (r : Int) (h1 : 128 ≤ r) : ∃ rs, Utf8.encode r = rs ∧ 2 ≤ rs.size ∧ rs.size ≤ 4 ∧ ∃ h : rs.size - 1 < rs.size, 128 ≤ (rs[rs.size - 1]'h).toNat := by
  obtain ⟨n, hn, hf⟩ := encode_forms r h1
  have e : (UInt8.ofNat (128 + n)).toNat = 128 + n := by simp; omega
  rcases hf with ⟨a, hf⟩ | ⟨a, b, hf⟩ | ⟨a, b, c, hf⟩
  all_goals
    refine ⟨_, hf, by simp [ByteArray.size], by simp [ByteArray.size], by simp [ByteArray.size], ?_⟩
    show 128 ≤ (UInt8.ofNat (128 + n)).toNat
    rw [e]; omega

set_option maxRecDepth 100000 in
set_option maxHeartbeats 400000 in
theorem rune_bad (s : ByteArray) (r : Int) (w : World) (h1 : 128 ≤ r) (h2 : r ≠ 65533) (hv : Lib.validRune r = false) :
    Calls Try.prog 32 #[.string s, .int .i32 r] w fun e w' => e = .returned (.int .i64 (-1)) ∧ Below w.heap.size w w' := by
  have b2 : (r == 65533) = false := beq_eq_false_iff_ne.2 h2
  go_enter Try.func32, Try.ntmps32
  go_wp2_with fail
  refine (Try.utf8_ValidRune r w).mono ?_
  rintro e w1 ⟨rfl, rfl⟩
  rw [hv]
  go_wp2
  go_ret
  exact ⟨rfl, Below.refl _ _⟩

theorem wrap_small (x : Int) (h0 : 0 ≤ x) (h1 : x ≤ 1000000) : IntKind.i64.wrap x = x := by
  rw [IntKind.wrap_i64]
  omega

theorem at_eq (s : ByteArray) (i : Nat) (h : i < s.size) : s.data.toList[i]? = some (s[i]'h) := by
  obtain ⟨⟨l⟩⟩ := s
  have h' : i < l.length := h
  show l[i]? = some _
  rw [List.getElem?_eq_getElem h']
  rfl

/-- A byte beyond ASCII stands nowhere in a text of ASCII. -/
theorem ib_high (s : ByteArray) (ha : ∀ i (h : i < s.size), (s[i]'h).toNat < 128) (a : Nat) (c : Int) (h1 : 128 ≤ c) (h2 : c ≤ 255) (w : World) :
    Calls Try.prog 33 #[.string (s.extract a s.size), .int .u8 c] w fun e w' => e = .returned (.int .i64 (-1)) ∧ w' = w := by
  have e : Lib.indexByte (s.extract a s.size).data.toList c.toNat.toUInt8 = -1 := by
    have hge := Lib.indexByte_ge (s.extract a s.size).data.toList c.toNat.toUInt8
    by_cases h : Lib.indexByte (s.extract a s.size).data.toList c.toNat.toUInt8 = -1
    · exact h
    · obtain ⟨o, ho⟩ : ∃ o : Nat, Lib.indexByte (s.extract a s.size).data.toList c.toNat.toUInt8 = o := ⟨(Lib.indexByte (s.extract a s.size).data.toList c.toNat.toUInt8).toNat, by omega⟩
      have hm := List.mem_of_getElem? (Lib.indexByte_some ho).1
      rw [Lib.extract_data] at hm
      have hm2 := List.mem_of_mem_drop (List.mem_of_mem_take hm)
      obtain ⟨j, hj, hjj⟩ := List.mem_iff_getElem.1 hm2
      have hjs : j < s.size := by rw [Lib.size_eq]; exact hj
      have h3 := at_eq s j hjs
      rw [List.getElem?_eq_getElem hj, hjj] at h3
      have h4 := ha j hjs
      rw [← Option.some.inj h3] at h4
      have : (c.toNat.toUInt8).toNat = c.toNat := by simp; omega
      omega
  have := Try.strings_IndexByte (s.extract a s.size) c w
  rw [e] at this
  exact this

set_option maxRecDepth 100000 in
set_option maxHeartbeats 400000 in
theorem rune_good (s : ByteArray) (r : Int) (w : World) (h1 : 128 ≤ r) (h2 : r ≠ 65533) (hv : Lib.validRune r = true) (hs : s.size = 6) (ha : ∀ i (h : i < s.size), (s[i]'h).toNat < 128) :
    Calls Try.prog 32 #[.string s, .int .i32 r] w fun e w' => e = .returned (.int .i64 (-1)) ∧ Below w.heap.size w w' := by
  have b2 : (r == 65533) = false := beq_eq_false_iff_ne.2 h2
  go_enter Try.func32, Try.ntmps32
  go_wp2_with fail
  refine (Try.utf8_ValidRune r w).mono ?_
  rintro e w1 ⟨rfl, rfl⟩
  rw [hv]
  obtain ⟨rs, hrs, z2, z4, hz, hl⟩ := encode_high r h1
  have hcv := conv_rune r
  rw [hrs] at hcv
  obtain ⟨k, hk⟩ : ∃ k, rs.size = k + 1 := ⟨rs.size - 1, by omega⟩
  have hkr : k < rs.size := by omega
  have hl' : 128 ≤ (rs[k]'hkr).toNat := by
    have e : rs.size - 1 = k := by omega
    simpa [e] using hl
  have hk1 : 1 ≤ k := by omega
  have hk3 : k ≤ 3 := by omega
  have hks : k < s.size := by omega
  have hsk := ha k hks
  have hne : (((s[k]'hks).toNat : Int) != ((rs[k]'hkr).toNat : Int)) = true := by rw [bne_iff_ne]; omega
  have hs6 : 5 < s.size := by omega
  have i1 : (k : Int) < (s.size : Int) := by omega
  have i2 : (k : Int) < (rs.size : Int) := by omega
  have i3 : k + 1 ≤ s.size := by omega
  have i4 : (k : Int) + 1 ≤ (s.size : Int) := by omega
  have hki : (rs.size : Int) - 1 = (k : Int) := by omega
  have hub : (rs[k]'hkr).toNat < 256 := (rs[k]'hkr).toNat_lt
  have HA : Hid (∀ i (h : i < s.size), (s[i]'h).toNat < 128) := ha
  clear hv hl hz z2 z4 hrs hs ha hk
  go_wp2
  go_step3
  go_wp2
  refine wp_loop_rounds 1 ?_
  rw [rounds_succ]
  go_wp2
  go_step3
  go_wp2
  go_region
  go_wp2
  have HIB : Hid (∀ w : World, Calls Try.prog 33 #[.string (s.extract (k + 1) s.size), .int .u8 ((rs[k]'hkr).toNat : Int)] w fun e w' => e = .returned (.int .i64 (-1)) ∧ w' = w) := fun w => ib_high s HA.out (k + 1) ((rs[k]'hkr).toNat : Int) (by omega) (by omega) w
  have hwr : IntKind.i64.wrap ((k : Int) + 1) = (k : Int) + 1 := wrap_small _ (by omega) (by omega)
  have hsl : ∀ wx : World, (Instr.slice 9 (.string s) (some (.int .i64 ((k : Int) + 1))) none none).run Try.prog wx = .ok (.string (s.extract (k + 1) s.size)) wx := fun wx => by
    have h := run_slice_string_l (P := Try.prog) (w := wx) (t := 9) (s := s) (ht := Try.underlying9) .i64 ((k : Int) + 1) (by omega) (by omega)
    rw [show ((k : Int) + 1).toNat = k + 1 by omega] at h
    exact h
  go_quiet ((exact (HIB.out _).mono fun _ _ h => ⟨h.1, _, h.2⟩))
  go_wp2
  rw [Exit.noGoto_ret]
  go_wp2
  rw [Exit.noGoto_ret]
  go_wp2
  go_ret
  exact ⟨rfl, below_drewN (Below.refl _ _) (1 + nq)⟩

set_option maxRecDepth 100000 in
set_option maxHeartbeats 400000 in
theorem rune_error (s : ByteArray) (w : World) (ha : ∀ i (h : i < s.size), (s[i]'h).toNat < 128) :
    Calls Try.prog 32 #[.string s, .int .i32 65533] w fun e w' => e = .returned (.int .i64 (-1)) ∧ Below w.heap.size w w' := by
  go_enter Try.func32, Try.ntmps32
  go_wp2
  go_loopw [] (fun wr => ∃ pos : Nat, pos ≤ s.size ∧ wr.heap[w.heap.size]? = some (.stringIter s pos) ∧ Below w.heap.size w wr) (fun wr => s.size - wr.iterPos w.heap.size)
  case atStart =>
    refine ⟨0, Nat.zero_le _, ?_, (Below.refl _ w).alloc (Nat.le_refl _) _⟩
    have := World.iter_heap w s 0
    simpa using this
  case round =>
    obtain ⟨pos, hpos, hit, hbel⟩ := hrel
    by_cases hp : pos < s.size
    · have hb := ha pos hp
      have hnx : ∀ ty, (Instr.next (.pointer (some ⟨w.heap.size, 0, none⟩)) true ty).run Try.prog wr = _ := fun ty => Lib.run_next_ascii_at wr w.heap.size s pos ty hit hp hb
      have hne : (((s[pos]'hp).toNat : Int) == 65533) = false := beq_eq_false_iff_ne.2 (by omega)
      have hit2 := Lib.iterAt_heap wr w.heap.size s pos (pos + 1) hit
      have hbel2 := Lib.below_iterAt hbel (k := w.heap.size) (Nat.le_refl _) s (pos + 1)
      have I1 : Hid (wr.heap[w.heap.size]? = some (.stringIter s pos)) := hit
      have I2 : Hid ((wr.iterAt w.heap.size s (pos + 1)).heap[w.heap.size]? = some (.stringIter s (pos + 1))) := hit2
      clear ha hit hit2
      go_wp2
      go_roundw
      case rel => exact ⟨pos + 1, by omega, I2.out, hbel2⟩
      case measure =>
        rw [iterPos_of I2.out, iterPos_of I1.out]
        omega
    · have hnx : ∀ ty, (Instr.next (.pointer (some ⟨w.heap.size, 0, none⟩)) true ty).run Try.prog wr = _ := fun ty => Lib.run_next_end_at wr w.heap.size s pos ty hit hp
      clear hit ha
      go_wp2
      go_ret
      exact ⟨rfl, hbel⟩

def seps : ByteArray := ⟨#[32, 9, 10, 13, 40, 41]⟩

theorem seps_ascii : ∀ i (h : i < seps.size), (seps[i]'h).toNat < 128 := by
  intro i h
  have hm := List.mem_of_getElem? (at_eq seps i h)
  have hall : ∀ c ∈ seps.data.toList, c.toNat < 128 := by decide
  exact hall _ hm

theorem index_high (r : Int) (w : World) (h1 : 128 ≤ r) :
    Calls Try.prog 32 #[.string seps, .int .i32 r] w fun e w' => e = .returned (.int .i64 (-1)) ∧ Below w.heap.size w w' := by
  by_cases h2 : r = 65533
  · subst h2
    exact rune_error seps w seps_ascii
  · cases hv : Lib.validRune r with
    | true => exact rune_good seps r w h1 h2 hv rfl seps_ascii
    | false => exact rune_bad seps r w h1 h2 hv

set_option maxRecDepth 100000 in
set_option maxHeartbeats 400000 in
/-- strings.ContainsRune at a rune beyond ASCII. -/
theorem contains_high (r : Int) (w : World) (h1 : 128 ≤ r) :
    Calls Try.prog 31 #[.string ⟨#[32, 9, 10, 13, 40, 41]⟩, .int .i32 r] w fun e w' => e = .returned (.bool false) ∧ Below w.heap.size w w' := by
  go_enter Try.func31, Try.ntmps31
  go_wp2_with fail
  refine (index_high r w h1).mono ?_
  rintro e w1 ⟨rfl, hb⟩
  go_wp2
  go_ret
  exact ⟨rfl, hb⟩

end Go.Proofs.Qxb6608866a
