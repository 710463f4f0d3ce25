import Derived.Test.Qxb6604484aFmtProg
import Derived.WalkKit
import Derived.WalkSpells
import Derived.WalkLawsBesides
import Derived.Maps.OwnOps
namespace Go.Proofs.Qxb6604484aFmt
open Go.RowKit Go.Maps Go.WideMaps

/-- The full dotted key. -/
def fullKey (key k : ByteArray) : ByteArray := if key.toList.isEmpty = true then k else key ++ ⟨#[46]⟩ ++ k

theorem law9 : Keyed Tryf.prog 9 := string_keyed Tryf.underlying9

set_option maxHeartbeats 400000 in
theorem path_calls (B : Nat) (key k : ByteArray) (w : World) (hk : w.cell? ⟨B, 1, none⟩ = some (.string key)) (s1 : key.size ≤ 1048576) (s2 : k.size ≤ 1048576) :
    Calls Tryf.prog 33 #[.pointer (some ⟨B, 0, none⟩), .string k] w fun e w' => e = .returned (.string (fullKey key k)) ∧ w' = w := by
  cases he : key.toList.isEmpty with
  | true =>
    go_enter Tryf.func33, Tryf.ntmps33
    go_wp2
    go_ret
    exact ⟨by simp [fullKey, he], rfl⟩
  | false =>
    go_enter Tryf.func33, Tryf.ntmps33
    go_wp2
    go_ret
    exact ⟨by simp [fullKey, he], rfl⟩

set_option maxRecDepth 100000 in
set_option maxHeartbeats 400000 in
theorem lookup_calls (B : Nat) (k : ByteArray) (vm : Option Nat) (v : Value) (ok : Bool) (w : World) (hB : B < w.heap.size) (h3 : w.cell? ⟨B, 3, none⟩ = some (.map vm)) (h4 : w.cell? ⟨B, 4, none⟩ = some (.map none)) (f4 : w.frozen? ⟨B, 4, none⟩ = false) (hkz : k.size ≤ maxLen)
    (hvm : ∀ b, vm = some b → b < w.heap.size ∧ b ≠ B)
    (hlook : ∀ wx : World, (∀ b, vm = some b → wx.heap[b]? = w.heap[b]?) → (Instr.lookup 48 (.map vm) (.string k) true).run Tryf.prog wx = .ok (.tuple #[v, .bool ok]) wx) :
    Calls Tryf.prog 35 #[.pointer (some ⟨B, 0, none⟩), .string k] w fun e w' => e = .returned (.tuple #[v, .bool ok]) ∧ Below B w w' ∧ ∀ o, o ≠ 4 → w'.cell? ⟨B, o, none⟩ = w.cell? ⟨B, o, none⟩ := by
  have hmm := @run_makeMap Tryf.prog
  have hnil := fun w => run_eql_map_nil (P := Tryf.prog) w 49 9 4 none Tryf.underlying49
  have hkey : keyOf Tryf.prog 9 (.string k) = some (.string k.data.toList) := keyOf_string_mk Tryf.underlying9 hkz
  have hown : ((w.setCell ⟨B, 4, none⟩ (.map (some w.heap.size))).alloc (.map #[] 0)).ownsMap Tryf.prog 9 (plainElem (H := Unit) Tryf.prog 4) w.heap.size 0 (.map []) := by
    have := World.ownsMap_made (H := Unit) (w.setCell ⟨B, 4, none⟩ (.map (some w.heap.size))) Tryf.prog 9 (plainElem (H := Unit) Tryf.prog 4)
    simpa [World.setCell] using this
  have HL : Hid (∀ wx : World, (∀ b, vm = some b → wx.heap[b]? = w.heap[b]?) → (Instr.lookup 48 (.map vm) (.string k) true).run Tryf.prog wx = .ok (.tuple #[v, .bool ok]) wx) := hlook
  have HV : Hid (∀ b, vm = some b → b < w.heap.size ∧ b ≠ B) := hvm
  clear hlook hvm
  go_enter Tryf.func35, Tryf.ntmps35
  go_wp2_with (at_mapUpdate; refine wpList_mapUpdate_own _ rfl _ _ _ 49 rfl 9 4 law9 Tryf.underlying49 _ w.heap.size 0 _ rfl hown (by unfold maxLen; omega) _ _ _ rfl rfl hkey _ [] (plainElem_bool Tryf.underlying4 true) ?_)
  intro w1 hown1 hg1
  have hz1 : w.heap.size + 1 ≤ w1.heap.size := by
    have := hg1.size
    simpa [World.setCell] using this
  have hblk : ∀ b, b < w.heap.size → b ≠ B → w1.heap[b]? = w.heap[b]? := fun b hb hne => by
    rw [hg1.block b (by simp [World.setCell]; omega) (by simp; omega)]
    rw [Below.heap_alloc _ _ _ (by simpa [World.setCell] using hb), Below.heap_setCell _ _ _ _ hne]
  have hcB : ∀ o, o ≠ 4 → w1.cell? ⟨B, o, none⟩ = w.cell? ⟨B, o, none⟩ := fun o ho => by
    rw [World.cell?_of_block (w := (w.setCell ⟨B, 4, none⟩ (.map (some w.heap.size))).alloc (.map #[] 0)) (hg1.block B (by simp [World.setCell]; omega) (by simp; omega))]
    go_simp
  have hbel : Below B w w1 := ⟨hg1.os, hg1.tape, hg1.output, by omega, fun b hb => hblk b (by omega) (by omega)⟩
  have hl1 := HL.out w1 (fun b hb => hblk b (HV.out b hb).1 (HV.out b hb).2)
  have h31 : w1.cell? ⟨B, 3, none⟩ = some (.map vm) := (hcB 3 (by omega)).trans h3
  clear hown1 hg1 hown
  have HC : Hid (∀ o, o ≠ 4 → w1.cell? ⟨B, o, none⟩ = w.cell? ⟨B, o, none⟩) := hcB
  clear hcB hblk
  go_wp2
  go_ret2
  exact ⟨rfl, hbel, HC.out⟩

theorem ta_str (s : ByteArray) (w : World) : (Instr.typeAssert (.iface 9 (.string s)) 20 9 true).run Tryf.prog w = .ok (.tuple #[.string s, .bool true]) w := by kernel_rfl
theorem ta_key (a : Addr) (w : World) : (Instr.typeAssert (.iface 52 (.pointer (some a))) 55 52 true).run Tryf.prog w = .ok (.tuple #[.pointer (some a), .bool true]) w := by kernel_rfl
theorem ta_nil (w : World) : (Instr.typeAssert .nilIface 55 52 true).run Tryf.prog w = .ok (.tuple #[.pointer none, .bool false]) w := by kernel_rfl

theorem fullKey_size (key k : ByteArray) : k.size ≤ (fullKey key k).size ∧ (fullKey key k).size ≤ key.size + 1 + k.size := by
  unfold fullKey
  split
  · omega
  · simp only [ByteArray.size_append]
    have : (⟨#[46]⟩ : ByteArray).size = 1 := rfl
    omega

theorem fullKey_tail (key k : ByteArray) : (fullKey key k).extract ((fullKey key k).size - k.size) (fullKey key k).size = k := by
  unfold fullKey
  split
  · simp
  · have e : (key ++ ⟨#[46]⟩ ++ k).size - k.size = (key ++ ⟨#[46]⟩).size := by simp only [ByteArray.size_append]; omega
    rw [e]
    exact ByteArray.extract_append_eq_right rfl (by simp)

/-- A section of the call's own, in block B, none of whose keys has been read. -/
structure Sec (w : World) (B : Nat) (key bd : ByteArray) (vm : Option Nat) : Prop where
  lt : B < w.heap.size
  c1 : w.cell? ⟨B, 1, none⟩ = some (.string key)
  c2 : w.cell? ⟨B, 2, none⟩ = some (.string bd)
  c3 : w.cell? ⟨B, 3, none⟩ = some (.map vm)
  c4 : w.cell? ⟨B, 4, none⟩ = some (.map none)
  f4 : w.frozen? ⟨B, 4, none⟩ = false
  vm : ∀ b, vm = some b → b < w.heap.size ∧ b ≠ B

theorem Sec.below {w w1 : World} {B : Nat} {key bd : ByteArray} {vm : Option Nat} (h : Sec w B key bd vm) (hb : Below w.heap.size w w1) : Sec w1 B key bd vm :=
  ⟨Nat.lt_of_lt_of_le h.lt hb.size, (hb.cell h.lt).trans h.c1, (hb.cell h.lt).trans h.c2, (hb.cell h.lt).trans h.c3, (hb.cell h.lt).trans h.c4, (hb.frozen h.lt).trans h.f4, fun b e => ⟨Nat.lt_of_lt_of_le (h.vm b e).1 hb.size, (h.vm b e).2⟩⟩

/-- What the look-up of k in the section's values gives, wherever the values lie as they lay. -/
def Looks (w : World) (vm : Option Nat) (k : ByteArray) (v : Value) (ok : Bool) : Prop :=
  ∀ wx : World, (∀ b, vm = some b → wx.heap[b]? = w.heap[b]?) → (Instr.lookup 48 (.map vm) (.string k) true).run Tryf.prog wx = .ok (.tuple #[v, .bool ok]) wx

set_option maxRecDepth 100000 in
set_option maxHeartbeats 400000 in
theorem str_none (B : Nat) (key bd k : ByteArray) (vm : Option Nat) (v : Value) (w : World) (hs : Sec w B key bd vm) (hl : Looks w vm k v false) (hkz : k.size ≤ maxLen) :
    Calls Tryf.prog 30 #[.pointer (some ⟨B, 0, none⟩), .string k] w fun e w' => e = .returned (.tuple #[.string ⟨#[]⟩, .bool false, .nilIface]) ∧ Below B w w' ∧ ∀ o, o ≠ 4 → w'.cell? ⟨B, o, none⟩ = w.cell? ⟨B, o, none⟩ := by
  go_enter Tryf.func30, Tryf.ntmps30
  go_wp2_with fail
  refine (lookup_calls B k vm v false w hs.lt hs.c3 hs.c4 hs.f4 hkz hs.vm hl).mono ?_
  rintro e w1 ⟨rfl, hb, hc⟩
  have HC : Hid (∀ o, o ≠ 4 → w1.cell? ⟨B, o, none⟩ = w.cell? ⟨B, o, none⟩) := hc
  clear hc
  go_wp2
  go_ret3
  exact ⟨rfl, hb, HC.out⟩

set_option maxRecDepth 100000 in
set_option maxHeartbeats 400000 in
theorem str_some (B : Nat) (key bd k s : ByteArray) (vm : Option Nat) (w : World) (hs : Sec w B key bd vm) (hl : Looks w vm k (.iface 9 (.string s)) true) (hkz : k.size ≤ maxLen) :
    Calls Tryf.prog 30 #[.pointer (some ⟨B, 0, none⟩), .string k] w fun e w' => e = .returned (.tuple #[.string s, .bool true, .nilIface]) ∧ Below B w w' ∧ ∀ o, o ≠ 4 → w'.cell? ⟨B, o, none⟩ = w.cell? ⟨B, o, none⟩ := by
  go_enter Tryf.func30, Tryf.ntmps30
  go_wp2_with fail
  refine (lookup_calls B k vm (.iface 9 (.string s)) true w hs.lt hs.c3 hs.c4 hs.f4 hkz hs.vm hl).mono ?_
  rintro e w1 ⟨rfl, hb, hc⟩
  have HC : Hid (∀ o, o ≠ 4 → w1.cell? ⟨B, o, none⟩ = w.cell? ⟨B, o, none⟩) := hc
  clear hc
  have hta := ta_str s
  go_wp2
  go_ret3
  exact ⟨rfl, hb, HC.out⟩

/-- A key error of the call's own, in block p. -/
structure Err (w : World) (p : Nat) (key msg : ByteArray) : Prop where
  lt : p < w.heap.size
  c0 : w.cell? ⟨p, 0, none⟩ = some (.string key)
  c1 : w.cell? ⟨p, 1, none⟩ = some (.string msg)

set_option maxRecDepth 100000 in
set_option maxHeartbeats 400000 in
theorem keyErr_calls (B : Nat) (key bd k msg : ByteArray) (vm : Option Nat) (w : World) (hs : Sec w B key bd vm) (s1 : key.size ≤ 1048576) (s2 : k.size ≤ 1048576) :
    Calls Tryf.prog 28 #[.pointer (some ⟨B, 0, none⟩), .string k, .string msg] w fun e w' => e = .returned (.iface 52 (.pointer (some ⟨w.heap.size, 0, none⟩))) ∧ w' = w.alloc (.cells #[.string (fullKey key k), .string msg] 58) := by
  go_enter Tryf.func28, Tryf.ntmps28
  go_wp2_with fail
  refine (path_calls B key k w hs.c1 s1 s2).mono ?_
  rintro e w1 ⟨rfl, rfl⟩
  go_wp2
  go_ret
  exact ⟨rfl, rfl⟩

set_option maxRecDepth 100000 in
set_option maxHeartbeats 400000 in
theorem folder_none (B : Nat) (key bd k : ByteArray) (vm : Option Nat) (v : Value) (w : World) (hs : Sec w B key bd vm) (hl : Looks w vm k v false) (s1 : key.size ≤ 1048576) (s2 : k.size ≤ 1048576) :
    Calls Tryf.prog 29 #[.pointer (some ⟨B, 0, none⟩), .string k] w fun e w' => ∃ p, e = .returned (.tuple #[.string ⟨#[]⟩, .iface 52 (.pointer (some ⟨p, 0, none⟩))]) ∧ Below B w w' ∧ Err w' p (fullKey key k) ⟨#[114, 101, 113, 117, 105, 114, 101, 100]⟩ := by
  go_enter Tryf.func29, Tryf.ntmps29
  go_wp2_with fail
  refine (str_none B key bd k vm v w hs hl (by unfold maxLen; omega)).mono ?_
  rintro e w1 ⟨rfl, hb, hc⟩
  have h1 : w1.cell? ⟨B, 1, none⟩ = some (.string key) := (hc 1 (by omega)).trans hs.c1
  clear hc
  go_wp2_with fail
  refine (path_calls B key k w1 h1 s1 s2).mono ?_
  rintro e w2 ⟨rfl, rfl⟩
  go_wp2
  go_ret2
  exact ⟨w2.heap.size, rfl, hb.alloc (Nat.le_trans (Nat.le_of_lt hs.lt) hb.size) _, by simp, by go_simp, by go_simp⟩

set_option maxRecDepth 100000 in
set_option maxHeartbeats 400000 in
theorem zzKeyErr_calls (B : Nat) (key bd k msg : ByteArray) (vm : Option Nat) (w : World) (hs : Sec w B key bd vm) (s1 : key.size ≤ 1048576) (s2 : k.size ≤ 1048576) :
    Calls Tryf.prog 10 #[.pointer (some ⟨B, 0, none⟩), .string k, .string msg] w fun e w' => e = .returned (.tuple #[.bool true, .string (fullKey key k), .string msg]) ∧ Below w.heap.size w w' := by
  have hta := ta_key
  go_enter Tryf.func10, Tryf.ntmps10
  go_wp2_with fail
  refine (keyErr_calls B key bd k msg vm w hs s1 s2).mono ?_
  rintro e w1 ⟨rfl, rfl⟩
  go_wp2
  go_region
  go_wp2
  go_ret3
  exact ⟨rfl, ((Below.refl _ _).alloc (Nat.le_refl _) _).drew⟩

set_option maxRecDepth 100000 in
set_option maxHeartbeats 400000 in
theorem zzFolder_none (B : Nat) (key bd k : ByteArray) (vm : Option Nat) (v : Value) (w : World) (hs : Sec w B key bd vm) (hl : Looks w vm k v false) (s1 : key.size ≤ 1048576) (s2 : k.size ≤ 1048576) :
    Calls Tryf.prog 11 #[.pointer (some ⟨B, 0, none⟩), .string k] w fun e w' => e = .returned (.tuple #[.string ⟨#[]⟩, .bool false, .bool true, .string (fullKey key k), .string ⟨#[114, 101, 113, 117, 105, 114, 101, 100]⟩]) ∧ Below B w w' := by
  have hta := ta_key
  go_enter Tryf.func11, Tryf.ntmps11
  go_wp2_with fail
  refine (folder_none B key bd k vm v w hs hl s1 s2).mono ?_
  rintro e w1 ⟨p, rfl, hb, he⟩
  have e0 := he.c0
  have e1 := he.c1
  go_wp2
  go_region
  go_wp2
  exact bodyPost_ret (v := .tuple #[.string ⟨#[]⟩, .bool false, .bool true, .string (fullKey key k), .string ⟨#[114, 101, 113, 117, 105, 114, 101, 100]⟩]) (by simp [results, Tryf.results11, go_sem]) rfl ⟨rfl, hb.drew⟩

end Go.Proofs.Qxb6604484aFmt
