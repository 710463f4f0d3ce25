import Derived.Test.Qxb6604484aFmtKeyLaw
import Derived.Test.Qxb6604484aFmtShelf
import Derived.Test.Qxb6604484aFmtCleanWalk
namespace Go.Proofs.Qxb6604484aFmt
open Go.RowKit Go.Maps Go.WideMaps

/-- How an element of the section's values reads: a string in an interface value, or nil. -/
def readAny : Value → Option (DataW Unit × List MemPlace)
  | .iface 9 (.string s) => some (.lit (.string s.data.toList), [])
  | .nilIface => some (.nil, [])
  | _ => none

theorem readAny_str {v : Value} {l : List UInt8} {ps : List MemPlace} (h : readAny v = some (.lit (.string l), ps)) : v = .iface 9 (.string ⟨l.toArray⟩) := by
  unfold readAny at h
  split at h
  · rename_i s
    simp only [Option.some.injEq, Prod.mk.injEq, DataW.lit.injEq, Lit.string.injEq] at h
    rw [← h.1, Lib.mk_data]
  · simp at h
  · simp at h

theorem readAny_nil {v : Value} {ps : List MemPlace} (h : readAny v = some (.nil, ps)) : v = .nilIface := by
  unfold readAny at h
  split at h
  · simp at h
  · rfl
  · simp at h

/-- A section's values: one string at one key. -/
def Holds1 (w : World) (bm : Nat) (sk sv : ByteArray) : Prop := w.ownsMap Tryf.prog 9 readAny bm 1 ((DataW.map []).put (.string sk.data.toList) (.lit (.string sv.data.toList)))

theorem Holds1.of_block {w wx : World} {bm : Nat} {sk sv : ByteArray} (h : Holds1 w bm sk sv) (hb : wx.heap[bm]? = w.heap[bm]?) : Holds1 wx bm sk sv := by
  obtain ⟨es, clock, h1, h2⟩ := h
  exact ⟨es, clock, hb.trans h1, h2⟩

theorem data_ne {a b : ByteArray} (h : a ≠ b) : Lit.string a.data.toList ≠ Lit.string b.data.toList := by
  intro e
  simp only [Lit.string.injEq] at e
  apply h
  rw [← Lib.mk_data a, ← Lib.mk_data b, e]

theorem looks_hit {w : World} {bm : Nat} {sk sv : ByteArray} (h : Holds1 w bm sk sv) (hk : sk.size ≤ maxLen) : Looks w (some bm) sk (.iface 9 (.string sv)) true := fun wx hwx => by
  have h' := h.of_block (hwx bm rfl)
  obtain ⟨v, ps, hrun, hv⟩ := World.ownsMap.look_ok (t := 48) (e := 20) h' law9 Tryf.underlying48 (zero20 wx) (zd := .nil) (zp := []) rfl (keyOf_string_mk Tryf.underlying9 hk)
  have hK : WideAt.IsKeyLit (.string sk.data.toList) := trivial
  rw [atKey_put_same ⟨_, rfl⟩ hK] at hv
  rw [has_put_same ⟨_, rfl⟩ hK] at hrun
  rw [readAny_str hv, Lib.mk_data] at hrun
  exact hrun

theorem looks_miss {w : World} {bm : Nat} {sk sv k : ByteArray} (h : Holds1 w bm sk sv) (hk : k.size ≤ maxLen) (hne : k ≠ sk) : Looks w (some bm) k .nilIface false := fun wx hwx => by
  have h' := h.of_block (hwx bm rfl)
  obtain ⟨v, ps, hrun, hv⟩ := World.ownsMap.look_ok (t := 48) (e := 20) h' law9 Tryf.underlying48 (zero20 wx) (zd := .nil) (zp := []) rfl (keyOf_string_mk Tryf.underlying9 hk)
  rw [atKey_put_other (data_ne hne)] at hv
  rw [has_put_other (data_ne hne)] at hrun
  have : v = .nilIface := readAny_nil hv
  rw [this] at hrun
  exact hrun

set_option maxRecDepth 100000 in
set_option maxHeartbeats 400000 in
theorem newStr (key bd sk sv : ByteArray) (w : World) (hk : sk.size ≤ maxLen) :
    Calls Tryf.prog 13 #[.string key, .string bd, .string sk, .string sv] w fun e w' => ∃ B bm, e = .returned (.pointer (some ⟨B, 0, none⟩)) ∧ w.heap.size ≤ B ∧ Below w.heap.size w w' ∧ Sec w' B key bd (some bm) ∧ Holds1 w' bm sk sv := by
  have hmm := @run_makeMap Tryf.prog
  have hkey : keyOf Tryf.prog 9 (.string sk) = some (.string sk.data.toList) := keyOf_string_mk Tryf.underlying9 hk
  have hown : (w.alloc (.map #[] 0)).ownsMap Tryf.prog 9 readAny w.heap.size 0 (.map []) := World.ownsMap_made w Tryf.prog 9 readAny
  go_enter Tryf.func13, Tryf.ntmps13
  go_wp2_with (at_mapUpdate; go_must (refine wpList_mapUpdate_own _ rfl _ _ _ 48 rfl 9 20 law9 Tryf.underlying48 _ w.heap.size 0 _ rfl hown (by unfold maxLen; omega) _ _ _ rfl rfl hkey (.lit (.string sv.data.toList)) [] rfl ?_))
  intro w1 hown1 hg1
  have hz1 : w.heap.size + 1 ≤ w1.heap.size := by simpa using hg1.size
  have hbel : Below w.heap.size w w1 := ((Below.refl _ _).alloc (Nat.le_refl _) _).grown hg1 (by simp) (fun j hj => by cases hj; exact Nat.le_refl _)
  clear hg1 hown
  go_wp2
  go_ret
  refine ⟨w1.heap.size, w.heap.size, rfl, by omega, hbel.alloc (by omega) _, ⟨by simp, by go_simp, by go_simp, by go_simp, by go_simp, by go_simp, ?_⟩, ?_⟩
  · intro b hb
    cases hb
    exact ⟨by simp; omega, by omega⟩
  · exact World.ownsMap.alloc hown1 _

set_option maxHeartbeats 400000 in
theorem fullKey_calls (key k : ByteArray) (w : World) (s1 : key.size ≤ 1048576) (s2 : k.size ≤ 1048576) :
    Calls Tryf.prog 22 #[.string key, .string k] w fun e w' => e = .returned (.string (fullKey key k)) ∧ w' = w := by
  cases he : key.toList.isEmpty with
  | true =>
    go_enter Tryf.func22, Tryf.ntmps22
    go_wp2
    go_ret
    exact ⟨by simp [fullKey, he], rfl⟩
  | false =>
    go_enter Tryf.func22, Tryf.ntmps22
    go_wp2
    go_ret
    exact ⟨by simp [fullKey, he], rfl⟩

/-- The folder that is answered. -/
def resolve (bd sv : List UInt8) : List UInt8 := if Lib.Pa.isAbs sv = true then Lib.Pa.cleanEls sv else Lib.Pa.join [bd, sv]

set_option maxRecDepth 100000 in
set_option maxHeartbeats 400000 in
theorem absolute_calls (bd sv : ByteArray) (w : World) (s1 : bd.size ≤ 1048576) (s2 : sv.size ≤ 1048576) :
    Calls Tryf.prog 34 #[.string bd, .string sv] w fun e w' => e = .returned (.string ⟨(resolve bd.data.toList sv.data.toList).toArray⟩) ∧ Below w.heap.size w w' := by
  cases ha : Lib.Pa.isAbs sv.data.toList with
  | true =>
    have E1 : Hid (resolve bd.data.toList sv.data.toList = Lib.Pa.cleanEls sv.data.toList) := by unfold Hid resolve; rw [if_pos ha]
    go_enter Tryf.func34, Tryf.ntmps34
    go_wp2_with fail
    refine (Tryf.filepath_IsAbs sv w).mono ?_
    rintro e w1 ⟨rfl, rfl⟩
    rw [ha]
    clear ha
    go_wp2_with fail
    refine (Tryf.filepath_Clean_rules sv w1 (by omega)).mono ?_
    rintro e w2 ⟨rfl, hb2⟩
    go_wp2
    go_ret
    exact ⟨by rw [E1.out]; rfl, hb2⟩
  | false =>
    have E1 : Hid (resolve bd.data.toList sv.data.toList = Lib.Pa.join [bd.data.toList, sv.data.toList]) := by unfold Hid resolve; rw [if_neg (by rw [ha]; simp)]
    go_enter Tryf.func34, Tryf.ntmps34
    go_wp2_with fail
    refine (Tryf.filepath_IsAbs sv w).mono ?_
    rintro e w1 ⟨rfl, rfl⟩
    rw [ha]
    clear ha
    go_wp2_with fail
    have hj := Tryf.filepath_Join_rules w1.heap.size 0 2 [bd, sv] (w1.alloc (.cells #[.string bd, .string sv] 9)) (fun j x hj => by
      match j, hj with
      | 0, hj => simp at hj; subst hj; go_simp
      | 1, hj => simp at hj; subst hj; go_simp
      | j + 2, hj => simp at hj) (by simp) (Nat.le_refl _) (by simp [Lib.lens]; omega)
    refine hj.mono ?_
    rintro e w2 ⟨rfl, hb2⟩
    go_wp2
    go_ret
    exact ⟨by rw [E1.out]; rfl, ((Below.refl _ _).alloc (Nat.le_refl _) _).trans (hb2.mono (by simp))⟩

set_option maxRecDepth 100000 in
set_option maxHeartbeats 400000 in
theorem folder_empty (B : Nat) (key bd k s : ByteArray) (vm : Option Nat) (w : World) (hs : Sec w B key bd vm) (hl : Looks w vm k (.iface 9 (.string s)) true) (s1 : key.size ≤ 1048576) (s2 : k.size ≤ 1048576) (he : s.toList.isEmpty = true) :
    Calls Tryf.prog 29 #[.pointer (some ⟨B, 0, none⟩), .string k] w fun e w' => ∃ p, e = .returned (.tuple #[.string ⟨#[]⟩, .iface 52 (.pointer (some ⟨p, 0, none⟩))]) ∧ Below B w w' ∧ Err w' p (fullKey key k) ⟨#[114, 101, 113, 117, 105, 114, 101, 100]⟩ := by
  go_enter Tryf.func29, Tryf.ntmps29
  go_wp2_with fail
  refine (str_some B key bd k s vm w hs hl (by unfold maxLen; omega)).mono ?_
  rintro e w1 ⟨rfl, hb, hc⟩
  have h1 : w1.cell? ⟨B, 1, none⟩ = some (.string key) := (hc 1 (by omega)).trans hs.c1
  clear hc
  go_wp2_with fail
  refine (path_calls B key k w1 h1 s1 s2).mono ?_
  rintro e w2 ⟨rfl, rfl⟩
  go_wp2
  go_ret2
  exact ⟨w2.heap.size, rfl, hb.alloc (Nat.le_trans (Nat.le_of_lt hs.lt) hb.size) _, by simp, by go_simp, by go_simp⟩

set_option maxRecDepth 100000 in
set_option maxHeartbeats 400000 in
theorem folder_some (B : Nat) (key bd k s : ByteArray) (vm : Option Nat) (w : World) (hs : Sec w B key bd vm) (hl : Looks w vm k (.iface 9 (.string s)) true) (s2 : k.size ≤ 1048576) (s3 : bd.size ≤ 1048576) (s4 : s.size ≤ 1048576) (he : s.toList.isEmpty = false) :
    Calls Tryf.prog 29 #[.pointer (some ⟨B, 0, none⟩), .string k] w fun e w' => e = .returned (.tuple #[.string ⟨(resolve bd.data.toList s.data.toList).toArray⟩, .nilIface]) ∧ Below B w w' := by
  go_enter Tryf.func29, Tryf.ntmps29
  go_wp2_with fail
  refine (str_some B key bd k s vm w hs hl (by unfold maxLen; omega)).mono ?_
  rintro e w1 ⟨rfl, hb, hc⟩
  have h1 : w1.cell? ⟨B, 2, none⟩ = some (.string bd) := (hc 2 (by omega)).trans hs.c2
  clear hc
  go_wp2_with fail
  refine (absolute_calls bd s w1 s3 s4).mono ?_
  rintro e w2 ⟨rfl, hb2⟩
  go_wp2
  go_ret2
  exact ⟨rfl, hb.trans (hb2.mono (Nat.le_trans (Nat.le_of_lt hs.lt) hb.size))⟩

set_option maxRecDepth 100000 in
set_option maxHeartbeats 400000 in
theorem zzFolder_empty (B : Nat) (key bd k s : ByteArray) (vm : Option Nat) (w : World) (hs : Sec w B key bd vm) (hl : Looks w vm k (.iface 9 (.string s)) true) (s1 : key.size ≤ 1048576) (s2 : k.size ≤ 1048576) (he : s.toList.isEmpty = true) :
    Calls Tryf.prog 11 #[.pointer (some ⟨B, 0, none⟩), .string k] w fun e w' => e = .returned (.tuple #[.string ⟨#[]⟩, .bool false, .bool true, .string (fullKey key k), .string ⟨#[114, 101, 113, 117, 105, 114, 101, 100]⟩]) ∧ Below B w w' := by
  have hta := ta_key
  go_enter Tryf.func11, Tryf.ntmps11
  go_wp2_with fail
  refine (folder_empty B key bd k s vm w hs hl s1 s2 he).mono ?_
  rintro e w1 ⟨p, rfl, hb, he⟩
  have e0 := he.c0
  have e1 := he.c1
  go_wp2
  go_region
  go_wp2
  exact bodyPost_ret (v := .tuple #[.string ⟨#[]⟩, .bool false, .bool true, .string (fullKey key k), .string ⟨#[114, 101, 113, 117, 105, 114, 101, 100]⟩]) (by simp [results, Tryf.results11, go_sem]) rfl ⟨rfl, hb.drew⟩

set_option maxRecDepth 100000 in
set_option maxHeartbeats 400000 in
theorem zzFolder_some (B : Nat) (key bd k s : ByteArray) (vm : Option Nat) (w : World) (hs : Sec w B key bd vm) (hl : Looks w vm k (.iface 9 (.string s)) true) (s2 : k.size ≤ 1048576) (s3 : bd.size ≤ 1048576) (s4 : s.size ≤ 1048576) (he : s.toList.isEmpty = false) :
    Calls Tryf.prog 11 #[.pointer (some ⟨B, 0, none⟩), .string k] w fun e w' => e = .returned (.tuple #[.string ⟨(resolve bd.data.toList s.data.toList).toArray⟩, .bool true, .bool false, .string ⟨#[]⟩, .string ⟨#[]⟩]) ∧ Below B w w' := by
  have hta := ta_nil
  go_enter Tryf.func11, Tryf.ntmps11
  go_wp2_with fail
  refine (folder_some B key bd k s vm w hs hl s2 s3 s4 he).mono ?_
  rintro e w1 ⟨rfl, hb⟩
  go_wp2
  go_region
  go_wp2
  exact bodyPost_ret (v := .tuple #[.string ⟨(resolve bd.data.toList s.data.toList).toArray⟩, .bool true, .bool false, .string ⟨#[]⟩, .string ⟨#[]⟩]) (by simp [results, Tryf.results11, go_sem]) rfl ⟨rfl, hb.drew⟩

end Go.Proofs.Qxb6604484aFmt
