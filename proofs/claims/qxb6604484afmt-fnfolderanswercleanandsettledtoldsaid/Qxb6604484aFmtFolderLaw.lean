import Derived.Test.Qxb6604484aFmtFolderWalks
import Derived.Lib.CleanLen
namespace Go.Proofs.Qxb6604484aFmt
open Go.RowKit Go.Maps Go.WideMaps

/-- The path that is cleaned. -/
def taken (bd sv : List UInt8) : List UInt8 := if Lib.Pa.isAbs sv = true ∨ bd = [] then sv else bd ++ 47 :: sv

theorem resolve_eq (bd sv : List UInt8) (hs : sv ≠ []) : resolve bd sv = Lib.Pa.cleanEls (taken bd sv) := by
  unfold resolve taken
  by_cases ha : Lib.Pa.isAbs sv = true
  · rw [if_pos ha, if_pos (.inl ha)]
  · rw [if_neg ha]
    by_cases hb : bd = []
    · subst hb
      rw [if_pos (.inr rfl), ← Lib.Pa.clean_eq_cleanEls]
      simp [Lib.Pa.join, hs, List.intercalate]
    · rw [if_neg (by intro h; rcases h with h | h; exact ha h; exact hb h), ← Lib.Pa.clean_eq_cleanEls]
      simp [Lib.Pa.join, hs, hb, List.intercalate]

theorem taken_ne (bd sv : List UInt8) (hs : sv ≠ []) : taken bd sv ≠ [] := by
  unfold taken
  split
  · exact hs
  · simp

theorem taken_abs (bd sv : List UInt8) : Lib.Pa.isAbs (taken bd sv) = (Lib.Pa.isAbs sv || Lib.Pa.isAbs bd) := by
  unfold taken
  by_cases ha : Lib.Pa.isAbs sv = true
  · rw [if_pos (.inl ha), ha]; rfl
  · have ha' : Lib.Pa.isAbs sv = false := by simpa using ha
    by_cases hb : bd = []
    · subst hb
      rw [if_pos (.inr rfl), ha']; rfl
    · rw [if_neg (by intro h; rcases h with h | h; exact ha h; exact hb h), ha']
      cases bd with
      | nil => exact absurd rfl hb
      | cons c t => rfl

theorem resolve_abs (bd sv : List UInt8) (hs : sv ≠ []) : Lib.Pa.isAbs (resolve bd sv) = (Lib.Pa.isAbs sv || Lib.Pa.isAbs bd) := by
  rw [resolve_eq bd sv hs, ← taken_abs]
  exact Cl.cleanEls_head _

theorem resolve_ne (bd sv : List UInt8) (hs : sv ≠ []) : resolve bd sv ≠ [] := by
  rw [resolve_eq bd sv hs]
  exact Cl.cleanEls_ne _

theorem resolve_clean (bd sv : List UInt8) (hs : sv ≠ []) : Lib.Pa.cleanEls (resolve bd sv) = resolve bd sv := by
  rw [resolve_eq bd sv hs]
  exact Cl.cleanEls_idem _

theorem resolve_again (bd sv : List UInt8) (hs : sv ≠ []) (h : (Lib.Pa.isAbs sv || Lib.Pa.isAbs bd) = true ∨ bd = []) : resolve bd (resolve bd sv) = resolve bd sv := by
  have hc := resolve_clean bd sv hs
  rw [resolve_eq bd (resolve bd sv) (resolve_ne bd sv hs)]
  have : taken bd (resolve bd sv) = resolve bd sv := by
    unfold taken
    rw [if_pos]
    rcases h with h | h
    · left; rw [resolve_abs bd sv hs]; exact h
    · exact .inr h
  rw [this, hc]

theorem resolve_length (bd sv : List UInt8) (hs : sv ≠ []) : (resolve bd sv).length ≤ bd.length + sv.length + 2 := by
  rw [resolve_eq bd sv hs, ← Lib.Pa.clean_eq_cleanEls]
  have h1 := Lib.Pa.clean_length_le_succ (taken bd sv)
  have h2 : (taken bd sv).length ≤ bd.length + sv.length + 1 := by
    unfold taken
    split
    · omega
    · simp; omega
  omega

theorem empty_of (s : ByteArray) : s.toList.isEmpty = false ↔ s.data.toList ≠ [] := by
  rw [ByteArray.toList_eq]
  cases s.data.toList <;> simp

set_option maxRecDepth 100000 in
set_option maxHeartbeats 400000 in
theorem bytes26 (a b c d f : ByteArray) (w : World) (ha : a.size ≤ maxLen) (hb : b.size ≤ maxLen) (hc : c.size ≤ maxLen) (hd : d.size ≤ maxLen) (hf : f.size ≤ maxLen) :
    Calls Tryf.prog 26 #[.string a, .string b, .string c, .string d, .string f] w fun e w' => (∃ r : Bool, e = .returned (.bool r)) ∧ w' = w := by
  unfold maxLen at ha hb hc hd hf
  go_enter Tryf.func26, Tryf.ntmps26
  go_wp2
  all_goals (go_ret; exact ⟨⟨_, rfl⟩, rfl⟩)

set_option maxRecDepth 100000 in
set_option maxHeartbeats 800000 in
theorem folder_miss (key bd sk sv k : ByteArray) (w : World) (b1 : key.size ≤ 65536) (b2 : bd.size ≤ 65536) (b3 : sk.size ≤ 65536) (b4 : sv.size ≤ 65536) (b5 : k.size ≤ 65536) (hne : k ≠ sk) :
    Calls Tryf.prog 7 #[.string key, .string bd, .string sk, .string sv, .string k] w fun e w' => e = .returned (.bool true) ∧ Below w.heap.size w w' := by
  have m1 : key.size ≤ maxLen := by unfold maxLen; omega
  have m2 : bd.size ≤ maxLen := by unfold maxLen; omega
  have m3 : sk.size ≤ maxLen := by unfold maxLen; omega
  have m4 : sv.size ≤ maxLen := by unfold maxLen; omega
  have m5 : k.size ≤ maxLen := by unfold maxLen; omega
  have hnl : (k.toList == sk.toList) = false := by
    rw [beq_eq_false_iff_ne, ByteArray.toList_eq, ByteArray.toList_eq]
    intro e
    apply hne
    rw [← Lib.mk_data k, ← Lib.mk_data sk, e]
  go_enter Tryf.func7, Tryf.ntmps7
  go_wp2_with fail
  refine (bytes26 key bd sk sv k w m1 m2 m3 m4 m5).mono ?_
  rintro e w1 ⟨⟨r, rfl⟩, rfl⟩
  cases r with
  | false =>
    go_wp2
    go_ret
    exact ⟨rfl, Below.refl _ _⟩
  | true =>
    go_wp2_with fail
    refine (newStr key bd sk sv w1 m3).mono ?_
    rintro e w2 ⟨B, bm, rfl, hB, hb2, hs2, hh2⟩
    go_wp2_with fail
    refine (zzFolder_none B key bd k (some bm) .nilIface w2 hs2 (looks_miss hh2 m5 hne) (by omega) (by omega)).mono ?_
    rintro e w3 ⟨rfl, hb3⟩
    have hbel : Below w1.heap.size w1 w3 := hb2.trans (hb3.mono hB)
    clear hb2 hs2 hh2 hb3
    go_wp2_with fail
    refine (fullKey_calls key k w3 (by omega) (by omega)).mono ?_
    rintro e w4 ⟨rfl, rfl⟩
    go_wp2
    go_ret
    exact ⟨by simp, hbel⟩

set_option maxRecDepth 100000 in
set_option maxHeartbeats 800000 in
theorem folder_void (key bd sk sv : ByteArray) (w : World) (b1 : key.size ≤ 65536) (b2 : bd.size ≤ 65536) (b3 : sk.size ≤ 65536) (b4 : sv.size ≤ 65536) (he : sv.toList.isEmpty = true) :
    Calls Tryf.prog 7 #[.string key, .string bd, .string sk, .string sv, .string sk] w fun e w' => e = .returned (.bool true) ∧ Below w.heap.size w w' := by
  have m1 : key.size ≤ maxLen := by unfold maxLen; omega
  have m2 : bd.size ≤ maxLen := by unfold maxLen; omega
  have m3 : sk.size ≤ maxLen := by unfold maxLen; omega
  have m4 : sv.size ≤ maxLen := by unfold maxLen; omega
  go_enter Tryf.func7, Tryf.ntmps7
  go_wp2_with fail
  refine (bytes26 key bd sk sv sk w m1 m2 m3 m4 m3).mono ?_
  rintro e w1 ⟨⟨r, rfl⟩, rfl⟩
  cases r with
  | false =>
    go_wp2
    go_ret
    exact ⟨rfl, Below.refl _ _⟩
  | true =>
    go_wp2_with fail
    refine (newStr key bd sk sv w1 m3).mono ?_
    rintro e w2 ⟨B, bm, rfl, hB, hb2, hs2, hh2⟩
    go_wp2_with fail
    refine (zzFolder_empty B key bd sk sv (some bm) w2 hs2 (looks_hit hh2 m3) (by omega) (by omega) he).mono ?_
    rintro e w3 ⟨rfl, hb3⟩
    have hbel : Below w1.heap.size w1 w3 := hb2.trans (hb3.mono hB)
    clear hb2 hs2 hh2 hb3
    go_wp2_with fail
    refine (fullKey_calls key sk w3 (by omega) (by omega)).mono ?_
    rintro e w4 ⟨rfl, rfl⟩
    go_wp2
    go_ret
    exact ⟨by simp, hbel⟩

set_option maxRecDepth 100000 in
set_option maxHeartbeats 800000 in
theorem folder_big (key bd sk sv k : ByteArray) (w : World) (m1 : key.size ≤ maxLen) (m2 : bd.size ≤ maxLen) (m3 : sk.size ≤ maxLen) (m4 : sv.size ≤ maxLen) (m5 : k.size ≤ maxLen) (hbig : ¬ (key.size ≤ 65536 ∧ bd.size ≤ 65536 ∧ sk.size ≤ 65536 ∧ sv.size ≤ 65536 ∧ k.size ≤ 65536)) :
    Calls Tryf.prog 7 #[.string key, .string bd, .string sk, .string sv, .string k] w fun e w' => e = .returned (.bool true) ∧ Below w.heap.size w w' := by
  go_enter Tryf.func7, Tryf.ntmps7
  go_wp2_with fail
  refine (bytes26 key bd sk sv k w m1 m2 m3 m4 m5).mono ?_
  rintro e w1 ⟨⟨r, rfl⟩, rfl⟩
  cases r with
  | false =>
    go_wp2
    go_ret
    exact ⟨rfl, Below.refl _ _⟩
  | true =>
    go_wp2_with fail
    all_goals first | (exfalso; omega) | (go_ret; exact ⟨rfl, Below.refl _ _⟩)

set_option maxRecDepth 100000 in
set_option maxHeartbeats 800000 in
theorem folder_hit (key bd sk sv : ByteArray) (w : World) (b1 : key.size ≤ 65536) (b2 : bd.size ≤ 65536) (b3 : sk.size ≤ 65536) (b4 : sv.size ≤ 65536) (he : sv.toList.isEmpty = false) :
    Calls Tryf.prog 7 #[.string key, .string bd, .string sk, .string sv, .string sk] w fun e w' => e = .returned (.bool true) ∧ Below w.heap.size w w' := by
  have m1 : key.size ≤ maxLen := by unfold maxLen; omega
  have m2 : bd.size ≤ maxLen := by unfold maxLen; omega
  have m3 : sk.size ≤ maxLen := by unfold maxLen; omega
  have m4 : sv.size ≤ maxLen := by unfold maxLen; omega
  have hsv := (empty_of sv).1 he
  have hsz : 0 < sv.size := by rw [Lib.size_eq]; exact List.length_pos_iff.2 hsv
  have HSV : Hid (sv.data.toList ≠ []) := hsv
  clear hsv
  go_enter Tryf.func7, Tryf.ntmps7
  go_wp2_with fail
  refine (bytes26 key bd sk sv sk w m1 m2 m3 m4 m3).mono ?_
  rintro e w1 ⟨⟨r, rfl⟩, rfl⟩
  cases r with
  | false =>
    go_wp2
    go_ret
    exact ⟨rfl, Below.refl _ _⟩
  | true =>
    go_wp2_with fail
    refine (newStr key bd sk sv w1 m3).mono ?_
    rintro e w2 ⟨B, bm, rfl, hB, hb2, hs2, hh2⟩
    go_wp2_with fail
    refine (zzFolder_some B key bd sk sv (some bm) w2 hs2 (looks_hit hh2 m3) (by omega) (by omega) (by omega) he).mono ?_
    rintro e w3 ⟨rfl, hb3⟩
    have hbel : Below w1.heap.size w1 w3 := hb2.trans (hb3.mono hB)
    clear hb2 hs2 hh2 hb3
    obtain ⟨dir, hd⟩ : ∃ dir : ByteArray, dir = ⟨(resolve bd.data.toList sv.data.toList).toArray⟩ := ⟨_, rfl⟩
    rw [← hd]
    have hdl : dir.data.toList = resolve bd.data.toList sv.data.toList := by rw [hd]
    have HD : Hid (dir.data.toList = resolve bd.data.toList sv.data.toList) := hdl
    clear hd hdl
    have hdz : 0 < dir.size := by rw [Lib.size_eq, HD.out]; exact List.length_pos_iff.2 (resolve_ne _ _ HSV.out)
    have hdm : dir.size ≤ 131074 := by
      rw [Lib.size_eq, HD.out]
      have := resolve_length bd.data.toList sv.data.toList HSV.out
      rw [← Lib.size_eq, ← Lib.size_eq] at this
      omega
    have hde : dir.toList.isEmpty = false := (empty_of dir).2 (by rw [HD.out]; exact resolve_ne _ _ HSV.out)
    have hcl : (⟨(Lib.Pa.cleanEls dir.data.toList).toArray⟩ : ByteArray) = dir := by rw [HD.out, resolve_clean _ _ HSV.out, ← HD.out, Lib.mk_data]
    have HCL : Hid ((⟨(Lib.Pa.cleanEls dir.data.toList).toArray⟩ : ByteArray) = dir) := hcl
    clear hcl
    have habs : (((dir[0]'hdz).toNat : Int) == 47) = (((((sv[0]'hsz).toNat : Int) == 47)) || Lib.Pa.isAbs bd.data.toList) := by
      rw [← Lib.Pa.isAbs_pos dir hdz, ← Lib.Pa.isAbs_pos sv hsz, HD.out]
      exact resolve_abs _ _ HSV.out
    have HAB : Hid ((((dir[0]'hdz).toNat : Int) == 47) = (((((sv[0]'hsz).toNat : Int) == 47)) || Lib.Pa.isAbs bd.data.toList)) := habs
    clear habs
    go_wp2_with fail
    refine (clean_calls dir w3 hdz (by omega)).mono ?_
    rintro e w4 ⟨rfl, hb4⟩
    rw [HCL.out]
    have hbel4 : Below w1.heap.size w1 w4 := hbel.trans (hb4.mono hbel.size)
    clear hbel hb4
    cases hs47 : (((sv[0]'hsz).toNat : Int) == 47) with
    | true =>
      have hd47 : (((dir[0]'hdz).toNat : Int) == 47) = true := by rw [HAB.out, hs47]; rfl
      have HH : Hid ((Lib.Pa.isAbs sv.data.toList || Lib.Pa.isAbs bd.data.toList) = true ∨ bd.data.toList = []) := .inl (by rw [Lib.Pa.isAbs_pos sv hsz, hs47]; rfl)
      go_wp2_with fail
      refine (newStr key bd sk dir w4 m3).mono ?_
      rintro e w5 ⟨B5, bm5, rfl, hB5, hb5, hs5, hh5⟩
      go_wp2_with fail
      refine (zzFolder_some B5 key bd sk dir (some bm5) w5 hs5 (looks_hit hh5 m3) (by omega) (by omega) (by omega) hde).mono ?_
      rintro e w6 ⟨rfl, hb6⟩
      have hag : (⟨(resolve bd.data.toList dir.data.toList).toArray⟩ : ByteArray) = dir := by rw [HD.out, resolve_again _ _ HSV.out HH.out, ← HD.out, Lib.mk_data]
      rw [hag]
      clear hag
      have hbel6 : Below w1.heap.size w1 w6 := hbel4.trans ((hb5.trans (hb6.mono hB5)).mono hbel4.size)
      clear hb5 hs5 hh5 hb6
      go_wp2
      go_ret
      exact ⟨by simp, hbel6⟩
    | false =>
      cases hbe : bd.toList.isEmpty with
      | true =>
        have hbn : bd.data.toList = [] := by rw [ByteArray.toList_eq] at hbe; simpa using hbe
        have hd47 : (((dir[0]'hdz).toNat : Int) == 47) = false := by rw [HAB.out, hs47, hbn]; rfl
        have HH : Hid ((Lib.Pa.isAbs sv.data.toList || Lib.Pa.isAbs bd.data.toList) = true ∨ bd.data.toList = []) := .inr hbn
        clear hbn
        go_wp2_with fail
        refine (newStr key bd sk dir w4 m3).mono ?_
        rintro e w5 ⟨B5, bm5, rfl, hB5, hb5, hs5, hh5⟩
        go_wp2_with fail
        refine (zzFolder_some B5 key bd sk dir (some bm5) w5 hs5 (looks_hit hh5 m3) (by omega) (by omega) (by omega) hde).mono ?_
        rintro e w6 ⟨rfl, hb6⟩
        have hag : (⟨(resolve bd.data.toList dir.data.toList).toArray⟩ : ByteArray) = dir := by rw [HD.out, resolve_again _ _ HSV.out HH.out, ← HD.out, Lib.mk_data]
        rw [hag]
        clear hag
        have hbel6 : Below w1.heap.size w1 w6 := hbel4.trans ((hb5.trans (hb6.mono hB5)).mono hbel4.size)
        clear hb5 hs5 hh5 hb6
        go_wp2
        go_ret
        exact ⟨by simp, hbel6⟩
      | false =>
        have hbz : 0 < bd.size := by rw [Lib.size_eq]; exact List.length_pos_iff.2 ((empty_of bd).1 hbe)
        cases hb47 : (((bd[0]'hbz).toNat : Int) == 47) with
        | true =>
          have hd47 : (((dir[0]'hdz).toNat : Int) == 47) = true := by rw [HAB.out, hs47, Lib.Pa.isAbs_pos bd hbz, hb47]; rfl
          have HH : Hid ((Lib.Pa.isAbs sv.data.toList || Lib.Pa.isAbs bd.data.toList) = true ∨ bd.data.toList = []) := .inl (by rw [Lib.Pa.isAbs_pos sv hsz, hs47, Lib.Pa.isAbs_pos bd hbz, hb47]; rfl)
          go_wp2_with fail
          refine (newStr key bd sk dir w4 m3).mono ?_
          rintro e w5 ⟨B5, bm5, rfl, hB5, hb5, hs5, hh5⟩
          go_wp2_with fail
          refine (zzFolder_some B5 key bd sk dir (some bm5) w5 hs5 (looks_hit hh5 m3) (by omega) (by omega) (by omega) hde).mono ?_
          rintro e w6 ⟨rfl, hb6⟩
          have hag : (⟨(resolve bd.data.toList dir.data.toList).toArray⟩ : ByteArray) = dir := by rw [HD.out, resolve_again _ _ HSV.out HH.out, ← HD.out, Lib.mk_data]
          rw [hag]
          clear hag
          have hbel6 : Below w1.heap.size w1 w6 := hbel4.trans ((hb5.trans (hb6.mono hB5)).mono hbel4.size)
          clear hb5 hs5 hh5 hb6
          go_wp2
          go_ret
          exact ⟨by simp, hbel6⟩
        | false =>
          have hd47 : (((dir[0]'hdz).toNat : Int) == 47) = false := by rw [HAB.out, hs47, Lib.Pa.isAbs_pos bd hbz, hb47]; rfl
          go_wp2
          go_ret
          exact ⟨by simp, hbel4⟩

theorem folder_law (key bd sk sv k : ByteArray) (w : World) (m1 : key.size ≤ maxLen) (m2 : bd.size ≤ maxLen) (m3 : sk.size ≤ maxLen) (m4 : sv.size ≤ maxLen) (m5 : k.size ≤ maxLen) :
    Calls Tryf.prog 7 #[.string key, .string bd, .string sk, .string sv, .string k] w fun e w' => e = .returned (.bool true) ∧ Below w.heap.size w w' := by
  by_cases hbig : key.size ≤ 65536 ∧ bd.size ≤ 65536 ∧ sk.size ≤ 65536 ∧ sv.size ≤ 65536 ∧ k.size ≤ 65536
  · obtain ⟨b1, b2, b3, b4, b5⟩ := hbig
    by_cases hk : k = sk
    · subst hk
      cases he : sv.toList.isEmpty with
      | true => exact folder_void key bd k sv w b1 b2 b3 b4 he
      | false => exact folder_hit key bd k sv w b1 b2 b3 b4 he
    · exact folder_miss key bd sk sv k w b1 b2 b3 b4 b5 hk
  · exact folder_big key bd sk sv k w m1 m2 m3 m4 m5 hbig

end Go.Proofs.Qxb6604484aFmt
