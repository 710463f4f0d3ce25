import Derived.Test.Qxb6606305aPlain
import Derived.Test.Qxb6606305aShelf
import Derived.WalkKit
import Derived.WalkSpells
import Derived.WalkLawsBesides
import Derived.Lib.IndexLaws
namespace Go.Proofs.Qxb6606305a
open Go.RowKit

theorem at_eq (s : ByteArray) (i : Nat) (h : i < s.size) : s.data.toList[i]? = some (s[i]'h) := by
  obtain ⟨⟨l⟩⟩ := s
  have h' : i < l.length := h
  show l[i]? = some _
  rw [List.getElem?_eq_getElem h']
  rfl

theorem isPrefix_two {l : List UInt8} {t : Nat} (h0 : l[t]? = some (37 : UInt8)) (h1 : l[t + 1]? = some (50 : UInt8)) : Lib.occAt l [37, 50] t = true := by
  unfold Lib.occAt
  rw [Pl.drop_cons h0, Pl.drop_cons h1]
  simp [List.isPrefixOf]

theorem first_occ (f : Nat → Bool) : ∀ (n t : Nat), t < n → f t = true → ∃ i, i ≤ t ∧ f i = true ∧ ∀ j, j < i → f j = false
  | 0, _, h, _ => by omega
  | n + 1, t, h, ht => by
    by_cases hex : ∃ j, j < t ∧ f j = true
    · obtain ⟨j, hj, hoj⟩ := hex
      obtain ⟨i, hi, r⟩ := first_occ f n j (by omega) hoj
      exact ⟨i, by omega, r⟩
    · refine ⟨t, Nat.le_refl _, ht, fun j hj => ?_⟩
      cases hb : f j with
      | false => rfl
      | true => exact absurd ⟨j, hj, hb⟩ hex

/-- strings.Contains says no: nothing is decoded. -/
theorem not_contains {l : List UInt8} (h : Lib.contains l [37, 50] = false) : Pl.dec l = l ∧ Pl.has l = false := by
  refine Pl.no_sub fun t ⟨h0, h1⟩ => ?_
  have ho := isPrefix_two h0 h1
  have hlt := (List.getElem?_eq_some_iff.1 h0).1
  have hneg : Lib.index l [37, 50] < 0 := by
    have : ¬ (0 ≤ Lib.index l [37, 50]) := by simpa [Lib.contains] using h
    omega
  obtain ⟨i, hi, hoi, hfirst⟩ := first_occ (Lib.occAt l [37, 50]) (t + 1) t (by omega) ho
  have := Lib.index_hit (s := l) (sub := [37, 50]) hfirst (by omega) hoi
  omega

theorem cells_app (a b : List UInt8) : Lib.byteCells (a ++ b) = Lib.byteCells a ++ Lib.byteCells b := by simp [Lib.byteCells]
theorem cells_str (s : ByteArray) : Lib.strCells s = Lib.byteCells s.data.toList := rfl
theorem cells_len (a : List UInt8) : (Lib.byteCells a).length = a.length := by simp [Lib.byteCells]
theorem tail_list (p : ByteArray) (a : Nat) : (p.extract a p.size).data.toList = p.data.toList.drop a := by
  rw [Lib.extract_data, List.take_of_length_le (by rw [List.length_drop, ← Lib.size_eq]; exact Nat.le_refl _)]
theorem two_list (p : ByteArray) (i : Nat) {x y : UInt8} (hx : p.data.toList[i]? = some x) (hy : p.data.toList[i + 1]? = some y) : (p.extract i (i + 2)).toList = [x, y] := by
  rw [ByteArray.toList_eq, Lib.extract_data, Pl.drop_cons hx, Pl.drop_cons hy, show i + 2 - i = 2 by omega]
  rfl
theorem idx_cases (l : List UInt8) : Lib.indexByte l 37 = -1 ∨ ∃ o : Nat, Lib.indexByte l 37 = o := by
  have := Lib.indexByte_ge l 37
  by_cases h : Lib.indexByte l 37 = -1
  · exact .inl h
  · exact .inr ⟨(Lib.indexByte l 37).toNat, by omega⟩

set_option maxRecDepth 100000 in
set_option maxHeartbeats 2000000 in
theorem decode_calls (p : ByteArray) (m : Int) (w : World) (hp : p.size ≤ 1048576) (hm : w.cell? ⟨0, 0, none⟩ = some (.int .i64 m)) :
    Calls Try.prog 11 #[.string p] w fun e w' => e = .returned (.tuple #[.string ⟨(Pl.dec p.data.toList).toArray⟩, .bool (Pl.has p.data.toList)]) ∧ Below w.heap.size w w' := by
  cases hct : Lib.contains p.data.toList [37, 50] with
  | false =>
    obtain ⟨e1, e2⟩ := not_contains hct
    rw [e1, e2]
    clear e1 e2
    go_enter Try.func11, Try.ntmps11
    go_wp2_with fail
    refine (Try.strings_Contains p ⟨#[37, 50]⟩ m w (by omega) hm).mono ?_
    rintro e w1 ⟨rfl, rfl⟩
    rw [hct]
    go_wp2
    go_ret2
    exact ⟨by rw [Lib.mk_data]; rfl, Below.refl _ _⟩
  | true =>
    go_enter Try.func11, Try.ntmps11
    go_wp2_with fail
    refine (Try.strings_Contains p ⟨#[37, 50]⟩ m w (by omega) hm).mono ?_
    rintro e w1 ⟨rfl, rfl⟩
    rw [hct]
    clear hm hct
    go_wp2
    go_loopw [5, 6] (fun c a wr => ∃ (cc aa : Nat) (out : List UInt8), c = .int .i64 cc ∧ a = .int .i64 aa ∧ Pl.DI p.data.toList cc aa out ∧ Lib.IsBuilder 30 5 w1.heap.size w1.heap.size (Lib.byteCells out) wr ∧ (cc = 0 → wr.heap[w1.heap.size]? = some (.cells #[.pointer none, .slice none 0 0] 30 (0, 0))) ∧ Below w1.heap.size w1 wr)
      (fun _ a _ => p.size - (intOf a).toNat)
    case atStart => exact ⟨0, 0, [], rfl, rfl, Pl.di_start _, Lib.fresh_isBuilder _ _ _, fun _ => heap_alloc_new _ _, (Below.refl _ _).alloc (Nat.le_refl _) _⟩
    case round =>
      obtain ⟨cc, aa, out, rfl, rfl, hI, hbld, hfresh, hbel⟩ := hrel
      by_cases hlt : aa < p.size
      · have hex : (p.extract aa p.size).data.toList = p.data.toList.drop aa := tail_list p aa
        rcases idx_cases (p.data.toList.drop aa) with hix | ⟨o, hix⟩
        · have hno : ∀ t, aa ≤ t → Pl.code (p.data.toList.drop t) = none := fun t ht => Pl.none_of (by
            have := Lib.indexByte_none hix (t - aa)
            rwa [List.getElem?_drop, show aa + (t - aa) = t by omega] at this)
          go_wp2_with fail
          refine (Try.strings_IndexByte (p.extract aa p.size) 37 wr).mono ?_
          rintro e w2 ⟨rfl, rfl⟩
          rw [hex, show (37 : Int).toNat.toUInt8 = 37 from rfl, hix]
          clear hex hix
          obtain ⟨wr, rfl⟩ : ∃ wr : World, wr = w2 := ⟨_, rfl⟩
          obtain ⟨ez, ep⟩ := Pl.di_end hI hno
          by_cases hc0 : cc = 0
          · subst hc0
            have E1 : Hid (Pl.dec p.data.toList = p.data.toList ∧ Pl.has p.data.toList = false) := ez rfl
            clear ez ep hno hI hfresh
            go_wp2
            go_ret2
            exact ⟨by rw [E1.out.1, E1.out.2, Lib.mk_data]; rfl, hbel⟩
          · have E1 : Hid (Pl.dec p.data.toList = out ++ p.data.toList.drop cc ∧ Pl.has p.data.toList = true) := ep hc0
            have hcz : ((cc : Int) == 0) = false := beq_eq_false_iff_ne.2 (by omega)
            have hl1 := hI.len
            have hl2 := hI.le1
            have hl3 : aa ≤ p.size := by have := hI.le2; rwa [← Lib.size_eq] at this
            clear ez ep hno hI hfresh
            go_wp2_with fail
            refine (Try.Builder_WriteString w1.heap.size w1.heap.size (Lib.byteCells out) (p.extract cc p.size) wr hbld (by rw [cells_len]; simp; omega) hbel.size).mono ?_
            rintro e w2 ⟨rfl, hb2, hbel2⟩
            rw [cells_str, tail_list, ← cells_app, ← E1.out.1] at hb2
            have hbel3 := hbel.trans hbel2
            clear hbel2 hbld
            go_wp2_with fail
            refine (Try.Builder_String_any w1.heap.size w1.heap.size _ w2 (.inr hb2) hbel3.size).mono ?_
            rintro e w3 ⟨rfl, hbel4⟩
            go_wp2
            go_ret2
            exact ⟨by rw [E1.out.2]; rfl, hbel3.trans hbel4⟩
        · obtain ⟨h37', hn37'⟩ := Lib.indexByte_some hix
          have h37 : p.data.toList[o + aa]? = some 37 := by rwa [List.getElem?_drop, Nat.add_comm] at h37'
          have hn37 : ∀ t, aa ≤ t → t < o + aa → p.data.toList[t]? ≠ some 37 := fun t t1 t2 => by
            have := hn37' (t - aa) (by omega)
            rwa [List.getElem?_drop, show aa + (t - aa) = t by omega] at this
          clear h37' hn37'
          have hlo : o + aa < p.size := by have := (List.getElem?_eq_some_iff.1 h37).1; rwa [← Lib.size_eq] at this
          by_cases hrm : o + aa + 2 < p.size
          case neg =>
            have hno : ∀ t, aa ≤ t → Pl.code (p.data.toList.drop t) = none := fun t ht => by
              by_cases h2 : t < o + aa
              · exact Pl.none_of (hn37 t ht h2)
              · exact Pl.none_short (by rw [← Lib.size_eq]; omega)
            clear h37 hn37
            go_wp2_with fail
            refine (Try.strings_IndexByte (p.extract aa p.size) 37 wr).mono ?_
            rintro e w2 ⟨rfl, rfl⟩
            rw [hex, show (37 : Int).toNat.toUInt8 = 37 from rfl, hix]
            obtain ⟨wr, rfl⟩ : ∃ wr : World, wr = w2 := ⟨_, rfl⟩
            clear hex hix
            obtain ⟨ez, ep⟩ := Pl.di_end hI hno
            by_cases hc0 : cc = 0
            · subst hc0
              have E1 : Hid (Pl.dec p.data.toList = p.data.toList ∧ Pl.has p.data.toList = false) := ez rfl
              clear ez ep hno hI hfresh
              go_wp2
              go_ret2
              exact ⟨by rw [E1.out.1, E1.out.2, Lib.mk_data]; rfl, hbel⟩
            · have E1 : Hid (Pl.dec p.data.toList = out ++ p.data.toList.drop cc ∧ Pl.has p.data.toList = true) := ep hc0
              have hcz : ((cc : Int) == 0) = false := beq_eq_false_iff_ne.2 (by omega)
              have hl1 := hI.len
              have hl2 := hI.le1
              have hl3 : aa ≤ p.size := by have := hI.le2; rwa [← Lib.size_eq] at this
              clear ez ep hno hI hfresh
              go_wp2_with fail
              refine (Try.Builder_WriteString w1.heap.size w1.heap.size (Lib.byteCells out) (p.extract cc p.size) wr hbld (by rw [cells_len]; simp; omega) hbel.size).mono ?_
              rintro e w2 ⟨rfl, hb2, hbel2⟩
              rw [cells_str, tail_list, ← cells_app, ← E1.out.1] at hb2
              have hbel3 := hbel.trans hbel2
              clear hbel2 hbld
              go_wp2_with fail
              refine (Try.Builder_String_any w1.heap.size w1.heap.size _ w2 (.inr hb2) hbel3.size).mono ?_
              rintro e w3 ⟨rfl, hbel4⟩
              go_wp2
              go_ret2
              exact ⟨by rw [E1.out.2]; rfl, hbel3.trans hbel4⟩
          case pos =>
            obtain ⟨x, hx⟩ : ∃ x, p.data.toList[o + aa + 1]? = some x := ⟨_, List.getElem?_eq_getElem (by rw [← Lib.size_eq]; omega)⟩
            obtain ⟨y, hy⟩ : ∃ y, p.data.toList[o + aa + 2]? = some y := ⟨_, List.getElem?_eq_getElem (by rw [← Lib.size_eq]; omega)⟩
            have htw : (p.extract (o + aa + 1) (o + aa + 3)).toList = [x, y] := two_list p (o + aa + 1) hx hy
            have HZ : Hid (cc = 0 → out = []) := hI.zero
            by_cases hmiss : Pl.code (p.data.toList.drop (o + aa)) = none
            case pos =>
              have DI2 : Hid (Pl.DI p.data.toList cc (o + aa + 1) out) := Pl.di_miss hI (by omega) (by rw [← Lib.size_eq]; omega) hn37 hmiss
              have hq : ∀ z : UInt8, Pl.hex z ≠ none → (([x, y] : List UInt8) == [50, z]) = false := fun z hz => by
                rw [beq_eq_false_iff_ne]
                intro e
                simp only [List.cons.injEq, and_true] at e
                obtain ⟨rfl, rfl⟩ := e
                rw [Pl.code_of h37 hx hy] at hmiss
                exact hz hmiss
              have q1 := hq 70 (by decide)
              have q2 := hq 102 (by decide)
              have q3 := hq 69 (by decide)
              have q4 := hq 101 (by decide)
              rw [← htw] at q1 q2 q3 q4
              clear hq hI hn37 h37 hmiss htw
              go_wp2_with fail
              refine (Try.strings_IndexByte (p.extract aa p.size) 37 wr).mono ?_
              rintro e w2 ⟨rfl, rfl⟩
              rw [hex, show (37 : Int).toNat.toUInt8 = 37 from rfl, hix]
              obtain ⟨wr, rfl⟩ : ∃ wr : World, wr = w2 := ⟨_, rfl⟩
              clear hex hix
              go_wp2
              exact ⟨⟨cc, o + aa + 1, out, rfl, by go_num, DI2.out, hbld, hfresh, hbel⟩, by simp [intOf]; omega⟩
            case neg =>
              obtain ⟨d, hd⟩ : ∃ d, Pl.code (p.data.toList.drop (o + aa)) = some d := by
                cases h : Pl.code (p.data.toList.drop (o + aa)) with
                | none => exact absurd h hmiss
                | some d => exact ⟨d, rfl⟩
              obtain ⟨_, hx2, c, hc2, hcd⟩ := Pl.code_some hd
              rw [hx] at hx2
              obtain rfl : x = 50 := Option.some.inj hx2
              obtain rfl : y = c := by rw [hy] at hc2; exact Option.some.inj hc2
              clear hx2 hc2
              have hx2 := hx
              clear hx
              have hy4 : y = 70 ∨ y = 102 ∨ y = 69 ∨ y = 101 := by
                unfold Pl.hex at hcd
                split at hcd
                · rename_i h; rcases h with h | h
                  · exact .inl h
                  · exact .inr (.inl h)
                · split at hcd
                  · rename_i h; rcases h with h | h
                    · exact .inr (.inr (.inl h))
                    · exact .inr (.inr (.inr h))
                  · simp at hcd
              clear hcd hd hmiss d
              rcases hy4 with rfl | rfl | rfl | rfl
              · have q70 : ((p.extract (o + aa + 1) (o + aa + 3)).toList == [50, 70]) = true := by rw [htw]; decide
                clear htw
                have DI2 : Hid (Pl.DI p.data.toList (o + aa + 3) (o + aa + 3) (out ++ (p.data.toList.drop cc).take (o + aa - cc) ++ [47])) := Pl.di_hit hI (by omega) hn37 (by rw [Pl.code_of h37 hx2 hy]; rfl)
                have hl1 := hI.len
                have hl2 := hI.le1
                clear hI hn37 h37 hx2 hy
                by_cases hc0 : cc = 0
                · have hz0 := HZ.out hc0
                  subst hz0
                  subst hc0
                  have hf := hfresh rfl
                  clear hfresh hbld
                  go_wp2_with fail
                  refine (Try.strings_IndexByte (p.extract aa p.size) 37 wr).mono ?_
                  rintro e w2 ⟨rfl, rfl⟩
                  rw [hex, show (37 : Int).toNat.toUInt8 = 37 from rfl, hix]
                  obtain ⟨wr, rfl⟩ : ∃ wr : World, wr = w2 := ⟨_, rfl⟩
                  clear hex hix
                  go_wp2_with fail
                  refine (Try.Builder_Grow_fresh w1.heap.size w1.heap.size p.size wr (Nat.le_refl _) hf hbel.size (by omega)).mono ?_
                  rintro e w3 ⟨rfl, hb3, hbel3⟩
                  have hbelx := hbel.trans hbel3
                  clear hbel3 hf
                  go_wp2_with fail
                  refine (Try.Builder_WriteString w1.heap.size w1.heap.size (Lib.byteCells []) (p.extract 0 (o + aa)) w3 (.inr hb3) (by rw [cells_len]; simp; omega) hbelx.size).mono ?_
                  rintro e w4 ⟨rfl, hb4, hbel4⟩
                  have hbel5 := hbelx.trans hbel4
                  rw [cells_str, Lib.extract_data, ← cells_app] at hb4
                  clear hbel4
                  go_wp2_with fail
                  refine (Try.Builder_WriteByte w1.heap.size w1.heap.size _ 47 w4 (.inr hb4) (by rw [cells_len, List.length_append, List.length_take]; omega) hbel5.size).mono ?_
                  rintro e w5 ⟨rfl, hb5, hbel6⟩
                  have hbel7 := hbel5.trans hbel6
                  have hb7 : Lib.BuilderAt 30 5 w1.heap.size w1.heap.size (.pointer (some ⟨w1.heap.size, 0, none⟩)) (Lib.byteCells ([] ++ (p.data.toList.drop 0).take (o + aa - 0) ++ [47])) w5 := by rw [cells_app]; exact hb5
                  clear hb5 hb4 hbel6 hbel5
                  go_wp2
                  exact ⟨⟨o + aa + 3, o + aa + 3, [] ++ (p.data.toList.drop 0).take (o + aa - 0) ++ [47], by go_num, by go_num, DI2.out, .inr hb7, fun h => by omega, hbel7⟩, by simp [intOf]; omega⟩
                · have hcz : ((cc : Int) == 0) = false := beq_eq_false_iff_ne.2 (by omega)
                  clear hfresh HZ
                  go_wp2_with fail
                  refine (Try.strings_IndexByte (p.extract aa p.size) 37 wr).mono ?_
                  rintro e w2 ⟨rfl, rfl⟩
                  rw [hex, show (37 : Int).toNat.toUInt8 = 37 from rfl, hix]
                  obtain ⟨wr, rfl⟩ : ∃ wr : World, wr = w2 := ⟨_, rfl⟩
                  clear hex hix
                  go_wp2_with fail
                  refine (Try.Builder_WriteString w1.heap.size w1.heap.size (Lib.byteCells out) (p.extract cc (o + aa)) wr hbld (by rw [cells_len]; simp; omega) hbel.size).mono ?_
                  rintro e w4 ⟨rfl, hb4, hbel4⟩
                  have hbel5 := hbel.trans hbel4
                  rw [cells_str, Lib.extract_data, ← cells_app] at hb4
                  clear hbel4
                  go_wp2_with fail
                  refine (Try.Builder_WriteByte w1.heap.size w1.heap.size _ 47 w4 (.inr hb4) (by rw [cells_len, List.length_append, List.length_take]; omega) hbel5.size).mono ?_
                  rintro e w5 ⟨rfl, hb5, hbel6⟩
                  have hbel7 := hbel5.trans hbel6
                  have hb7 : Lib.BuilderAt 30 5 w1.heap.size w1.heap.size (.pointer (some ⟨w1.heap.size, 0, none⟩)) (Lib.byteCells (out ++ (p.data.toList.drop cc).take (o + aa - cc) ++ [47])) w5 := by rw [cells_app]; exact hb5
                  clear hb5 hb4 hbel6 hbel5
                  go_wp2
                  exact ⟨⟨o + aa + 3, o + aa + 3, out ++ (p.data.toList.drop cc).take (o + aa - cc) ++ [47], by go_num, by go_num, DI2.out, .inr hb7, fun h => by omega, hbel7⟩, by simp [intOf]; omega⟩
              · have q70 : ((p.extract (o + aa + 1) (o + aa + 3)).toList == [50, 70]) = false := by rw [htw]; decide
                have q102 : ((p.extract (o + aa + 1) (o + aa + 3)).toList == [50, 102]) = true := by rw [htw]; decide
                clear htw
                have DI2 : Hid (Pl.DI p.data.toList (o + aa + 3) (o + aa + 3) (out ++ (p.data.toList.drop cc).take (o + aa - cc) ++ [47])) := Pl.di_hit hI (by omega) hn37 (by rw [Pl.code_of h37 hx2 hy]; rfl)
                have hl1 := hI.len
                have hl2 := hI.le1
                clear hI hn37 h37 hx2 hy
                by_cases hc0 : cc = 0
                · have hz0 := HZ.out hc0
                  subst hz0
                  subst hc0
                  have hf := hfresh rfl
                  clear hfresh hbld
                  go_wp2_with fail
                  refine (Try.strings_IndexByte (p.extract aa p.size) 37 wr).mono ?_
                  rintro e w2 ⟨rfl, rfl⟩
                  rw [hex, show (37 : Int).toNat.toUInt8 = 37 from rfl, hix]
                  obtain ⟨wr, rfl⟩ : ∃ wr : World, wr = w2 := ⟨_, rfl⟩
                  clear hex hix
                  go_wp2_with fail
                  refine (Try.Builder_Grow_fresh w1.heap.size w1.heap.size p.size wr (Nat.le_refl _) hf hbel.size (by omega)).mono ?_
                  rintro e w3 ⟨rfl, hb3, hbel3⟩
                  have hbelx := hbel.trans hbel3
                  clear hbel3 hf
                  go_wp2_with fail
                  refine (Try.Builder_WriteString w1.heap.size w1.heap.size (Lib.byteCells []) (p.extract 0 (o + aa)) w3 (.inr hb3) (by rw [cells_len]; simp; omega) hbelx.size).mono ?_
                  rintro e w4 ⟨rfl, hb4, hbel4⟩
                  have hbel5 := hbelx.trans hbel4
                  rw [cells_str, Lib.extract_data, ← cells_app] at hb4
                  clear hbel4
                  go_wp2_with fail
                  refine (Try.Builder_WriteByte w1.heap.size w1.heap.size _ 47 w4 (.inr hb4) (by rw [cells_len, List.length_append, List.length_take]; omega) hbel5.size).mono ?_
                  rintro e w5 ⟨rfl, hb5, hbel6⟩
                  have hbel7 := hbel5.trans hbel6
                  have hb7 : Lib.BuilderAt 30 5 w1.heap.size w1.heap.size (.pointer (some ⟨w1.heap.size, 0, none⟩)) (Lib.byteCells ([] ++ (p.data.toList.drop 0).take (o + aa - 0) ++ [47])) w5 := by rw [cells_app]; exact hb5
                  clear hb5 hb4 hbel6 hbel5
                  go_wp2
                  exact ⟨⟨o + aa + 3, o + aa + 3, [] ++ (p.data.toList.drop 0).take (o + aa - 0) ++ [47], by go_num, by go_num, DI2.out, .inr hb7, fun h => by omega, hbel7⟩, by simp [intOf]; omega⟩
                · have hcz : ((cc : Int) == 0) = false := beq_eq_false_iff_ne.2 (by omega)
                  clear hfresh HZ
                  go_wp2_with fail
                  refine (Try.strings_IndexByte (p.extract aa p.size) 37 wr).mono ?_
                  rintro e w2 ⟨rfl, rfl⟩
                  rw [hex, show (37 : Int).toNat.toUInt8 = 37 from rfl, hix]
                  obtain ⟨wr, rfl⟩ : ∃ wr : World, wr = w2 := ⟨_, rfl⟩
                  clear hex hix
                  go_wp2_with fail
                  refine (Try.Builder_WriteString w1.heap.size w1.heap.size (Lib.byteCells out) (p.extract cc (o + aa)) wr hbld (by rw [cells_len]; simp; omega) hbel.size).mono ?_
                  rintro e w4 ⟨rfl, hb4, hbel4⟩
                  have hbel5 := hbel.trans hbel4
                  rw [cells_str, Lib.extract_data, ← cells_app] at hb4
                  clear hbel4
                  go_wp2_with fail
                  refine (Try.Builder_WriteByte w1.heap.size w1.heap.size _ 47 w4 (.inr hb4) (by rw [cells_len, List.length_append, List.length_take]; omega) hbel5.size).mono ?_
                  rintro e w5 ⟨rfl, hb5, hbel6⟩
                  have hbel7 := hbel5.trans hbel6
                  have hb7 : Lib.BuilderAt 30 5 w1.heap.size w1.heap.size (.pointer (some ⟨w1.heap.size, 0, none⟩)) (Lib.byteCells (out ++ (p.data.toList.drop cc).take (o + aa - cc) ++ [47])) w5 := by rw [cells_app]; exact hb5
                  clear hb5 hb4 hbel6 hbel5
                  go_wp2
                  exact ⟨⟨o + aa + 3, o + aa + 3, out ++ (p.data.toList.drop cc).take (o + aa - cc) ++ [47], by go_num, by go_num, DI2.out, .inr hb7, fun h => by omega, hbel7⟩, by simp [intOf]; omega⟩
              · have q70 : ((p.extract (o + aa + 1) (o + aa + 3)).toList == [50, 70]) = false := by rw [htw]; decide
                have q102 : ((p.extract (o + aa + 1) (o + aa + 3)).toList == [50, 102]) = false := by rw [htw]; decide
                have q69 : ((p.extract (o + aa + 1) (o + aa + 3)).toList == [50, 69]) = true := by rw [htw]; decide
                clear htw
                have DI2 : Hid (Pl.DI p.data.toList (o + aa + 3) (o + aa + 3) (out ++ (p.data.toList.drop cc).take (o + aa - cc) ++ [46])) := Pl.di_hit hI (by omega) hn37 (by rw [Pl.code_of h37 hx2 hy]; rfl)
                have hl1 := hI.len
                have hl2 := hI.le1
                clear hI hn37 h37 hx2 hy
                by_cases hc0 : cc = 0
                · have hz0 := HZ.out hc0
                  subst hz0
                  subst hc0
                  have hf := hfresh rfl
                  clear hfresh hbld
                  go_wp2_with fail
                  refine (Try.strings_IndexByte (p.extract aa p.size) 37 wr).mono ?_
                  rintro e w2 ⟨rfl, rfl⟩
                  rw [hex, show (37 : Int).toNat.toUInt8 = 37 from rfl, hix]
                  obtain ⟨wr, rfl⟩ : ∃ wr : World, wr = w2 := ⟨_, rfl⟩
                  clear hex hix
                  go_wp2_with fail
                  refine (Try.Builder_Grow_fresh w1.heap.size w1.heap.size p.size wr (Nat.le_refl _) hf hbel.size (by omega)).mono ?_
                  rintro e w3 ⟨rfl, hb3, hbel3⟩
                  have hbelx := hbel.trans hbel3
                  clear hbel3 hf
                  go_wp2_with fail
                  refine (Try.Builder_WriteString w1.heap.size w1.heap.size (Lib.byteCells []) (p.extract 0 (o + aa)) w3 (.inr hb3) (by rw [cells_len]; simp; omega) hbelx.size).mono ?_
                  rintro e w4 ⟨rfl, hb4, hbel4⟩
                  have hbel5 := hbelx.trans hbel4
                  rw [cells_str, Lib.extract_data, ← cells_app] at hb4
                  clear hbel4
                  go_wp2_with fail
                  refine (Try.Builder_WriteByte w1.heap.size w1.heap.size _ 46 w4 (.inr hb4) (by rw [cells_len, List.length_append, List.length_take]; omega) hbel5.size).mono ?_
                  rintro e w5 ⟨rfl, hb5, hbel6⟩
                  have hbel7 := hbel5.trans hbel6
                  have hb7 : Lib.BuilderAt 30 5 w1.heap.size w1.heap.size (.pointer (some ⟨w1.heap.size, 0, none⟩)) (Lib.byteCells ([] ++ (p.data.toList.drop 0).take (o + aa - 0) ++ [46])) w5 := by rw [cells_app]; exact hb5
                  clear hb5 hb4 hbel6 hbel5
                  go_wp2
                  exact ⟨⟨o + aa + 3, o + aa + 3, [] ++ (p.data.toList.drop 0).take (o + aa - 0) ++ [46], by go_num, by go_num, DI2.out, .inr hb7, fun h => by omega, hbel7⟩, by simp [intOf]; omega⟩
                · have hcz : ((cc : Int) == 0) = false := beq_eq_false_iff_ne.2 (by omega)
                  clear hfresh HZ
                  go_wp2_with fail
                  refine (Try.strings_IndexByte (p.extract aa p.size) 37 wr).mono ?_
                  rintro e w2 ⟨rfl, rfl⟩
                  rw [hex, show (37 : Int).toNat.toUInt8 = 37 from rfl, hix]
                  obtain ⟨wr, rfl⟩ : ∃ wr : World, wr = w2 := ⟨_, rfl⟩
                  clear hex hix
                  go_wp2_with fail
                  refine (Try.Builder_WriteString w1.heap.size w1.heap.size (Lib.byteCells out) (p.extract cc (o + aa)) wr hbld (by rw [cells_len]; simp; omega) hbel.size).mono ?_
                  rintro e w4 ⟨rfl, hb4, hbel4⟩
                  have hbel5 := hbel.trans hbel4
                  rw [cells_str, Lib.extract_data, ← cells_app] at hb4
                  clear hbel4
                  go_wp2_with fail
                  refine (Try.Builder_WriteByte w1.heap.size w1.heap.size _ 46 w4 (.inr hb4) (by rw [cells_len, List.length_append, List.length_take]; omega) hbel5.size).mono ?_
                  rintro e w5 ⟨rfl, hb5, hbel6⟩
                  have hbel7 := hbel5.trans hbel6
                  have hb7 : Lib.BuilderAt 30 5 w1.heap.size w1.heap.size (.pointer (some ⟨w1.heap.size, 0, none⟩)) (Lib.byteCells (out ++ (p.data.toList.drop cc).take (o + aa - cc) ++ [46])) w5 := by rw [cells_app]; exact hb5
                  clear hb5 hb4 hbel6 hbel5
                  go_wp2
                  exact ⟨⟨o + aa + 3, o + aa + 3, out ++ (p.data.toList.drop cc).take (o + aa - cc) ++ [46], by go_num, by go_num, DI2.out, .inr hb7, fun h => by omega, hbel7⟩, by simp [intOf]; omega⟩
              · have q70 : ((p.extract (o + aa + 1) (o + aa + 3)).toList == [50, 70]) = false := by rw [htw]; decide
                have q102 : ((p.extract (o + aa + 1) (o + aa + 3)).toList == [50, 102]) = false := by rw [htw]; decide
                have q69 : ((p.extract (o + aa + 1) (o + aa + 3)).toList == [50, 69]) = false := by rw [htw]; decide
                have q101 : ((p.extract (o + aa + 1) (o + aa + 3)).toList == [50, 101]) = true := by rw [htw]; decide
                clear htw
                have DI2 : Hid (Pl.DI p.data.toList (o + aa + 3) (o + aa + 3) (out ++ (p.data.toList.drop cc).take (o + aa - cc) ++ [46])) := Pl.di_hit hI (by omega) hn37 (by rw [Pl.code_of h37 hx2 hy]; rfl)
                have hl1 := hI.len
                have hl2 := hI.le1
                clear hI hn37 h37 hx2 hy
                by_cases hc0 : cc = 0
                · have hz0 := HZ.out hc0
                  subst hz0
                  subst hc0
                  have hf := hfresh rfl
                  clear hfresh hbld
                  go_wp2_with fail
                  refine (Try.strings_IndexByte (p.extract aa p.size) 37 wr).mono ?_
                  rintro e w2 ⟨rfl, rfl⟩
                  rw [hex, show (37 : Int).toNat.toUInt8 = 37 from rfl, hix]
                  obtain ⟨wr, rfl⟩ : ∃ wr : World, wr = w2 := ⟨_, rfl⟩
                  clear hex hix
                  go_wp2_with fail
                  refine (Try.Builder_Grow_fresh w1.heap.size w1.heap.size p.size wr (Nat.le_refl _) hf hbel.size (by omega)).mono ?_
                  rintro e w3 ⟨rfl, hb3, hbel3⟩
                  have hbelx := hbel.trans hbel3
                  clear hbel3 hf
                  go_wp2_with fail
                  refine (Try.Builder_WriteString w1.heap.size w1.heap.size (Lib.byteCells []) (p.extract 0 (o + aa)) w3 (.inr hb3) (by rw [cells_len]; simp; omega) hbelx.size).mono ?_
                  rintro e w4 ⟨rfl, hb4, hbel4⟩
                  have hbel5 := hbelx.trans hbel4
                  rw [cells_str, Lib.extract_data, ← cells_app] at hb4
                  clear hbel4
                  go_wp2_with fail
                  refine (Try.Builder_WriteByte w1.heap.size w1.heap.size _ 46 w4 (.inr hb4) (by rw [cells_len, List.length_append, List.length_take]; omega) hbel5.size).mono ?_
                  rintro e w5 ⟨rfl, hb5, hbel6⟩
                  have hbel7 := hbel5.trans hbel6
                  have hb7 : Lib.BuilderAt 30 5 w1.heap.size w1.heap.size (.pointer (some ⟨w1.heap.size, 0, none⟩)) (Lib.byteCells ([] ++ (p.data.toList.drop 0).take (o + aa - 0) ++ [46])) w5 := by rw [cells_app]; exact hb5
                  clear hb5 hb4 hbel6 hbel5
                  go_wp2
                  exact ⟨⟨o + aa + 3, o + aa + 3, [] ++ (p.data.toList.drop 0).take (o + aa - 0) ++ [46], by go_num, by go_num, DI2.out, .inr hb7, fun h => by omega, hbel7⟩, by simp [intOf]; omega⟩
                · have hcz : ((cc : Int) == 0) = false := beq_eq_false_iff_ne.2 (by omega)
                  clear hfresh HZ
                  go_wp2_with fail
                  refine (Try.strings_IndexByte (p.extract aa p.size) 37 wr).mono ?_
                  rintro e w2 ⟨rfl, rfl⟩
                  rw [hex, show (37 : Int).toNat.toUInt8 = 37 from rfl, hix]
                  obtain ⟨wr, rfl⟩ : ∃ wr : World, wr = w2 := ⟨_, rfl⟩
                  clear hex hix
                  go_wp2_with fail
                  refine (Try.Builder_WriteString w1.heap.size w1.heap.size (Lib.byteCells out) (p.extract cc (o + aa)) wr hbld (by rw [cells_len]; simp; omega) hbel.size).mono ?_
                  rintro e w4 ⟨rfl, hb4, hbel4⟩
                  have hbel5 := hbel.trans hbel4
                  rw [cells_str, Lib.extract_data, ← cells_app] at hb4
                  clear hbel4
                  go_wp2_with fail
                  refine (Try.Builder_WriteByte w1.heap.size w1.heap.size _ 46 w4 (.inr hb4) (by rw [cells_len, List.length_append, List.length_take]; omega) hbel5.size).mono ?_
                  rintro e w5 ⟨rfl, hb5, hbel6⟩
                  have hbel7 := hbel5.trans hbel6
                  have hb7 : Lib.BuilderAt 30 5 w1.heap.size w1.heap.size (.pointer (some ⟨w1.heap.size, 0, none⟩)) (Lib.byteCells (out ++ (p.data.toList.drop cc).take (o + aa - cc) ++ [46])) w5 := by rw [cells_app]; exact hb5
                  clear hb5 hb4 hbel6 hbel5
                  go_wp2
                  exact ⟨⟨o + aa + 3, o + aa + 3, out ++ (p.data.toList.drop cc).take (o + aa - cc) ++ [46], by go_num, by go_num, DI2.out, .inr hb7, fun h => by omega, hbel7⟩, by simp [intOf]; omega⟩
      · have hno : ∀ t, aa ≤ t → Pl.code (p.data.toList.drop t) = none := fun t ht => Pl.none_short (by rw [← Lib.size_eq]; omega)
        obtain ⟨ez, ep⟩ := Pl.di_end hI hno
        by_cases hc0 : cc = 0
        · subst hc0
          have E1 : Hid (Pl.dec p.data.toList = p.data.toList ∧ Pl.has p.data.toList = false) := ez rfl
          clear ez ep hno hI hfresh
          go_wp2
          go_ret2
          exact ⟨by rw [E1.out.1, E1.out.2, Lib.mk_data]; rfl, hbel⟩
        · have E1 : Hid (Pl.dec p.data.toList = out ++ p.data.toList.drop cc ∧ Pl.has p.data.toList = true) := ep hc0
          have hcz : ((cc : Int) == 0) = false := beq_eq_false_iff_ne.2 (by omega)
          have hl1 := hI.len
          have hl2 := hI.le1
          have hl3 : aa ≤ p.size := by have := hI.le2; rwa [← Lib.size_eq] at this
          clear ez ep hno hI hfresh
          go_wp2_with fail
          refine (Try.Builder_WriteString w1.heap.size w1.heap.size (Lib.byteCells out) (p.extract cc p.size) wr hbld (by rw [cells_len]; simp; omega) hbel.size).mono ?_
          rintro e w2 ⟨rfl, hb2, hbel2⟩
          rw [cells_str, tail_list, ← cells_app, ← E1.out.1] at hb2
          have hbel3 := hbel.trans hbel2
          clear hbel2 hbld
          go_wp2_with fail
          refine (Try.Builder_String_any w1.heap.size w1.heap.size _ w2 (.inr hb2) hbel3.size).mono ?_
          rintro e w3 ⟨rfl, hbel4⟩
          go_wp2
          go_ret2
          exact ⟨by rw [E1.out.2]; rfl, hbel3.trans hbel4⟩

end Go.Proofs.Qxb6606305a
