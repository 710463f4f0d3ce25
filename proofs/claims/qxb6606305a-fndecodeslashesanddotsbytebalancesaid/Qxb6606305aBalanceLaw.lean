import Derived.Test.Qxb6606305aModel
namespace Go.Proofs.Qxb6606305a
open Go.RowKit

/-- The counters' cells: how often each byte stands in l. -/
def cntCells (l : List UInt8) : Array Value := ((List.range 256).map fun b => Value.int .i64 ((l.count b.toUInt8 : Nat) : Int)).toArray

theorem cnt_get (l : List UInt8) (j : Nat) (hj : j < 256) : (cntCells l)[j]? = some (.int .i64 ((l.count j.toUInt8 : Nat) : Int)) := by
  unfold cntCells
  simp [List.getElem?_range hj]

theorem cnt_at (l : List UInt8) (c : UInt8) : (cntCells l)[c.toNat]? = some (.int .i64 ((l.count c : Nat) : Int)) := by
  have h : c.toNat < 256 := c.toNat_lt
  rw [cnt_get l c.toNat h]
  simp

theorem cnt_size (l : List UInt8) : (cntCells l).size = 256 := by simp [cntCells]

theorem cnt_set (l : List UInt8) (c : UInt8) : (cntCells l).setIfInBounds c.toNat (.int .i64 (((l.count c : Nat) : Int) + 1)) = cntCells (l ++ [c]) := by
  have hc : c.toNat < 256 := c.toNat_lt
  apply Array.ext_getElem?
  intro j
  rw [Array.getElem?_setIfInBounds]
  by_cases hj : j < 256
  · rw [cnt_get _ j hj, cnt_get _ j hj, cnt_size]
    by_cases e : c.toNat = j
    · subst e
      rw [if_pos rfl, if_pos hc]
      simp [List.count_append]
    · rw [if_neg e]
      have hne : c ≠ j.toUInt8 := by
        intro h
        apply e
        rw [h]
        simp [Nat.mod_eq_of_lt hj]
      simp [List.count_append, hne]
  · have h1 : (cntCells l)[j]? = none := Array.getElem?_eq_none (by rw [cnt_size]; omega)
    have h2 : (cntCells (l ++ [c]))[j]? = none := Array.getElem?_eq_none (by rw [cnt_size]; omega)
    rw [h1, h2, if_neg (by omega)]

theorem zero25 (w : World) : (zeroValue 25).run Try.prog w = .ok (.agg (cntCells [])) w := by kernel_rfl

/-- The counters of l lie in block b. -/
def CntAt (w : World) (b : Nat) (l : List UInt8) : Prop := w.heap[b]? = some (.cells (cntCells l) 25 (0, 0))

theorem CntAt.cell {w : World} {b : Nat} {l : List UInt8} (h : CntAt w b l) (c : UInt8) : w.cell? ⟨b, c.toNat, none⟩ = some (.int .i64 ((l.count c : Nat) : Int)) := by
  rw [Lib.cell_of_heap h, cnt_at]

theorem CntAt.cellN {w : World} {b : Nat} {l : List UInt8} (h : CntAt w b l) (j : Nat) (hj : j < 256) : w.cell? ⟨b, j, none⟩ = some (.int .i64 ((l.count j.toUInt8 : Nat) : Int)) := by
  rw [Lib.cell_of_heap h, cnt_get _ j hj]

theorem CntAt.frozen {w : World} {b : Nat} {l : List UInt8} (h : CntAt w b l) (j : Nat) : w.frozen? ⟨b, j, none⟩ = false := Lib.frozen_of_heap h j

theorem CntAt.bump {w : World} {b : Nat} {l : List UInt8} (h : CntAt w b l) (c : UInt8) : CntAt (w.setCell ⟨b, c.toNat, none⟩ (.int .i64 (((l.count c : Nat) : Int) + 1))) b (l ++ [c]) := by
  unfold CntAt at h ⊢
  rw [← cnt_set]
  simp [World.setCell, Array.getElem?_modify, h]

theorem CntAt.other {w : World} {b b' : Nat} {l : List UInt8} (h : CntAt w b l) (hne : b ≠ b') (j : Nat) (v : Value) : CntAt (w.setCell ⟨b', j, none⟩ v) b l := by
  unfold CntAt at h ⊢
  rw [Below.heap_setCell _ _ _ _ hne]
  exact h

theorem cnt_start (w : World) : CntAt ((w.alloc (.cells (cntCells []) 25)).alloc (.cells (cntCells []) 25)) w.heap.size [] ∧ CntAt ((w.alloc (.cells (cntCells []) 25)).alloc (.cells (cntCells []) 25)) (w.heap.size + 1) [] ∧ Below w.heap.size w ((w.alloc (.cells (cntCells []) 25)).alloc (.cells (cntCells []) 25)) := by
  refine ⟨?_, ?_, ((Below.refl _ _).alloc (Nat.le_refl _) _).alloc (by simp) _⟩
  · unfold CntAt
    rw [Below.heap_alloc _ _ _ (by simp)]
    exact heap_alloc_new w _
  · have h := heap_alloc_new (w.alloc (.cells (cntCells []) 25)) (.cells (cntCells []) 25)
    have e : (w.alloc (.cells (cntCells []) 25)).heap.size = w.heap.size + 1 := by simp
    rw [e] at h
    exact h

theorem take_snoc {l : List UInt8} {k : Nat} {c : UInt8} (h : l[k]? = some c) : l.take (k + 1) = l.take k ++ [c] := by
  rw [List.take_add_one, h]; rfl

set_option maxRecDepth 100000 in
set_option maxHeartbeats 400000 in
theorem bytes10 (a : ByteArray) (w : World) (ha : a.size ≤ maxLen) :
    Calls Try.prog 10 #[.string a] w fun e w' => (∃ r : Bool, e = .returned (.bool r)) ∧ w' = w := by
  unfold maxLen at ha
  go_enter Try.func10, Try.ntmps10
  go_wp2
  all_goals (go_ret; exact ⟨⟨_, rfl⟩, rfl⟩)

set_option maxRecDepth 100000 in
set_option maxHeartbeats 400000 in
theorem balance_law (p : ByteArray) (m : Int) (w : World) (hp : p.size ≤ maxLen) (hm : w.cell? ⟨0, 0, none⟩ = some (.int .i64 m)) :
    Calls Try.prog 5 #[.string p] w fun e w' => e = .returned (.bool true) ∧ Below w.heap.size w w' := by
  go_enter Try.func5, Try.ntmps5
  go_wp2_with fail
  refine (bytes10 p w hp).mono ?_
  rintro e w1 ⟨⟨r, rfl⟩, rfl⟩
  cases r with
  | false =>
    go_wp2
    go_ret
    exact ⟨rfl, Below.refl _ _⟩
  | true =>
    by_cases hbig : p.size ≤ 1048576
    case neg =>
      go_wp2
      go_ret
      exact ⟨rfl, Below.refl _ _⟩
    case pos =>
      go_wp2_with fail
      refine (zz_calls p m w1 hbig hm).mono ?_
      rintro e w2 ⟨rfl, hb2⟩
      clear hm
      cases hh : Pl.has p.data.toList with
      | false =>
        rw [Pl.has_not _ hh, Lib.mk_data]
        go_wp2
        go_ret
        exact ⟨by simp, hb2⟩
      | true =>
        obtain ⟨q, hq⟩ : ∃ q : ByteArray, q = ⟨(Pl.dec p.data.toList).toArray⟩ := ⟨_, rfl⟩
        rw [← hq]
        have HQ : Hid (q.data.toList = Pl.dec p.data.toList) := by rw [hq]; rfl
        clear hq
        have hlen : q.size < p.size := by
          have h1 := Pl.has_more _ hh
          have h2 := (Pl.bal p.data.toList).len
          rw [← HQ.out] at h1 h2
          rw [← Lib.size_eq, ← Lib.size_eq] at h2
          omega
        have hz25 := zero25
        go_wp2
        clear hz25
        go_loopw [7] (fun i wr => ∃ k : Nat, k ≤ p.size ∧ i = .int .i64 k ∧ CntAt wr w2.heap.size (p.data.toList.take k) ∧ CntAt wr (w2.heap.size + 1) [] ∧ Below w2.heap.size w2 wr) (fun i _ => p.size - (intOf i).toNat)
        case atStart => exact ⟨0, Nat.zero_le _, rfl, (cnt_start w2).1, (cnt_start w2).2.1, (cnt_start w2).2.2⟩
        case round =>
          obtain ⟨k, hk, rfl, hcp, hcq, hbel⟩ := hrel
          by_cases hlt : k < p.size
          · have hc := hcp.cell p[k]
            have hf := hcp.frozen p[k].toNat
            have hb : p[k].toNat < 256 := p[k].toNat_lt
            have hcnt : (p.data.toList.take k).count p[k] ≤ k := Nat.le_trans List.count_le_length (List.length_take_le _ _)
            have CP : Hid (CntAt wr w2.heap.size (p.data.toList.take k)) := hcp
            have CQ : Hid (CntAt wr (w2.heap.size + 1) []) := hcq
            clear hcp hcq
            go_wp2
            exact ⟨⟨k + 1, by omega, by go_num, by rw [take_snoc (at_eq p k hlt)]; exact CP.out.bump p[k], CQ.out.other (by omega) _ _, hbel.setCell (Nat.le_refl _) _⟩, by simp [intOf]; omega⟩
          · obtain rfl : k = p.size := by omega
            have ht : p.data.toList.take p.size = p.data.toList := List.take_of_length_le (by rw [← Lib.size_eq]; exact Nat.le_refl _)
            rw [ht] at hcp
            clear ht
            obtain ⟨wa, rfl⟩ : ∃ wa : World, wa = wr := ⟨_, rfl⟩
            go_wp2
            go_loopw [8] (fun i wr => ∃ k : Nat, k ≤ q.size ∧ i = .int .i64 k ∧ CntAt wr w2.heap.size p.data.toList ∧ CntAt wr (w2.heap.size + 1) (q.data.toList.take k) ∧ Below w2.heap.size w2 wr) (fun i _ => q.size - (intOf i).toNat)
            case atStart => exact ⟨0, Nat.zero_le _, rfl, hcp, hcq, hbel⟩
            case round =>
              clear hcp hcq hbel
              obtain ⟨k, hk, rfl, hcp, hcq, hbel⟩ := hrel
              by_cases hlt : k < q.size
              · have hc := hcq.cell q[k]
                have hf := hcq.frozen q[k].toNat
                have hb : q[k].toNat < 256 := q[k].toNat_lt
                have hcnt : (q.data.toList.take k).count q[k] ≤ k := Nat.le_trans List.count_le_length (List.length_take_le _ _)
                have CP : Hid (CntAt wr w2.heap.size p.data.toList) := hcp
                have CQ : Hid (CntAt wr (w2.heap.size + 1) (q.data.toList.take k)) := hcq
                clear hcp hcq
                go_wp2
                exact ⟨⟨k + 1, by omega, by go_num, CP.out.other (by omega) _ _, by rw [take_snoc (at_eq q k hlt)]; exact CQ.out.bump q[k], hbel.setCell (by simp) _⟩, by simp [intOf]; omega⟩
              · obtain rfl : k = q.size := by omega
                have ht : q.data.toList.take q.size = q.data.toList := List.take_of_length_le (by rw [← Lib.size_eq]; exact Nat.le_refl _)
                rw [ht] at hcq
                clear ht
                obtain ⟨wb, rfl⟩ : ∃ wb : World, wb = wr := ⟨_, rfl⟩
                go_wp2
                go_loopw [9] (fun i wr => ∃ k : Nat, k ≤ 256 ∧ i = .int .i64 k ∧ CntAt wr w2.heap.size p.data.toList ∧ CntAt wr (w2.heap.size + 1) q.data.toList ∧ Below w2.heap.size w2 wr) (fun i _ => 256 - (intOf i).toNat)
                case atStart => exact ⟨0, Nat.zero_le _, rfl, hcp, hcq, hbel⟩
                case round =>
                  clear hcp hcq hbel
                  obtain ⟨k, hk, rfl, hcp, hcq, hbel⟩ := hrel
                  have hbal := Pl.bal p.data.toList
                  rw [← HQ.out] at hbal
                  by_cases hlt : k < 256
                  · have hc1 := hcp.cellN k hlt
                    have hc2 := hcq.cellN k hlt
                    have hkb : k.toUInt8.toNat = k := by simp [Nat.mod_eq_of_lt hlt]
                    have hcmp : (k = 47 ∨ k = 46 → p.data.toList.count k.toUInt8 ≤ q.data.toList.count k.toUInt8) ∧ (k ≠ 47 → k ≠ 46 → q.data.toList.count k.toUInt8 ≤ p.data.toList.count k.toUInt8) := by
                      constructor
                      · intro h
                        rcases h with rfl | rfl
                        · exact hbal.slash
                        · exact hbal.dot
                      · intro h1 h2
                        refine hbal.other _ ?_ ?_
                        · intro e; apply h1; rw [← hkb, e]; rfl
                        · intro e; apply h2; rw [← hkb, e]; rfl
                    have n1 : p.data.toList.count k.toUInt8 ≤ p.size := by rw [Lib.size_eq]; exact List.count_le_length
                    have n2 : q.data.toList.count k.toUInt8 ≤ q.size := by rw [Lib.size_eq]; exact List.count_le_length
                    generalize p.data.toList.count k.toUInt8 = np at *
                    generalize q.data.toList.count k.toUInt8 = nq at *
                    have CP : Hid (CntAt wr w2.heap.size p.data.toList) := hcp
                    have CQ : Hid (CntAt wr (w2.heap.size + 1) q.data.toList) := hcq
                    clear hcp hcq hbal hkb
                    by_cases h47 : k = 47
                    · have b47 : ((k : Int) == 47) = true := beq_iff_eq.2 (by omega)
                      have hle := hcmp.1 (.inl h47)
                      clear hcmp h47
                      go_wp2
                      go_region
                      go_wp2
                      go_roundw
                      case rel => exact ⟨k + 1, by omega, by go_num, CP.out, CQ.out, hbel.drew⟩
                      case measure => simp [intOf]; omega
                    · have b47 : ((k : Int) == 47) = false := beq_eq_false_iff_ne.2 (by omega)
                      by_cases h46 : k = 46
                      · have b46 : ((k : Int) == 46) = true := beq_iff_eq.2 (by omega)
                        have hle := hcmp.1 (.inr h46)
                        clear hcmp h46 h47
                        go_wp2
                        go_region
                        go_wp2
                        go_roundw
                        case rel => exact ⟨k + 1, by omega, by go_num, CP.out, CQ.out, hbel.drew⟩
                        case measure => simp [intOf]; omega
                      · have b46 : ((k : Int) == 46) = false := beq_eq_false_iff_ne.2 (by omega)
                        have hle := hcmp.2 h47 h46
                        clear hcmp h46 h47
                        go_wp2
                        go_region
                        go_wp2
                        go_roundw
                        case rel => exact ⟨k + 1, by omega, by go_num, CP.out, CQ.out, hbel.drew⟩
                        case measure => simp [intOf]; omega
                  · have hmore := Pl.has_more _ hh
                    rw [← HQ.out] at hmore
                    have s1 := hbal.slash
                    have s2 := hbal.dot
                    have s3 := hbal.len
                    rw [← Lib.size_eq, ← Lib.size_eq] at s3
                    have c1 := hcp.cellN 47 (by omega)
                    have c2 := hcp.cellN 46 (by omega)
                    have c3 := hcq.cellN 47 (by omega)
                    have c4 := hcq.cellN 46 (by omega)
                    rw [show (47 : Nat).toUInt8 = 47 from rfl] at c1 c3
                    rw [show (46 : Nat).toUInt8 = 46 from rfl] at c2 c4
                    have n1 : p.data.toList.count 47 ≤ p.size := by rw [Lib.size_eq]; exact List.count_le_length
                    have n2 : p.data.toList.count 46 ≤ p.size := by rw [Lib.size_eq]; exact List.count_le_length
                    have n3 : q.data.toList.count 47 ≤ q.size := by rw [Lib.size_eq]; exact List.count_le_length
                    have n4 : q.data.toList.count 46 ≤ q.size := by rw [Lib.size_eq]; exact List.count_le_length
                    clear hcp hcq hbal
                    generalize p.data.toList.count 47 = a1 at *
                    generalize p.data.toList.count 46 = a2 at *
                    generalize q.data.toList.count 47 = a3 at *
                    generalize q.data.toList.count 46 = a4 at *
                    have H3 : Hid (p.size + 2 * (a1 + a2) = q.size + 2 * (a3 + a4)) := s3
                    clear s3
                    have hfin : ((p.size : Int) - (q.size : Int) == 2 * ((a3 : Int) - (a1 : Int) + ((a4 : Int) - (a2 : Int)))) = true := beq_iff_eq.2 (by have := H3.out; omega)
                    go_wp2
                    go_ret
                    exact ⟨rfl, hb2.trans (hbel.mono hb2.size)⟩

end Go.Proofs.Qxb6606305a
