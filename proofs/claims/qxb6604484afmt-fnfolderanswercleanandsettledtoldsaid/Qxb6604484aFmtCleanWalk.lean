import Derived.Test.Qxb6604484aFmtProg
import Derived.Test.Qxb6604484aFmtCleanPlain
import Derived.WalkKit
import Derived.WalkSpells
import Derived.WalkLawsBesides
import Derived.Lib.AppendStr
namespace Go.Proofs.Qxb6604484aFmt
open Go.RowKit

def segVals (st : List (List UInt8)) : List Value := st.reverse.map fun e => Value.string ⟨e.toArray⟩

theorem info9 : (Tryf.prog.info? 9).map (fun i => (i.zero, i.size, i.bytes)) = some (some (.string ⟨#[]⟩), 1, 16) := by kernel_rfl
theorem info5 : (Tryf.prog.info? 5).map (fun i => (i.zero, i.size, i.bytes)) = some (some (.int .u8 0), 1, 1) := by kernel_rfl

theorem segVals_cons (x : List UInt8) (r : List (List UInt8)) : segVals (x :: r) = segVals r ++ [.string ⟨x.toArray⟩] := by simp [segVals]
theorem segVals_length (st : List (List UInt8)) : (segVals st).length = st.length := by simp [segVals]

theorem owns_shape {w : World} {base : Nat} {e : TypeId} {size : Nat} {v : Value} {n : Nat} {xs : List Value} (h : w.ownsRow base e size v n xs) : ∃ a cap, v = .slice a n cap := by
  rcases h.2 with ⟨h1, h2⟩ | ⟨g, cap, cur, h1, _⟩
  · exact ⟨none, 0, by rw [h1, h2]⟩
  · exact ⟨_, _, h1⟩

/-- A row that is owned and not empty: its block, its cells. -/
theorem owns_at {w : World} {base : Nat} {e : TypeId} {a : Option Addr} {cap n : Nat} {xs : List Value} (h : w.ownsRow base e 1 (.slice a n cap) n xs) (hn : 0 < n) :
    ∃ g, a = some ⟨g, 0, none⟩ ∧ ∀ j u, xs[j]? = some u → w.cell? ⟨g, j, none⟩ = some u := by
  rcases h.2 with ⟨h1, h2⟩ | ⟨g, cap', cur, h1, _⟩
  · omega
  · have ha : a = some ⟨g, 0, none⟩ := by cases h1; rfl
    subst ha
    refine ⟨g, rfl, fun j u hj => ?_⟩
    have := h.cells (g := g) rfl j u hj
    have hadd : (⟨g, 0, none⟩ : Addr).add j = ⟨g, j, none⟩ := by unfold Addr.add; split <;> simp_all
    rwa [hadd] at this

theorem seg_array (p : ByteArray) : (⟨p.toList.toArray⟩ : ByteArray) = p := by rw [ByteArray.toList_eq]

def byteVals (l : List UInt8) : List Value := l.map fun b => Value.int .u8 (b.toNat : Int)
theorem byteVals_app (a b : List UInt8) : byteVals (a ++ b) = byteVals a ++ byteVals b := by simp [byteVals]
theorem strCells_mk (l : List UInt8) : Lib.strCells ⟨l.toArray⟩ = byteVals l := rfl

theorem apart_blocks {v u : Value} {N : Nat} (h1 : ∀ k, v.ownBlock = some k → k < N) (h2 : ∀ k, u.ownBlock = some k → N ≤ k) : v.ownBlock = none ∨ v.ownBlock ≠ u.ownBlock := by
  cases hv : v.ownBlock with
  | none => exact .inl rfl
  | some b =>
    right
    intro e
    have := h1 b hv
    have := h2 b e.symm
    omega

theorem segVals_at {st : List (List UInt8)} {j : Nat} {x : List UInt8} (h : st.reverse[j]? = some x) : (segVals st)[j]? = some (.string ⟨x.toArray⟩) := by
  unfold segVals
  rw [List.getElem?_map, h]; rfl

theorem convert_own {w : World} {base : Nat} {a : Option Addr} {cap : Nat} {l : List UInt8} (h : w.ownsRow base 5 1 (.slice a l.length cap) l.length (byteVals l)) (hl : l ≠ []) : (convert 68 9 (.slice a l.length cap)).run Tryf.prog w = .ok (.string ⟨l.toArray⟩) w := by
  obtain ⟨g, rfl, hc⟩ := owns_at h (List.length_pos_iff.2 hl)
  refine run_convert_bytes_back w 68 9 5 ⟨g, 0, none⟩ cap l Tryf.underlying68 Tryf.underlying5 Tryf.underlying9 (fun j hj => ?_)
  have hadd : (⟨g, 0, none⟩ : Addr).add j = ⟨g, j, none⟩ := by unfold Addr.add; split <;> simp_all
  rw [hadd]
  exact hc j _ (by unfold byteVals; rw [List.getElem?_map, List.getElem?_eq_getElem hj]; rfl)

theorem no_snoc {l : List UInt8} {k m : Nat} (h : ∀ t, k ≤ t → t < m → l[t]? ≠ some 47) (hm : l[m]? ≠ some 47) : ∀ t, k ≤ t → t < m + 1 → l[t]? ≠ some 47 := fun t h1 h2 => by
  by_cases e : t = m
  · rw [e]; exact hm
  · exact h t h1 (by omega)
theorem byte47 {c : UInt8} (h : ((c.toNat : Int) == 47) = true) : c = 47 := by rw [Lib.Pa.beq47] at h; exact beq_iff_eq.1 h
theorem byte47' {c : UInt8} (h : ((c.toNat : Int) == 47) = false) : c ≠ 47 := by rw [Lib.Pa.beq47] at h; exact beq_eq_false_iff_ne.1 h

set_option maxRecDepth 100000 in
set_option maxHeartbeats 1000000 in
theorem clean_calls (p : ByteArray) (w : World) (hp : 0 < p.size) (hbig : p.size ≤ 1048576) :
    Calls Tryf.prog 27 #[.string p] w fun e w' => e = .returned (.string ⟨(Lib.Pa.cleanEls p.data.toList).toArray⟩) ∧ Below w.heap.size w w' := by
  go_enter Tryf.func27, Tryf.ntmps27
  go_wp2
  generalize hro : (p[0].toNat == (47 : Int)) = ro
  go_loopw [4, 5] (fun v i wr => ∃ (k : Nat) (st : List (List UInt8)) (a : Option Addr) (cap : Nat), i = .int .i64 k ∧ v = .slice a st.length cap ∧ Cl.Inv p.data.toList ro k st ∧ wr.ownsRow w.heap.size 9 1 v st.length (segVals st) ∧ Below w.heap.size w wr)
    (fun _ i _ => p.size - (intOf i).toNat)
  case atStart => exact ⟨0, [], none, 0, rfl, rfl, Cl.inv_start _ _, World.ownsRow_nil _ _ _ _, Below.refl _ _⟩
  case round =>
    obtain ⟨k, st, a, cap, rfl, rfl, hinv, hown, hbel⟩ := hrel
    by_cases hlt : k < p.size
    case neg =>
      obtain ⟨wo, rfl⟩ : ∃ wo : World, wo = wr := ⟨_, rfl⟩
      have hst := Cl.inv_end hinv (by rw [← Lib.size_eq]; omega)
      have HK : Hid (st = Cl.keep ro p.data.toList) := hst
      have HS : Hid (∀ e ∈ st, e.length ≤ p.data.toList.length) := hinv.short
      have hfew : st.length ≤ p.size := by have := hinv.few; have := hinv.le; rw [← Lib.size_eq] at this; omega
      have HRO : Hid ((p.data.toList.head? == some 47) = ro) := (Lib.Pa.isAbs_pos p hp).trans hro
      have HW : Hid (w.heap.size ≤ wo.heap.size) := hbel.size
      have HL : Hid (∀ j, (Value.slice a st.length cap).ownBlock = some j → w.heap.size ≤ j ∧ j < wo.heap.size) := hown.lt
      clear hst hinv
      obtain ⟨i5, hi5, hz0, hz1, hz2⟩ := info_parts info5
      go_wp2_with (at_make; go_must (refine wpList_make_own _ rfl _ _ 68 rfl wo.heap.size 5 i5 (.int .u8 0) 1 Tryf.underlying68 hi5 hz0 hz1 _ _ _ (p.size + 1) rfl rfl (by omega) (by rw [hz2]; omega) (by unfold maxLen; omega) (Nat.le_refl _) ?_))
      intro w1 hb1 hg1
      have hown1 := hown.kept hg1 (by cases hv : (Value.slice a st.length cap).ownBlock <;> simp)
      have hbel1 : Below w.heap.size w w1 := hbel.grown hg1 hbel.size (fun j hj => by cases hj)
      have hsz1 : wo.heap.size ≤ w1.heap.size := hg1.size
      clear hown hbel hg1
      cases ro with
      | true =>
        go_wp2_with (at_builtin; go_must (refine wpList_append_own _ rfl _ _ 68 rfl wo.heap.size 5 i5 (.int .u8 0) 1 1 Tryf.underlying68 hi5 hz0 hz1 hz2 rfl (by decide) _ 0 [] rfl (hb1.alloc _) ⟨w1.heap.size, 0, none⟩ 1 1 [.int .u8 47] rfl rfl (cell_one_new _ _ _) (by simp [Value.oneCell']) (by unfold maxLen; omega) (by omega) (by simp; omega) ?_))
        intro v2 w2 hb2 hg2 _
        have hap1 := apart_blocks (fun k hk => (HL.out k hk).2) (fun k hk => (hb1.lt k hk).1)
        have hown2 := (hown1.alloc _).kept hg2 hap1
        have hbel2 := (hbel1.alloc hbel1.size _).grown hg2 (by simp; exact Nat.le_succ_of_le hbel1.size) (fun j hj => Nat.le_trans HW.out (hb1.lt j hj).1)
        have hsz2 : wo.heap.size ≤ w2.heap.size := Nat.le_trans hsz1 (Nat.le_trans (by simp) hg2.size)
        obtain ⟨a2, cap2, hv2⟩ := owns_shape hb2
        rw [hv2]
        rw [hv2] at hb2
        clear hg2 hb1 hown1 hbel1 hsz1 hap1
        go_wp2
        go_loopw [8, 9] (fun v n wq => ∃ (j : Nat) (a2 : Option Addr) (cap2 : Nat), j ≤ st.length ∧ n = .int .i64 j ∧ v = .slice a2 (Cl.bufAt true st.reverse j).length cap2 ∧ wq.ownsRow wo.heap.size 5 1 v (Cl.bufAt true st.reverse j).length (byteVals (Cl.bufAt true st.reverse j)) ∧ wq.ownsRow w.heap.size 9 1 (.slice a st.length cap) st.length (segVals st) ∧ Below w.heap.size w wq ∧ wo.heap.size ≤ wq.heap.size)
          (fun _ n _ => st.length - (intOf n).toNat)
        case atStart => exact ⟨0, _, _, Nat.zero_le _, rfl, by rw [Cl.bufAt_zero]; rfl, by rw [Cl.bufAt_zero]; exact hb2, hown2, hbel2, hsz2⟩
        case round =>
          obtain ⟨j, a2, cap2, hj, rfl, rfl, hbuf, hseg, hb3, hsz3⟩ := hrel
          have hxs : ∀ x ∈ st.reverse, x.length ≤ p.size := fun x hx => by have := HS.out x (by simpa using hx); rwa [← Lib.size_eq] at this
          have hble := Cl.bufAt_le (ro := true) hxs j (by simpa using hj)
          have hmul : j * (p.size + 1) ≤ 1048576 * 1048577 := Nat.mul_le_mul (by omega) (by omega)
          by_cases hjlt : j < st.length
          · obtain ⟨x, hx⟩ : ∃ x, st.reverse[j]? = some x := ⟨_, List.getElem?_eq_getElem (by simpa using hjlt)⟩
            have hxl := hxs x (List.mem_of_getElem? hx)
            obtain ⟨g, rfl, hcell⟩ := owns_at hseg (by omega)
            have hc := hcell j _ (segVals_at hx)
            have hxsz : (⟨x.toArray⟩ : ByteArray).size = x.length := by simp [ByteArray.size]
            have hap := apart_blocks (fun k hk => (HL.out k hk).2) (fun k hk => (hbuf.lt k hk).1)
            have hgw : g < wr.heap.size := World.block_lt_of_cell? wr _ hc
            clear hcell hxs
            have HX : Hid (st.reverse[j]? = some x) := hx
            clear hx
            have HA : Hid ((Value.slice (some ⟨g, 0, none⟩) st.length cap).ownBlock = none ∨ (Value.slice (some ⟨g, 0, none⟩) st.length cap).ownBlock ≠ (Value.slice a2 (Cl.bufAt true st.reverse j).length cap2).ownBlock) := hap
            clear hap
            have HZ : Hid ((⟨x.toArray⟩ : ByteArray).size = x.length) := hxsz
            clear hxsz
            by_cases hj0 : j = 0
            · subst hj0
              have HB : Hid (Cl.bufAt true st.reverse (0 + 1) = Cl.bufAt true st.reverse 0 ++ x) := Cl.bufAt_first HX.out
              generalize Cl.bufAt true st.reverse 0 = B at *
              go_wp2_with (at_builtin; go_must (refine Lib.wpList_append_own_string _ rfl _ _ 68 9 rfl wo.heap.size 5 i5 Tryf.underlying68 Tryf.underlying9 hi5 hz0 hz1 hz2 _ B.length (byteVals B) rfl hbuf ⟨x.toArray⟩ rfl (by rw [HZ.out]; unfold maxLen; omega) (by rw [HZ.out]; omega) hsz3 ?_))
              intro v4 w4 hb4 hg4 _
              have hseg4 := hseg.kept hg4 HA.out
              have hbel4 := hb3.grown hg4 hb3.size (fun j hj => Nat.le_trans HW.out (hbuf.lt j hj).1)
              have hsz4 := Nat.le_trans hsz3 hg4.size
              rw [strCells_mk, ← byteVals_app, ← List.length_append, ← HB.out] at hb4
              obtain ⟨a4, cap4, hv4⟩ := owns_shape hb4
              rw [hv4]
              rw [hv4] at hb4
              clear hseg hbuf hg4 hb3 hsz3
              go_wp2
              exact ⟨⟨1, a4, cap4, by omega, rfl, rfl, hb4, hseg4, hbel4, hsz4⟩, by simp [intOf]; omega⟩
            · have HB : Hid (Cl.bufAt true st.reverse (j + 1) = (Cl.bufAt true st.reverse j ++ [47]) ++ x) := Cl.bufAt_next (by omega) HX.out
              generalize Cl.bufAt true st.reverse j = B at *
              go_wp2_with (at_builtin; go_must (refine wpList_append_own _ rfl _ _ 68 rfl wo.heap.size 5 i5 (.int .u8 0) 1 1 Tryf.underlying68 hi5 hz0 hz1 hz2 rfl (by decide) _ B.length (byteVals B) rfl (hbuf.alloc _) ⟨wr.heap.size, 0, none⟩ 1 1 [.int .u8 47] rfl rfl (cell_one_new _ _ _) (by simp [Value.oneCell']) (by unfold maxLen; omega) (by omega) (by simp; omega) ?_))
              intro v5 w5 hb5 hg5 _
              have hseg5 := (hseg.alloc _).kept hg5 HA.out
              have hbel5 := (hb3.alloc hb3.size _).grown hg5 (by simp; exact Nat.le_succ_of_le hb3.size) (fun j hj => Nat.le_trans HW.out (hbuf.lt j hj).1)
              have hsz5 : wo.heap.size ≤ w5.heap.size := Nat.le_trans hsz3 (Nat.le_trans (by simp) hg5.size)
              obtain ⟨a5, cap5, hv5⟩ := owns_shape hb5
              rw [hv5]
              rw [hv5] at hb5
              have hb5' : w5.ownsRow wo.heap.size 5 1 (.slice a5 (B.length + 1) cap5) (B.length + 1) (byteVals (B ++ [47])) := by rw [byteVals_app]; exact hb5
              have hc5 : w5.cell? ⟨g, j, none⟩ = some (.string ⟨x.toArray⟩) := by
                obtain ⟨g', hgg, hcell'⟩ := owns_at hseg5 (by omega)
                cases hgg
                exact hcell' j _ (segVals_at HX.out)
              have hap5 : Hid ((Value.slice (some ⟨g, 0, none⟩) st.length cap).ownBlock = none ∨ (Value.slice (some ⟨g, 0, none⟩) st.length cap).ownBlock ≠ (Value.slice a5 (B.length + 1) cap5).ownBlock) := apart_blocks (fun k hk => (HL.out k hk).2) (fun k hk => (hb5.lt k hk).1)
              clear hseg hbuf hg5 hb3 hsz3 hb5 hc HA
              go_wp2_with (at_builtin; go_must (refine Lib.wpList_append_own_string _ rfl _ _ 68 9 rfl wo.heap.size 5 i5 Tryf.underlying68 Tryf.underlying9 hi5 hz0 hz1 hz2 _ (B.length + 1) (byteVals (B ++ [47])) rfl hb5' ⟨x.toArray⟩ rfl (by rw [HZ.out]; unfold maxLen; omega) (by rw [HZ.out]; omega) hsz5 ?_))
              intro v4 w4 hb4 hg4 _
              have hseg4 := hseg5.kept hg4 hap5.out
              have hbel4 := hbel5.grown hg4 hbel5.size (fun j hj => Nat.le_trans HW.out (hb5'.lt j hj).1)
              have hsz4 := Nat.le_trans hsz5 hg4.size
              have hlen : B.length + 1 + x.length = (Cl.bufAt true st.reverse (j + 1)).length := by rw [HB.out]; simp only [List.length_append, List.length_cons, List.length_nil]
              rw [strCells_mk, ← byteVals_app, ← HB.out, hlen] at hb4
              obtain ⟨a4, cap4, hv4⟩ := owns_shape hb4
              rw [hv4]
              rw [hv4] at hb4
              clear hseg5 hb5' hg4 hbel5 hsz5 hlen
              go_wp2
              exact ⟨⟨j + 1, a4, cap4, by omega, by go_num, rfl, hb4, hseg4, hbel4, hsz4⟩, by simp [intOf]; omega⟩
          · obtain rfl : j = st.length := by omega
            have HE : Hid (Lib.Pa.cleanEls p.data.toList = if Cl.bufAt true st.reverse st.length = [] then [46] else Cl.bufAt true st.reverse st.length) := Cl.bufAt_end _ true HRO.out st HK.out
            clear hble hmul hxs
            generalize Cl.bufAt true st.reverse st.length = B at *
            by_cases hB : B = []
            · subst hB
              go_wp2
              go_ret
              exact ⟨by rw [HE.out]; rfl, hb3⟩
            · have hcv := convert_own hbuf hB
              have hl0 : ((B.length : Int) == 0) = false := by
                have := List.length_pos_iff.2 hB
                exact beq_eq_false_iff_ne.2 (by omega)
              have HN : Hid (B ≠ []) := hB
              clear hB
              go_wp2
              go_ret
              exact ⟨by rw [HE.out, if_neg HN.out]; rfl, hb3⟩
      | false =>
        have hown2 := hown1
        have hbel2 := hbel1
        have hsz2 := hsz1
        clear hown1 hbel1 hsz1
        go_wp2
        go_loopw [8, 9] (fun v n wq => ∃ (j : Nat) (a2 : Option Addr) (cap2 : Nat), j ≤ st.length ∧ n = .int .i64 j ∧ v = .slice a2 (Cl.bufAt false st.reverse j).length cap2 ∧ wq.ownsRow wo.heap.size 5 1 v (Cl.bufAt false st.reverse j).length (byteVals (Cl.bufAt false st.reverse j)) ∧ wq.ownsRow w.heap.size 9 1 (.slice a st.length cap) st.length (segVals st) ∧ Below w.heap.size w wq ∧ wo.heap.size ≤ wq.heap.size)
          (fun _ n _ => st.length - (intOf n).toNat)
        case atStart => exact ⟨0, _, _, Nat.zero_le _, rfl, by rw [Cl.bufAt_zero]; rfl, by rw [Cl.bufAt_zero]; exact hb1, hown2, hbel2, hsz2⟩
        case round =>
          obtain ⟨j, a2, cap2, hj, rfl, rfl, hbuf, hseg, hb3, hsz3⟩ := hrel
          have hxs : ∀ x ∈ st.reverse, x.length ≤ p.size := fun x hx => by have := HS.out x (by simpa using hx); rwa [← Lib.size_eq] at this
          have hble := Cl.bufAt_le (ro := false) hxs j (by simpa using hj)
          have hmul : j * (p.size + 1) ≤ 1048576 * 1048577 := Nat.mul_le_mul (by omega) (by omega)
          by_cases hjlt : j < st.length
          · obtain ⟨x, hx⟩ : ∃ x, st.reverse[j]? = some x := ⟨_, List.getElem?_eq_getElem (by simpa using hjlt)⟩
            have hxl := hxs x (List.mem_of_getElem? hx)
            obtain ⟨g, rfl, hcell⟩ := owns_at hseg (by omega)
            have hc := hcell j _ (segVals_at hx)
            have hxsz : (⟨x.toArray⟩ : ByteArray).size = x.length := by simp [ByteArray.size]
            have hap := apart_blocks (fun k hk => (HL.out k hk).2) (fun k hk => (hbuf.lt k hk).1)
            have hgw : g < wr.heap.size := World.block_lt_of_cell? wr _ hc
            clear hcell hxs
            have HX : Hid (st.reverse[j]? = some x) := hx
            clear hx
            have HA : Hid ((Value.slice (some ⟨g, 0, none⟩) st.length cap).ownBlock = none ∨ (Value.slice (some ⟨g, 0, none⟩) st.length cap).ownBlock ≠ (Value.slice a2 (Cl.bufAt false st.reverse j).length cap2).ownBlock) := hap
            clear hap
            have HZ : Hid ((⟨x.toArray⟩ : ByteArray).size = x.length) := hxsz
            clear hxsz
            by_cases hj0 : j = 0
            · subst hj0
              have HB : Hid (Cl.bufAt false st.reverse (0 + 1) = Cl.bufAt false st.reverse 0 ++ x) := Cl.bufAt_first HX.out
              generalize Cl.bufAt false st.reverse 0 = B at *
              go_wp2_with (at_builtin; go_must (refine Lib.wpList_append_own_string _ rfl _ _ 68 9 rfl wo.heap.size 5 i5 Tryf.underlying68 Tryf.underlying9 hi5 hz0 hz1 hz2 _ B.length (byteVals B) rfl hbuf ⟨x.toArray⟩ rfl (by rw [HZ.out]; unfold maxLen; omega) (by rw [HZ.out]; omega) hsz3 ?_))
              intro v4 w4 hb4 hg4 _
              have hseg4 := hseg.kept hg4 HA.out
              have hbel4 := hb3.grown hg4 hb3.size (fun j hj => Nat.le_trans HW.out (hbuf.lt j hj).1)
              have hsz4 := Nat.le_trans hsz3 hg4.size
              rw [strCells_mk, ← byteVals_app, ← List.length_append, ← HB.out] at hb4
              obtain ⟨a4, cap4, hv4⟩ := owns_shape hb4
              rw [hv4]
              rw [hv4] at hb4
              clear hseg hbuf hg4 hb3 hsz3
              go_wp2
              exact ⟨⟨1, a4, cap4, by omega, rfl, rfl, hb4, hseg4, hbel4, hsz4⟩, by simp [intOf]; omega⟩
            · have HB : Hid (Cl.bufAt false st.reverse (j + 1) = (Cl.bufAt false st.reverse j ++ [47]) ++ x) := Cl.bufAt_next (by omega) HX.out
              generalize Cl.bufAt false st.reverse j = B at *
              go_wp2_with (at_builtin; go_must (refine wpList_append_own _ rfl _ _ 68 rfl wo.heap.size 5 i5 (.int .u8 0) 1 1 Tryf.underlying68 hi5 hz0 hz1 hz2 rfl (by decide) _ B.length (byteVals B) rfl (hbuf.alloc _) ⟨wr.heap.size, 0, none⟩ 1 1 [.int .u8 47] rfl rfl (cell_one_new _ _ _) (by simp [Value.oneCell']) (by unfold maxLen; omega) (by omega) (by simp; omega) ?_))
              intro v5 w5 hb5 hg5 _
              have hseg5 := (hseg.alloc _).kept hg5 HA.out
              have hbel5 := (hb3.alloc hb3.size _).grown hg5 (by simp; exact Nat.le_succ_of_le hb3.size) (fun j hj => Nat.le_trans HW.out (hbuf.lt j hj).1)
              have hsz5 : wo.heap.size ≤ w5.heap.size := Nat.le_trans hsz3 (Nat.le_trans (by simp) hg5.size)
              obtain ⟨a5, cap5, hv5⟩ := owns_shape hb5
              rw [hv5]
              rw [hv5] at hb5
              have hb5' : w5.ownsRow wo.heap.size 5 1 (.slice a5 (B.length + 1) cap5) (B.length + 1) (byteVals (B ++ [47])) := by rw [byteVals_app]; exact hb5
              have hc5 : w5.cell? ⟨g, j, none⟩ = some (.string ⟨x.toArray⟩) := by
                obtain ⟨g', hgg, hcell'⟩ := owns_at hseg5 (by omega)
                cases hgg
                exact hcell' j _ (segVals_at HX.out)
              have hap5 : Hid ((Value.slice (some ⟨g, 0, none⟩) st.length cap).ownBlock = none ∨ (Value.slice (some ⟨g, 0, none⟩) st.length cap).ownBlock ≠ (Value.slice a5 (B.length + 1) cap5).ownBlock) := apart_blocks (fun k hk => (HL.out k hk).2) (fun k hk => (hb5.lt k hk).1)
              clear hseg hbuf hg5 hb3 hsz3 hb5 hc HA
              go_wp2_with (at_builtin; go_must (refine Lib.wpList_append_own_string _ rfl _ _ 68 9 rfl wo.heap.size 5 i5 Tryf.underlying68 Tryf.underlying9 hi5 hz0 hz1 hz2 _ (B.length + 1) (byteVals (B ++ [47])) rfl hb5' ⟨x.toArray⟩ rfl (by rw [HZ.out]; unfold maxLen; omega) (by rw [HZ.out]; omega) hsz5 ?_))
              intro v4 w4 hb4 hg4 _
              have hseg4 := hseg5.kept hg4 hap5.out
              have hbel4 := hbel5.grown hg4 hbel5.size (fun j hj => Nat.le_trans HW.out (hb5'.lt j hj).1)
              have hsz4 := Nat.le_trans hsz5 hg4.size
              have hlen : B.length + 1 + x.length = (Cl.bufAt false st.reverse (j + 1)).length := by rw [HB.out]; simp only [List.length_append, List.length_cons, List.length_nil]
              rw [strCells_mk, ← byteVals_app, ← HB.out, hlen] at hb4
              obtain ⟨a4, cap4, hv4⟩ := owns_shape hb4
              rw [hv4]
              rw [hv4] at hb4
              clear hseg5 hb5' hg4 hbel5 hsz5 hlen
              go_wp2
              exact ⟨⟨j + 1, a4, cap4, by omega, by go_num, rfl, hb4, hseg4, hbel4, hsz4⟩, by simp [intOf]; omega⟩
          · obtain rfl : j = st.length := by omega
            have HE : Hid (Lib.Pa.cleanEls p.data.toList = if Cl.bufAt false st.reverse st.length = [] then [46] else Cl.bufAt false st.reverse st.length) := Cl.bufAt_end _ false HRO.out st HK.out
            clear hble hmul hxs
            generalize Cl.bufAt false st.reverse st.length = B at *
            by_cases hB : B = []
            · subst hB
              go_wp2
              go_ret
              exact ⟨by rw [HE.out]; rfl, hb3⟩
            · have hcv := convert_own hbuf hB
              have hl0 : ((B.length : Int) == 0) = false := by
                have := List.length_pos_iff.2 hB
                exact beq_eq_false_iff_ne.2 (by omega)
              have HN : Hid (B ≠ []) := hB
              clear hB
              go_wp2
              go_ret
              exact ⟨by rw [HE.out, if_neg HN.out]; rfl, hb3⟩
    case pos =>
      cases h47 : ((p[k].toNat : Int) == 47) with
      | true =>
        go_wp2
        exact ⟨⟨k + 1, st, a, cap, by go_num, rfl, Cl.inv_slash hinv (by rw [Lib.Pa.at_eq p k hlt, byte47 h47]), hown, hbel⟩, by simp [intOf]; omega⟩
      | false =>
        go_wp2
        go_loop [6] (fun j => ∃ m : Nat, k ≤ m ∧ m ≤ p.size ∧ (∀ t, k ≤ t → t < m → p.data.toList[t]? ≠ some 47) ∧ j = .int .i64 m) (fun j => p.size - (intOf j).toNat)
        case atStart => exact ⟨k, Nat.le_refl _, by omega, fun t h1 h2 => by omega, rfl⟩
        case round =>
          obtain ⟨m, hkm, hmp, hno, rfl⟩ := hrel
          by_cases hgo : ∃ h : m < p.size, (((p[m]'h).toNat : Int) == 47) = false
          · obtain ⟨hmlt, hm47⟩ := hgo
            have hm47' : ((p[m].toNat : Int) != 47) = true := by simp [bne, hm47]
            go_wp2
            go_round
            case rel => exact ⟨m + 1, by omega, by omega, no_snoc hno (by rw [Lib.Pa.at_eq p m hmlt]; intro e; exact byte47' hm47 (Option.some.inj e)), by go_num⟩
            case measure => simp [intOf]; omega
          · have he : m = p.data.toList.length ∨ p.data.toList[m]? = some 47 := by
              by_cases hmlt : m < p.size
              · right
                cases hm47 : ((p[m].toNat : Int) == 47) with
                | false => exact absurd ⟨hmlt, hm47⟩ hgo
                | true => rw [Lib.Pa.at_eq p m hmlt, byte47 hm47]
              · left; rw [← Lib.size_eq]; omega
            have hkm' : k < m := by
              rcases Nat.lt_or_eq_of_le hkm with h | h
              · exact h
              · subst h; exact absurd ⟨hlt, h47⟩ hgo
            have hI := Cl.inv_seg hinv hkm' (by rw [← Lib.size_eq]; exact hmp) hno he
            have hseg : (p.extract k m).toList = (p.data.toList.drop k).take (m - k) := by rw [ByteArray.toList_eq, Lib.extract_data]
            have hc : (m < p.size ∧ ∀ h : m < p.size, (((p[m]'h).toNat : Int) != 47) = false) ∨ ¬ m < p.size := by
              by_cases hmlt : m < p.size
              · left
                refine ⟨hmlt, fun _ => ?_⟩
                cases hm47 : ((p[m].toNat : Int) == 47) with
                | false => exact absurd ⟨hmlt, hm47⟩ hgo
                | true => simp [bne, hm47]
              · exact .inr hmlt
            clear hgo he hno
            rw [← hseg] at hI
            have HI : Hid (Cl.Inv p.data.toList ro m (Lib.Pa.cleanStep ro st (p.extract k m).toList)) := hI
            clear hI hseg
            have hfew := hinv.few
            have hnorm := hinv.norm
            obtain ⟨i9, hi9, hz0, hz1, hz2⟩ := info_parts info9
            clear hinv
            rcases hc with ⟨hmlt, hm47⟩ | hmlt
            · have hm47' := hm47 hmlt
              clear hm47
              cases h1 : ((p.extract k m).toList == [46]) with
              | true =>
                have e1 : Lib.Pa.cleanStep ro st (p.extract k m).toList = st := by rw [beq_iff_eq.1 h1, Lib.Pa.step_dot]
                rw [e1] at HI
                clear e1
                go_wp2
                exact ⟨⟨m, st, a, cap, rfl, rfl, HI.out, hown, hbel⟩, by simp [intOf]; omega⟩
              | false =>
                cases h2 : ((p.extract k m).toList == [46, 46]) with
                | true =>
                  have h2' := beq_iff_eq.1 h2
                  cases st with
                  | nil =>
                    cases ro with
                    | true =>
                      have e1 : Lib.Pa.cleanStep true [] (p.extract k m).toList = [] := by rw [h2']; rfl
                      rw [e1] at HI
                      clear e1 h2'
                      go_wp2
                      exact ⟨⟨m, [], a, cap, rfl, rfl, HI.out, hown, hbel⟩, by simp [intOf]; omega⟩
                    | false =>
                      have e1 : Lib.Pa.cleanStep false [] (p.extract k m).toList = [[46, 46]] := by rw [h2']; rfl
                      rw [e1] at HI
                      clear e1 h2'
                      go_wp2_with (at_builtin; go_must (refine wpList_append_own _ rfl _ _ 67 rfl w.heap.size 9 i9 (.string ⟨#[]⟩) 1 16 Tryf.underlying67 hi9 hz0 hz1 hz2 rfl (by decide) _ 0 (segVals []) rfl (hown.alloc _) ⟨wr.heap.size, 0, none⟩ 1 1 [.string ⟨#[46, 46]⟩] rfl rfl (cell_one_new _ _ _) (by simp [Value.oneCell']) (by unfold maxLen; omega) (by omega) (by simp; exact Nat.le_succ_of_le hbel.size) ?_))
                      intro v1 w1 hown1 hg1 _
                      obtain ⟨a1, cap1, hv1⟩ := owns_shape hown1
                      rw [hv1]
                      rw [hv1] at hown1
                      have hbel1 : Below w.heap.size w w1 := (hbel.alloc hbel.size _).grown hg1 (by simp; exact Nat.le_succ_of_le hbel.size) (fun j hj => (hown.lt j hj).1)
                      have hown2 : w1.ownsRow w.heap.size 9 1 (.slice a1 ([[46, 46]]).length cap1) ([[46, 46]]).length (segVals ([[46, 46]])) := by exact hown1
                      clear hown1 hg1 hown hbel
                      go_wp2
                      exact ⟨⟨m, [[46, 46]], a1, cap1, rfl, rfl, HI.out, hown2, hbel1⟩, by simp [intOf]; omega⟩
                  | cons x r =>
                    obtain ⟨g, rfl, hcell⟩ := owns_at hown (by simp)
                    have hlast : wr.cell? ⟨g, r.length, none⟩ = some (.string ⟨x.toArray⟩) := hcell r.length _ (by rw [segVals_cons, List.getElem?_append_right (by rw [segVals_length]; exact Nat.le_refl _), segVals_length]; simp)
                    have hgl : g < wr.heap.size := World.block_lt_of_cell? wr _ hlast
                    have hrl : r.length + 1 ≤ k := by simpa using hfew
                    have hrc : r.length + 1 ≤ cap := by
                      rcases hown.2 with ⟨hv, _⟩ | ⟨g', cap', cur, hv, _, _, hc', _⟩
                      · cases hv
                      · cases hv; simpa using hc'
                    clear hcell hfew
                    by_cases hx : x = [46, 46]
                    · obtain ⟨hro', _⟩ := hnorm.2.2.2.1 hx
                      subst hro'
                      subst hx
                      have e1 : Lib.Pa.cleanStep false ([46, 46] :: r) (p.extract k m).toList = [46, 46] :: [46, 46] :: r := by rw [h2']; simp [Lib.Pa.cleanStep]
                      rw [e1] at HI
                      clear e1 h2'
                      go_wp2_with (at_builtin; go_must (refine wpList_append_own _ rfl _ _ 67 rfl w.heap.size 9 i9 (.string ⟨#[]⟩) 1 16 Tryf.underlying67 hi9 hz0 hz1 hz2 rfl (by decide) _ (r.length + 1) (segVals ([46, 46] :: r)) rfl (hown.alloc _) ⟨wr.heap.size, 0, none⟩ 1 1 [.string ⟨#[46, 46]⟩] rfl rfl (cell_one_new _ _ _) (by simp [Value.oneCell']) (by unfold maxLen; omega) (by omega) (by simp; exact Nat.le_succ_of_le hbel.size) ?_))
                      intro v1 w1 hown1 hg1 _
                      obtain ⟨a1, cap1, hv1⟩ := owns_shape hown1
                      rw [hv1]
                      rw [hv1] at hown1
                      have hbel1 : Below w.heap.size w w1 := (hbel.alloc hbel.size _).grown hg1 (by simp; exact Nat.le_succ_of_le hbel.size) (fun j hj => (hown.lt j hj).1)
                      have hown2 : w1.ownsRow w.heap.size 9 1 (.slice a1 ([46, 46] :: [46, 46] :: r).length cap1) ([46, 46] :: [46, 46] :: r).length (segVals ([46, 46] :: [46, 46] :: r)) := by rw [segVals_cons]; exact hown1
                      clear hown1 hg1 hown hbel
                      go_wp2
                      exact ⟨⟨m, [46, 46] :: [46, 46] :: r, a1, cap1, rfl, rfl, HI.out, hown2, hbel1⟩, by simp [intOf]; omega⟩
                    · have e1 : Lib.Pa.cleanStep ro (x :: r) (p.extract k m).toList = r := by rw [h2']; simp [Lib.Pa.cleanStep, hx]
                      rw [e1] at HI
                      clear e1 h2'
                      have hxb : (x == [46, 46]) = false := beq_eq_false_iff_ne.2 hx
                      have hown2 : wr.ownsRow w.heap.size 9 1 (.slice (some ⟨g, 0, none⟩) r.length cap) r.length (segVals r) := by
                        rw [segVals_cons] at hown
                        exact ownsRow_pop (by rw [segVals_length]; omega) hown
                      clear hown
                      go_wp2
                      exact ⟨⟨m, r, _, cap, rfl, rfl, HI.out, hown2, hbel⟩, by simp [intOf]; omega⟩
                | false =>
                  have e1 : Lib.Pa.cleanStep ro st (p.extract k m).toList = (p.extract k m).toList :: st := by
                    refine Lib.Pa.step_elem _ _ _ ?_ ?_ ?_
                    · intro e
                      have := congrArg List.length e
                      rw [ByteArray.toList_eq, Lib.extract_data, List.length_take, List.length_drop, ← Lib.size_eq] at this
                      simp at this
                      omega
                    · exact beq_eq_false_iff_ne.1 h1
                    · exact beq_eq_false_iff_ne.1 h2
                  rw [e1] at HI
                  clear e1
                  go_wp2_with (at_builtin; go_must (refine wpList_append_own _ rfl _ _ 67 rfl w.heap.size 9 i9 (.string ⟨#[]⟩) 1 16 Tryf.underlying67 hi9 hz0 hz1 hz2 rfl (by decide) _ st.length (segVals st) rfl (hown.alloc _) ⟨wr.heap.size, 0, none⟩ 1 1 [.string (p.extract k m)] rfl rfl (cell_one_new _ _ _) (by simp [Value.oneCell']) (by unfold maxLen; omega) (by omega) (by simp; exact Nat.le_succ_of_le hbel.size) ?_))
                  intro v1 w1 hown1 hg1 _
                  obtain ⟨a1, cap1, hv1⟩ := owns_shape hown1
                  rw [hv1]
                  rw [hv1] at hown1
                  have hbel1 : Below w.heap.size w w1 := (hbel.alloc hbel.size _).grown hg1 (by simp; exact Nat.le_succ_of_le hbel.size) (fun j hj => (hown.lt j hj).1)
                  have hown2 : w1.ownsRow w.heap.size 9 1 (.slice a1 ((p.extract k m).toList :: st).length cap1) ((p.extract k m).toList :: st).length (segVals ((p.extract k m).toList :: st)) := by rw [segVals_cons, seg_array]; exact hown1
                  clear hown1 hg1 hown hbel
                  go_wp2
                  exact ⟨⟨m, (p.extract k m).toList :: st, a1, cap1, rfl, rfl, HI.out, hown2, hbel1⟩, by simp [intOf]; omega⟩
            ·
              cases h1 : ((p.extract k m).toList == [46]) with
              | true =>
                have e1 : Lib.Pa.cleanStep ro st (p.extract k m).toList = st := by rw [beq_iff_eq.1 h1, Lib.Pa.step_dot]
                rw [e1] at HI
                clear e1
                go_wp2
                exact ⟨⟨m, st, a, cap, rfl, rfl, HI.out, hown, hbel⟩, by simp [intOf]; omega⟩
              | false =>
                cases h2 : ((p.extract k m).toList == [46, 46]) with
                | true =>
                  have h2' := beq_iff_eq.1 h2
                  cases st with
                  | nil =>
                    cases ro with
                    | true =>
                      have e1 : Lib.Pa.cleanStep true [] (p.extract k m).toList = [] := by rw [h2']; rfl
                      rw [e1] at HI
                      clear e1 h2'
                      go_wp2
                      exact ⟨⟨m, [], a, cap, rfl, rfl, HI.out, hown, hbel⟩, by simp [intOf]; omega⟩
                    | false =>
                      have e1 : Lib.Pa.cleanStep false [] (p.extract k m).toList = [[46, 46]] := by rw [h2']; rfl
                      rw [e1] at HI
                      clear e1 h2'
                      go_wp2_with (at_builtin; go_must (refine wpList_append_own _ rfl _ _ 67 rfl w.heap.size 9 i9 (.string ⟨#[]⟩) 1 16 Tryf.underlying67 hi9 hz0 hz1 hz2 rfl (by decide) _ 0 (segVals []) rfl (hown.alloc _) ⟨wr.heap.size, 0, none⟩ 1 1 [.string ⟨#[46, 46]⟩] rfl rfl (cell_one_new _ _ _) (by simp [Value.oneCell']) (by unfold maxLen; omega) (by omega) (by simp; exact Nat.le_succ_of_le hbel.size) ?_))
                      intro v1 w1 hown1 hg1 _
                      obtain ⟨a1, cap1, hv1⟩ := owns_shape hown1
                      rw [hv1]
                      rw [hv1] at hown1
                      have hbel1 : Below w.heap.size w w1 := (hbel.alloc hbel.size _).grown hg1 (by simp; exact Nat.le_succ_of_le hbel.size) (fun j hj => (hown.lt j hj).1)
                      have hown2 : w1.ownsRow w.heap.size 9 1 (.slice a1 ([[46, 46]]).length cap1) ([[46, 46]]).length (segVals ([[46, 46]])) := by exact hown1
                      clear hown1 hg1 hown hbel
                      go_wp2
                      exact ⟨⟨m, [[46, 46]], a1, cap1, rfl, rfl, HI.out, hown2, hbel1⟩, by simp [intOf]; omega⟩
                  | cons x r =>
                    obtain ⟨g, rfl, hcell⟩ := owns_at hown (by simp)
                    have hlast : wr.cell? ⟨g, r.length, none⟩ = some (.string ⟨x.toArray⟩) := hcell r.length _ (by rw [segVals_cons, List.getElem?_append_right (by rw [segVals_length]; exact Nat.le_refl _), segVals_length]; simp)
                    have hgl : g < wr.heap.size := World.block_lt_of_cell? wr _ hlast
                    have hrl : r.length + 1 ≤ k := by simpa using hfew
                    have hrc : r.length + 1 ≤ cap := by
                      rcases hown.2 with ⟨hv, _⟩ | ⟨g', cap', cur, hv, _, _, hc', _⟩
                      · cases hv
                      · cases hv; simpa using hc'
                    clear hcell hfew
                    by_cases hx : x = [46, 46]
                    · obtain ⟨hro', _⟩ := hnorm.2.2.2.1 hx
                      subst hro'
                      subst hx
                      have e1 : Lib.Pa.cleanStep false ([46, 46] :: r) (p.extract k m).toList = [46, 46] :: [46, 46] :: r := by rw [h2']; simp [Lib.Pa.cleanStep]
                      rw [e1] at HI
                      clear e1 h2'
                      go_wp2_with (at_builtin; go_must (refine wpList_append_own _ rfl _ _ 67 rfl w.heap.size 9 i9 (.string ⟨#[]⟩) 1 16 Tryf.underlying67 hi9 hz0 hz1 hz2 rfl (by decide) _ (r.length + 1) (segVals ([46, 46] :: r)) rfl (hown.alloc _) ⟨wr.heap.size, 0, none⟩ 1 1 [.string ⟨#[46, 46]⟩] rfl rfl (cell_one_new _ _ _) (by simp [Value.oneCell']) (by unfold maxLen; omega) (by omega) (by simp; exact Nat.le_succ_of_le hbel.size) ?_))
                      intro v1 w1 hown1 hg1 _
                      obtain ⟨a1, cap1, hv1⟩ := owns_shape hown1
                      rw [hv1]
                      rw [hv1] at hown1
                      have hbel1 : Below w.heap.size w w1 := (hbel.alloc hbel.size _).grown hg1 (by simp; exact Nat.le_succ_of_le hbel.size) (fun j hj => (hown.lt j hj).1)
                      have hown2 : w1.ownsRow w.heap.size 9 1 (.slice a1 ([46, 46] :: [46, 46] :: r).length cap1) ([46, 46] :: [46, 46] :: r).length (segVals ([46, 46] :: [46, 46] :: r)) := by rw [segVals_cons]; exact hown1
                      clear hown1 hg1 hown hbel
                      go_wp2
                      exact ⟨⟨m, [46, 46] :: [46, 46] :: r, a1, cap1, rfl, rfl, HI.out, hown2, hbel1⟩, by simp [intOf]; omega⟩
                    · have e1 : Lib.Pa.cleanStep ro (x :: r) (p.extract k m).toList = r := by rw [h2']; simp [Lib.Pa.cleanStep, hx]
                      rw [e1] at HI
                      clear e1 h2'
                      have hxb : (x == [46, 46]) = false := beq_eq_false_iff_ne.2 hx
                      have hown2 : wr.ownsRow w.heap.size 9 1 (.slice (some ⟨g, 0, none⟩) r.length cap) r.length (segVals r) := by
                        rw [segVals_cons] at hown
                        exact ownsRow_pop (by rw [segVals_length]; omega) hown
                      clear hown
                      go_wp2
                      exact ⟨⟨m, r, _, cap, rfl, rfl, HI.out, hown2, hbel⟩, by simp [intOf]; omega⟩
                | false =>
                  have e1 : Lib.Pa.cleanStep ro st (p.extract k m).toList = (p.extract k m).toList :: st := by
                    refine Lib.Pa.step_elem _ _ _ ?_ ?_ ?_
                    · intro e
                      have := congrArg List.length e
                      rw [ByteArray.toList_eq, Lib.extract_data, List.length_take, List.length_drop, ← Lib.size_eq] at this
                      simp at this
                      omega
                    · exact beq_eq_false_iff_ne.1 h1
                    · exact beq_eq_false_iff_ne.1 h2
                  rw [e1] at HI
                  clear e1
                  go_wp2_with (at_builtin; go_must (refine wpList_append_own _ rfl _ _ 67 rfl w.heap.size 9 i9 (.string ⟨#[]⟩) 1 16 Tryf.underlying67 hi9 hz0 hz1 hz2 rfl (by decide) _ st.length (segVals st) rfl (hown.alloc _) ⟨wr.heap.size, 0, none⟩ 1 1 [.string (p.extract k m)] rfl rfl (cell_one_new _ _ _) (by simp [Value.oneCell']) (by unfold maxLen; omega) (by omega) (by simp; exact Nat.le_succ_of_le hbel.size) ?_))
                  intro v1 w1 hown1 hg1 _
                  obtain ⟨a1, cap1, hv1⟩ := owns_shape hown1
                  rw [hv1]
                  rw [hv1] at hown1
                  have hbel1 : Below w.heap.size w w1 := (hbel.alloc hbel.size _).grown hg1 (by simp; exact Nat.le_succ_of_le hbel.size) (fun j hj => (hown.lt j hj).1)
                  have hown2 : w1.ownsRow w.heap.size 9 1 (.slice a1 ((p.extract k m).toList :: st).length cap1) ((p.extract k m).toList :: st).length (segVals ((p.extract k m).toList :: st)) := by rw [segVals_cons, seg_array]; exact hown1
                  clear hown1 hg1 hown hbel
                  go_wp2
                  exact ⟨⟨m, (p.extract k m).toList :: st, a1, cap1, rfl, rfl, HI.out, hown2, hbel1⟩, by simp [intOf]; omega⟩
end Go.Proofs.Qxb6604484aFmt
