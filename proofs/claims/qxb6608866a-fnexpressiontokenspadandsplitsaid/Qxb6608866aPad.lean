import Derived.Test.Qxb6608866aTokens
namespace Go.Proofs.Qxb6608866a
open Go.RowKit

theorem info5 : (Try.prog.info? 5).map (fun i => (i.zero, i.size, i.bytes)) = some (some (.int .u8 0), 1, 1) := by kernel_rfl

set_option maxRecDepth 100000 in
set_option maxHeartbeats 400000 in
theorem paren_calls (c : UInt8) (w : World) :
    Calls Try.prog 14 #[.int .u8 (c.toNat : Int)] w fun e w' => e = .returned (.bool (Pl.paren c)) ∧ w' = w := by
  cases h1 : ((c.toNat : Int) == 40) with
  | true =>
    have E1 : Hid (Pl.paren c = true) := by unfold Hid Pl.paren; rw [h1]; rfl
    go_enter Try.func14, Try.ntmps14
    go_wp2
    go_ret
    exact ⟨by rw [E1.out]; rfl, rfl⟩
  | false =>
    have E1 : Hid (Pl.paren c = ((c.toNat : Int) == 41)) := by unfold Hid Pl.paren; rw [h1]; rfl
    go_enter Try.func14, Try.ntmps14
    go_wp2
    go_ret
    exact ⟨by rw [E1.out]; rfl, rfl⟩

set_option maxRecDepth 100000 in
set_option maxHeartbeats 400000 in
theorem white_calls (c : UInt8) (w : World) :
    Calls Try.prog 13 #[.int .u8 (c.toNat : Int)] w fun e w' => e = .returned (.bool (Pl.white c)) ∧ w' = w := by
  cases h1 : ((c.toNat : Int) == 32) with
  | true =>
    have E1 : Hid (Pl.white c = true) := by unfold Hid Pl.white; rw [h1]; rfl
    go_enter Try.func13, Try.ntmps13
    go_wp2
    go_ret
    exact ⟨by rw [E1.out]; rfl, rfl⟩
  | false =>
    cases h2 : ((c.toNat : Int) == 9) with
    | true =>
      have E1 : Hid (Pl.white c = true) := by unfold Hid Pl.white; rw [h1, h2]; rfl
      go_enter Try.func13, Try.ntmps13
      go_wp2
      go_ret
      exact ⟨by rw [E1.out]; rfl, rfl⟩
    | false =>
      cases h3 : ((c.toNat : Int) == 10) with
      | true =>
        have E1 : Hid (Pl.white c = true) := by unfold Hid Pl.white; rw [h1, h2, h3]; rfl
        go_enter Try.func13, Try.ntmps13
        go_wp2
        go_ret
        exact ⟨by rw [E1.out]; rfl, rfl⟩
      | false =>
        have E1 : Hid (Pl.white c = ((c.toNat : Int) == 13)) := by unfold Hid Pl.white; rw [h1, h2, h3]; rfl
        go_enter Try.func13, Try.ntmps13
        go_wp2
        go_ret
        exact ⟨by rw [E1.out]; rfl, rfl⟩

theorem cell_three_new (w : World) (a b c : Value) (t : TypeId) : ∀ j u, [a, b, c][j]? = some u → (w.alloc (.cells #[a, b, c] t)).cell? ((⟨w.heap.size, 0, none⟩ : Addr).add j) = some u := by
  intro j u hj
  match j, hj with
  | 0, hj => simp at hj; subst hj; simp [Addr.add]
  | 1, hj => simp at hj; subst hj; simp [Addr.add]
  | 2, hj => simp at hj; subst hj; simp [Addr.add]
  | j + 3, hj => simp at hj

theorem take_snoc {l : List UInt8} {k : Nat} {c : UInt8} (h : l[k]? = some c) : l.take (k + 1) = l.take k ++ [c] := by
  rw [List.take_add_one, h]; rfl

theorem cells_app (a b : List UInt8) : Lib.byteCells (a ++ b) = Lib.byteCells a ++ Lib.byteCells b := by simp [Lib.byteCells]

theorem owns_at {w : World} {base : Nat} {e : TypeId} {a : Option Addr} {cap n : Nat} {xs : List Value} (h : w.ownsRow base e 1 (.slice a n cap) n xs) (hn : 0 < n) :
    ∃ g, a = some ⟨g, 0, none⟩ ∧ (∀ j u, xs[j]? = some u → w.cell? ⟨g, j, none⟩ = some u) ∧ n ≤ cap := by
  rcases h.2 with ⟨h1, h2⟩ | ⟨g, cap', cur, h1, _, _, hnc, _⟩
  · omega
  · have ha : a = some ⟨g, 0, none⟩ := by cases h1; rfl
    have hcap : cap = cap' := by cases h1; rfl
    subst ha
    subst hcap
    refine ⟨g, rfl, fun j u hj => ?_, hnc⟩
    have := h.cells (g := g) rfl j u hj
    have hadd : (⟨g, 0, none⟩ : Addr).add j = ⟨g, j, none⟩ := by unfold Addr.add; split <;> simp_all
    rwa [hadd] at this

theorem byteCells_at {d : List UInt8} {i : Nat} {c : UInt8} (h : d[i]? = some c) : (Lib.byteCells d)[i]? = some (.int .u8 (c.toNat : Int)) := by
  unfold Lib.byteCells
  rw [List.getElem?_map, h]; rfl

theorem apart_blocks {v u : Value} {N : Nat} (h1 : ∀ k, v.ownBlock = some k → k < N) (h2 : ∀ k, u.ownBlock = some k → N ≤ k) : v.ownBlock = none ∨ v.ownBlock ≠ u.ownBlock := by
  cases hv : v.ownBlock with
  | none => exact .inl rfl
  | some b =>
    right
    intro e
    have := h1 b hv
    have := h2 b e.symm
    omega

theorem conv_part {w : World} {g k i cap : Nat} {d : List UInt8} (hcell : ∀ j u, (Lib.byteCells d)[j]? = some u → w.cell? ⟨g, j, none⟩ = some u) (hk : k ≤ i) (hi : i ≤ d.length) :
    (convert 28 9 (.slice (some ⟨g, k, none⟩) (i - k) (cap - k))).run Try.prog w = .ok (.string ⟨(Pl.cur d (some k) i).toArray⟩) w := by
  have hl : (Pl.cur d (some k) i).length = i - k := by
    show ((d.drop k).take (i - k)).length = _
    rw [List.length_take, List.length_drop]; omega
  have h := run_convert_bytes_back (P := Try.prog) w 28 9 5 ⟨g, k, none⟩ (cap - k) (Pl.cur d (some k) i) Try.underlying28 Try.underlying5 Try.underlying9 (fun j hj => by
    have hadd : (⟨g, k, none⟩ : Addr).add j = ⟨g, k + j, none⟩ := by unfold Addr.add; split <;> simp_all
    rw [hadd]
    have hj2 : j < i - k := by rw [hl] at hj; exact hj
    refine hcell (k + j) _ (byteCells_at ?_)
    have e : (Pl.cur d (some k) i)[j]? = some (Pl.cur d (some k) i)[j] := List.getElem?_eq_getElem hj
    have e2 : (Pl.cur d (some k) i)[j]? = d[k + j]? := by
      show ((d.drop k).take (i - k))[j]? = _
      rw [List.getElem?_take, if_pos hj2, List.getElem?_drop]
    rw [← e2, e])
  rw [hl] at h
  exact h

def JI (d : List UInt8) (i : Nat) (s : Option Nat) (out : List (List UInt8)) : Prop := Pl.FI d i s out ∨ (i = d.length + 1 ∧ s = none ∧ out = Pl.flds [] d ∧ out.length ≤ i)

set_option maxRecDepth 100000 in
set_option maxHeartbeats 2000000 in
theorem pad_calls (p : ByteArray) (w : World) (hp : p.size ≤ 1048576) :
    Calls Try.prog 10 #[.string p] w fun e w' => ∃ v B, e = .returned v ∧ w.heap.size ≤ B ∧ w'.ownsRow B 9 1 v (Pl.tks [] p.data.toList).length (strVals (Pl.tks [] p.data.toList)) ∧ Below w.heap.size w w' := by
  obtain ⟨i5, hi5, hz0, hz1, hz2⟩ := info_parts info5
  obtain ⟨i9, hi9, hy0, hy1, hy2⟩ := info_parts info9
  go_enter Try.func10, Try.ntmps10
  go_wp2_with (at_make; go_must (refine wpList_make_own _ rfl _ _ 28 rfl w.heap.size 5 i5 (.int .u8 0) 1 Try.underlying28 hi5 hz0 hz1 _ _ _ (3 * p.size) rfl rfl (by omega) (by rw [hz2]; omega) (by unfold maxLen; omega) (Nat.le_refl _) ?_))
  intro w0 hb0 hg0
  have hbel0 : Below w.heap.size w w0 := (Below.refl _ _).grown hg0 (Nat.le_refl _) (fun j hj => by cases hj)
  clear hg0
  go_wp2
  go_loopw [3, 4] (fun v i wr => ∃ (k : Nat) (a : Option Addr) (cap : Nat), k ≤ p.size ∧ v = .slice a (Pl.pad (p.data.toList.take k)).length cap ∧ i = .int .i64 k ∧ wr.ownsRow w.heap.size 5 1 v (Pl.pad (p.data.toList.take k)).length (Lib.byteCells (Pl.pad (p.data.toList.take k))) ∧ Below w.heap.size w wr)
    (fun _ i _ => p.size - (intOf i).toNat)
  case atStart => exact ⟨0, _, _, Nat.zero_le _, rfl, rfl, hb0, hbel0⟩
  case round =>
    obtain ⟨k, a, cap, hk, rfl, rfl, hown, hbel⟩ := hrel
    by_cases hlt : k < p.size
    case pos =>
      have hkc : p.data.toList[k]? = some p[k] := at_eq p k hlt
      have hpl : (Pl.pad (p.data.toList.take k)).length ≤ 3 * k := Nat.le_trans (Pl.pad_le _) (by rw [List.length_take]; omega)
      have PS : Hid (Pl.pad (p.data.toList.take (k + 1)) = Pl.pad (p.data.toList.take k) ++ Pl.padOne p[k]) := by rw [Hid, take_snoc hkc, Pl.pad_snoc]
      clear hkc
      generalize Pl.pad (p.data.toList.take k) = d at *
      cases hpn : Pl.paren p[k] with
      | true =>
        have PO : Hid (Pl.padOne p[k] = [32, p[k], 32]) := by unfold Hid Pl.padOne; rw [if_pos hpn]
        go_wp2_with fail
        refine (paren_calls p[k] wr).mono ?_
        rintro e w1 ⟨rfl, rfl⟩
        rw [hpn]
        go_wp2_with (at_builtin; go_must (refine wpList_append_own _ rfl _ _ 28 rfl w.heap.size 5 i5 (.int .u8 0) 1 1 Try.underlying28 hi5 hz0 hz1 hz2 rfl (by decide) _ d.length (Lib.byteCells d) rfl (hown.alloc _) ⟨w1.heap.size, 0, none⟩ 3 3 [.int .u8 32, .int .u8 (p[k].toNat : Int), .int .u8 32] rfl rfl (cell_three_new _ _ _ _ _) (by simp [Value.oneCell']) (by unfold maxLen; omega) (by omega) (by simp; exact Nat.le_succ_of_le hbel.size) ?_))
        intro v2 w2 ho2 hg2 _
        have hbel2 : Below w.heap.size w w2 := (hbel.alloc hbel.size _).grown hg2 (by simp; exact Nat.le_succ_of_le hbel.size) (fun j hj => (hown.lt j hj).1)
        obtain ⟨a2, cap2, hv2⟩ := owns_shape ho2
        rw [hv2]
        rw [hv2] at ho2
        have hown2 : w2.ownsRow w.heap.size 5 1 (.slice a2 (d.length + 3) cap2) (Pl.pad (p.data.toList.take (k + 1))).length (Lib.byteCells (Pl.pad (p.data.toList.take (k + 1)))) := by rw [PS.out, PO.out, cells_app, List.length_append]; exact ho2
        clear ho2 hg2 hown hbel
        go_wp2
        exact ⟨⟨k + 1, a2, cap2, by omega, by rw [PS.out, PO.out, List.length_append]; rfl, by go_num, hown2, hbel2⟩, by simp [intOf]; omega⟩
      | false =>
        have PO : Hid (Pl.padOne p[k] = [p[k]]) := by unfold Hid Pl.padOne; rw [if_neg (by rw [hpn]; simp)]
        go_wp2_with fail
        refine (paren_calls p[k] wr).mono ?_
        rintro e w1 ⟨rfl, rfl⟩
        rw [hpn]
        go_wp2_with (at_builtin; go_must (refine wpList_append_own _ rfl _ _ 28 rfl w.heap.size 5 i5 (.int .u8 0) 1 1 Try.underlying28 hi5 hz0 hz1 hz2 rfl (by decide) _ d.length (Lib.byteCells d) rfl (hown.alloc _) ⟨w1.heap.size, 0, none⟩ 1 1 [.int .u8 (p[k].toNat : Int)] rfl rfl (cell_one_new _ _ _) (by simp [Value.oneCell']) (by unfold maxLen; omega) (by omega) (by simp; exact Nat.le_succ_of_le hbel.size) ?_))
        intro v2 w2 ho2 hg2 _
        have hbel2 : Below w.heap.size w w2 := (hbel.alloc hbel.size _).grown hg2 (by simp; exact Nat.le_succ_of_le hbel.size) (fun j hj => (hown.lt j hj).1)
        obtain ⟨a2, cap2, hv2⟩ := owns_shape ho2
        rw [hv2]
        rw [hv2] at ho2
        have hown2 : w2.ownsRow w.heap.size 5 1 (.slice a2 (d.length + 1) cap2) (Pl.pad (p.data.toList.take (k + 1))).length (Lib.byteCells (Pl.pad (p.data.toList.take (k + 1)))) := by rw [PS.out, PO.out, cells_app, List.length_append]; exact ho2
        clear ho2 hg2 hown hbel
        go_wp2
        exact ⟨⟨k + 1, a2, cap2, by omega, by rw [PS.out, PO.out, List.length_append]; rfl, by go_num, hown2, hbel2⟩, by simp [intOf]; omega⟩
    case neg =>
      obtain rfl : k = p.size := by omega
      have ht : p.data.toList.take p.size = p.data.toList := List.take_of_length_le (by rw [← Lib.size_eq]; exact Nat.le_refl _)
      rw [ht] at hown
      rw [ht]
      have hpl : (Pl.pad p.data.toList).length ≤ 3145728 := Nat.le_trans (Pl.pad_le _) (by rw [← Lib.size_eq]; omega)
      have HF : Hid (Pl.flds [] (Pl.pad p.data.toList) = Pl.tks [] p.data.toList) := Pl.flds_pad _ _
      clear ht hb0 hbel0
      generalize Pl.pad p.data.toList = d at *
      obtain ⟨wo, rfl⟩ : ∃ wo : World, wo = wr := ⟨_, rfl⟩
      have HLT : Hid (∀ j, (Value.slice a d.length cap).ownBlock = some j → w.heap.size ≤ j ∧ j < wo.heap.size) := hown.lt
      have HW : Hid (w.heap.size ≤ wo.heap.size) := hbel.size
      go_wp2
      go_loopw [6, 7, 8] (fun v st iv wr => ∃ (i : Nat) (s : Option Nat) (out : List (List UInt8)) (a2 : Option Addr) (cap2 : Nat), v = .slice a2 out.length cap2 ∧ st = .int .i64 (stI s) ∧ iv = .int .i64 i ∧ JI d i s out ∧ wr.ownsRow w.heap.size 5 1 (.slice a d.length cap) d.length (Lib.byteCells d) ∧ wr.ownsRow wo.heap.size 9 1 v out.length (strVals out) ∧ Below w.heap.size w wr ∧ wo.heap.size ≤ wr.heap.size)
        (fun _ _ iv _ => d.length + 1 - (intOf iv).toNat)
      case atStart => exact ⟨0, none, [], none, 0, rfl, rfl, rfl, .inl (Pl.fi_start _), hown, World.ownsRow_nil _ _ _ _, hbel, Nat.le_refl _⟩
      case round =>
        clear hown hbel
        obtain ⟨i, s, out, a2, cap2, rfl, rfl, rfl, hJ, hpad, hown, hbel, hwz⟩ := hrel
        by_cases hle : i ≤ d.length
        case neg =>
          have E1 : Hid (out = Pl.tks [] p.data.toList) := by
            rcases hJ with h | ⟨_, _, h, _⟩
            · exact absurd h.le hle
            · rw [Hid, h, HF.out]
          clear hJ
          go_wp2
          go_ret
          exact ⟨_, wo.heap.size, rfl, HW.out, by rw [← E1.out]; exact hown, hbel⟩
        case pos =>
          have hI : Pl.FI d i s out := by
            rcases hJ with h | ⟨h, _⟩
            · exact h
            · omega
          clear hJ
          have hfew := hI.few
          by_cases heq : i = d.length
          case pos =>
            have beq : ((i : Int) == (d.length : Int)) = true := beq_iff_eq.2 (by omega)
            have HE := Pl.fi_end hI (by omega)
            cases s with
            | none =>
              have J2 : Hid (JI d (i + 1) none out) := by
                refine .inr ⟨by omega, rfl, ?_, by omega⟩
                rw [← HE]; simp [Pl.cur, Pl.flush_nil]
              clear hI HE heq
              simp only [stI]
              go_wp2
              go_roundw
              case rel => exact ⟨i + 1, none, out, a2, cap2, rfl, rfl, by go_num, J2.out, hpad, hown, hbel, hwz⟩
              case measure => simp [intOf]; omega
            | some k =>
              have hko := hI.opn k rfl
              rw [flush_some hko (by omega)] at HE
              have J2 : Hid (JI d (i + 1) none (out ++ [Pl.cur d (some k) i])) := .inr ⟨by omega, rfl, HE, by simp; omega⟩
              clear hI HE
              simp only [stI]
              clear heq
              obtain ⟨g, rfl, hcell, hnc⟩ := owns_at hpad (by omega)
              have hcv := conv_part (cap := cap) hcell (Nat.le_of_lt hko) hle
              have hap := apart_blocks (fun j hj => (HLT.out j hj).2) (fun j hj => (hown.lt j hj).1)
              have HAP : Hid ((Value.slice (some ⟨g, 0, none⟩) d.length cap).ownBlock = none ∨ (Value.slice (some ⟨g, 0, none⟩) d.length cap).ownBlock ≠ (Value.slice a2 out.length cap2).ownBlock) := hap
              clear hap hcell
              go_wp2_with (at_builtin; go_must (refine wpList_append_own _ rfl _ _ 23 rfl wo.heap.size 9 i9 (.string ⟨#[]⟩) 1 16 Try.underlying23 hi9 hy0 hy1 hy2 rfl (by decide) _ out.length (strVals out) rfl (hown.alloc _) ⟨wr.heap.size, 0, none⟩ 1 1 [.string ⟨(Pl.cur d (some k) i).toArray⟩] rfl rfl (cell_one_new _ _ _) (by simp [Value.oneCell']) (by unfold maxLen; omega) (by omega) (by simp; omega) ?_))
              intro v4 w4 ho4 hg4 _
              have hpad4 := (hpad.alloc _).kept hg4 HAP.out
              have hbel4 : Below w.heap.size w w4 := (hbel.alloc hbel.size _).grown hg4 (by simp; exact Nat.le_succ_of_le hbel.size) (fun j hj => Nat.le_trans HW.out (hown.lt j hj).1)
              have hwz4 : wo.heap.size ≤ w4.heap.size := Nat.le_trans hwz (Nat.le_trans (by simp) hg4.size)
              obtain ⟨a4, cap4, hv4⟩ := owns_shape ho4
              rw [hv4]
              rw [hv4] at ho4
              have hown4 : w4.ownsRow wo.heap.size 9 1 (.slice a4 (out.length + 1) cap4) (out ++ [Pl.cur d (some k) i]).length (strVals (out ++ [Pl.cur d (some k) i])) := by rw [strVals_app, List.length_append]; exact ho4
              clear ho4 hg4 hown hbel hpad hcv
              go_wp2
              go_roundw
              case rel => exact ⟨i + 1, none, out ++ [Pl.cur d (some k) i], a4, cap4, by rw [List.length_append]; rfl, rfl, by go_num, J2.out, hpad4, hown4, hbel4, hwz4⟩
              case measure => simp [intOf]; omega
          case neg =>
            have hlt2 : i < d.length := by omega
            have bne' : ((i : Int) == (d.length : Int)) = false := beq_eq_false_iff_ne.2 (by omega)
            obtain ⟨c, hc⟩ : ∃ c, d[i]? = some c := ⟨_, List.getElem?_eq_getElem hlt2⟩
            obtain ⟨g0, hg0, hcell0, hnc0⟩ := owns_at hpad (by omega)
            subst hg0
            have hci := hcell0 i _ (byteCells_at hc)
            have hgl : g0 < wr.heap.size := World.block_lt_of_cell? wr _ hci
            clear hcell0 heq
            cases hw : Pl.white c with
            | true =>
              have J1 := Pl.fi_white hI hc hw
              cases s with
              | none =>
                have J2 : Hid (JI d (i + 1) none out) := by
                  have e : out ++ Pl.flush (Pl.cur d none i) = out := by simp [Pl.cur, Pl.flush_nil]
                  rw [e] at J1
                  exact .inl J1
                clear hI hc J1
                simp only [stI]
                go_wp2_with fail
                refine (white_calls c wr).mono ?_
                rintro e w3 ⟨rfl, rfl⟩
                rw [hw]
                go_wp2
                go_roundw
                case rel => exact ⟨i + 1, none, out, a2, cap2, rfl, rfl, by go_num, J2.out, hpad, hown, hbel, hwz⟩
                case measure => simp [intOf]; omega
              | some k =>
                have hko := hI.opn k rfl
                rw [flush_some hko hle] at J1
                have J2 : Hid (JI d (i + 1) none (out ++ [Pl.cur d (some k) i])) := .inl J1
                clear hI hc J1
                simp only [stI]
                go_wp2_with fail
                refine (white_calls c wr).mono ?_
                rintro e w3 ⟨rfl, rfl⟩
                rw [hw]
                obtain ⟨g, hge, hcell, hnc⟩ := owns_at hpad (by omega)
                cases hge
                have hcv := conv_part (cap := cap) hcell (Nat.le_of_lt hko) hle
                have hap := apart_blocks (fun j hj => (HLT.out j hj).2) (fun j hj => (hown.lt j hj).1)
                have HAP : Hid ((Value.slice (some ⟨g0, 0, none⟩) d.length cap).ownBlock = none ∨ (Value.slice (some ⟨g0, 0, none⟩) d.length cap).ownBlock ≠ (Value.slice a2 out.length cap2).ownBlock) := hap
                clear hap hcell hci
                go_wp2_with (at_builtin; go_must (refine wpList_append_own _ rfl _ _ 23 rfl wo.heap.size 9 i9 (.string ⟨#[]⟩) 1 16 Try.underlying23 hi9 hy0 hy1 hy2 rfl (by decide) _ out.length (strVals out) rfl (hown.alloc _) ⟨w3.heap.size, 0, none⟩ 1 1 [.string ⟨(Pl.cur d (some k) i).toArray⟩] rfl rfl (cell_one_new _ _ _) (by simp [Value.oneCell']) (by unfold maxLen; omega) (by omega) (by simp; omega) ?_))
                intro v4 w4 ho4 hg4 _
                have hpad4 := (hpad.alloc _).kept hg4 HAP.out
                have hbel4 : Below w.heap.size w w4 := (hbel.alloc hbel.size _).grown hg4 (by simp; exact Nat.le_succ_of_le hbel.size) (fun j hj => Nat.le_trans HW.out (hown.lt j hj).1)
                have hwz4 : wo.heap.size ≤ w4.heap.size := Nat.le_trans hwz (Nat.le_trans (by simp) hg4.size)
                obtain ⟨a4, cap4, hv4⟩ := owns_shape ho4
                rw [hv4]
                rw [hv4] at ho4
                have hown4 : w4.ownsRow wo.heap.size 9 1 (.slice a4 (out.length + 1) cap4) (out ++ [Pl.cur d (some k) i]).length (strVals (out ++ [Pl.cur d (some k) i])) := by rw [strVals_app, List.length_append]; exact ho4
                clear ho4 hg4 hown hbel hpad hcv
                go_wp2
                go_roundw
                case rel => exact ⟨i + 1, none, out ++ [Pl.cur d (some k) i], a4, cap4, by rw [List.length_append]; rfl, rfl, by go_num, J2.out, hpad4, hown4, hbel4, hwz4⟩
                case measure => simp [intOf]; omega
            | false =>
              have J2 : Hid (JI d (i + 1) (some (s.getD i)) out) := .inl (Pl.fi_other hI hc hw)
              cases s with
              | none =>
                clear hI hc
                simp only [stI]
                go_wp2_with fail
                refine (white_calls c wr).mono ?_
                rintro e w3 ⟨rfl, rfl⟩
                rw [hw]
                go_wp2
                go_roundw
                case rel => exact ⟨i + 1, some i, out, a2, cap2, rfl, rfl, by go_num, J2.out, hpad, hown, hbel, hwz⟩
                case measure => simp [intOf]; omega
              | some k =>
                have hko := hI.opn k rfl
                clear hI hc
                simp only [stI]
                go_wp2_with fail
                refine (white_calls c wr).mono ?_
                rintro e w3 ⟨rfl, rfl⟩
                rw [hw]
                go_wp2
                go_roundw
                case rel => exact ⟨i + 1, some k, out, a2, cap2, rfl, rfl, by go_num, J2.out, hpad, hown, hbel, hwz⟩
                case measure => simp [intOf]; omega

end Go.Proofs.Qxb6608866a
