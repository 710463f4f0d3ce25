import Derived.Test.Qxb6606305aDecode
import Derived.Lib.PathFns
namespace Go.Proofs.Qxb6606305a
open Go.RowKit

theorem info5 : (Try.prog.info? 5).map (fun i => (i.zero, i.size, i.bytes)) = some (some (.int .u8 0), 1, 1) := by kernel_rfl

set_option maxRecDepth 100000 in
set_option maxHeartbeats 400000 in
theorem zz_calls (p : ByteArray) (m : Int) (w : World) (hp : p.size ≤ 1048576) (hm : w.cell? ⟨0, 0, none⟩ = some (.int .i64 m)) :
    Calls Try.prog 7 #[.string p] w fun e w' => e = .returned (.tuple #[.string ⟨(Pl.dec p.data.toList).toArray⟩, .bool (Pl.has p.data.toList)]) ∧ Below w.heap.size w w' := by
  go_enter Try.func7, Try.ntmps7
  go_wp2_with fail
  refine (decode_calls p m w hp hm).mono ?_
  rintro e w1 ⟨rfl, hb⟩
  go_wp2
  go_ret2
  exact ⟨rfl, hb⟩

theorem owns_shape {w : World} {base : Nat} {e : TypeId} {size : Nat} {v : Value} {n : Nat} {xs : List Value} (h : w.ownsRow base e size v n xs) : ∃ a cap, v = .slice a n cap := by
  rcases h.2 with ⟨h1, h2⟩ | ⟨g, cap, cur, h1, _⟩
  · exact ⟨none, 0, by rw [h1, h2]⟩
  · exact ⟨_, _, h1⟩

theorem convert_own {w : World} {base : Nat} {a : Option Addr} {cap : Nat} {l : List UInt8} (h : w.ownsRow base 5 1 (.slice a l.length cap) l.length (Lib.byteCells l)) : (convert 26 9 (.slice a l.length cap)).run Try.prog w = .ok (.string ⟨l.toArray⟩) w := by
  rcases h.2 with ⟨h1, h2⟩ | ⟨g, cap', cur, h1, _⟩
  · have hl : l = [] := List.eq_nil_of_length_eq_zero h2
    subst hl
    cases h1
    rw [run_convert_bytes_string w 26 9 5 none _ 0 Try.underlying26 Try.underlying5 Try.underlying9]
    rfl
  · have ha : a = some ⟨g, 0, none⟩ := by cases h1; rfl
    subst ha
    have hc := h.cells (g := g) rfl
    refine run_convert_bytes_back w 26 9 5 ⟨g, 0, none⟩ cap l Try.underlying26 Try.underlying5 Try.underlying9 (fun j hj => ?_)
    exact hc j _ (by unfold Lib.byteCells; rw [List.getElem?_map, List.getElem?_eq_getElem hj]; rfl)

/-- What holds where the model's scanner stands at place k. -/
structure MI (l : List UInt8) (k : Nat) (out : List UInt8) (fnd : Bool) : Prop where
  le : k ≤ l.length
  eq : out ++ Pl.dec (l.drop k) = Pl.dec l
  flag : (fnd || Pl.has (l.drop k)) = Pl.has l
  len : out.length ≤ k

theorem mi_start (l : List UInt8) : MI l 0 [] false := ⟨Nat.zero_le _, rfl, rfl, Nat.le_refl _⟩

theorem mi_copy {l out : List UInt8} {k : Nat} {fnd : Bool} {c : UInt8} (h : MI l k out fnd) (hc : l[k]? = some c) (hn : Pl.code (l.drop k) = none) : MI l (k + 1) (out ++ [c]) fnd := by
  obtain ⟨e1, e2⟩ := Pl.at_miss hc hn
  have hlt := (List.getElem?_eq_some_iff.1 hc).1
  refine ⟨hlt, ?_, ?_, ?_⟩
  · rw [← h.eq, e1]; simp
  · rw [← h.flag, e2]
  · have := h.len; simp; omega

theorem mi_hit {l out : List UInt8} {k : Nat} {fnd : Bool} {d : UInt8} (h : MI l k out fnd) (hn : Pl.code (l.drop k) = some d) : MI l (k + 3) (out ++ [d]) true := by
  obtain ⟨e1, e2⟩ := Pl.at_hit hn
  obtain ⟨_, _, c, h2, _⟩ := Pl.code_some hn
  have hlt := (List.getElem?_eq_some_iff.1 h2).1
  refine ⟨hlt, ?_, ?_, ?_⟩
  · rw [← h.eq, e1]; simp
  · rw [← h.flag, e2]; simp
  · have := h.len; simp; omega

theorem mi_end {l out : List UInt8} {k : Nat} {fnd : Bool} (h : MI l k out fnd) (hk : l.length ≤ k) : out = Pl.dec l ∧ fnd = Pl.has l := by
  have e1 := h.eq
  have e2 := h.flag
  rw [List.drop_eq_nil_of_le hk] at e1 e2
  rw [Pl.dec_nil, List.append_nil] at e1
  rw [Pl.has_nil, Bool.or_false] at e2
  exact ⟨e1, e2⟩

theorem beqv (a c : UInt8) : ((a.toNat : Int) == (c.toNat : Int)) = (a == c) := Lib.Pa.beq_lit a c
theorem beq37 (a : UInt8) : ((a.toNat : Int) == 37) = (a == 37) := beqv a 37
theorem beq50 (a : UInt8) : ((a.toNat : Int) == 50) = (a == 50) := beqv a 50
theorem beq70 (a : UInt8) : ((a.toNat : Int) == 70) = (a == 70) := beqv a 70
theorem beq102 (a : UInt8) : ((a.toNat : Int) == 102) = (a == 102) := beqv a 102
theorem beq69 (a : UInt8) : ((a.toNat : Int) == 69) = (a == 69) := beqv a 69
theorem beq101 (a : UInt8) : ((a.toNat : Int) == 101) = (a == 101) := beqv a 101

set_option maxRecDepth 100000 in
set_option maxHeartbeats 1000000 in
theorem model_calls (p : ByteArray) (w : World) (hp : p.size ≤ 1048576) :
    Calls Try.prog 8 #[.string p] w fun e w' => e = .returned (.tuple #[.string ⟨(Pl.dec p.data.toList).toArray⟩, .bool (Pl.has p.data.toList)]) ∧ Below w.heap.size w w' := by
  obtain ⟨i5, hi5, hz0, hz1, hz2⟩ := info_parts info5
  go_enter Try.func8, Try.ntmps8
  go_wp2_with (at_make; go_must (refine wpList_make_own _ rfl _ _ 26 rfl w.heap.size 5 i5 (.int .u8 0) 1 Try.underlying26 hi5 hz0 hz1 _ _ _ p.size rfl rfl (by omega) (by rw [hz2]; omega) (by unfold maxLen; omega) (Nat.le_refl _) ?_))
  intro w0 hb0 hg0
  have hbel0 : Below w.heap.size w w0 := (Below.refl _ _).grown hg0 (Nat.le_refl _) (fun j hj => by cases hj)
  clear hg0
  go_wp2
  go_loopw [4, 5, 6] (fun v f i wr => ∃ (k : Nat) (out : List UInt8) (fnd : Bool) (a : Option Addr) (cap : Nat), v = .slice a out.length cap ∧ f = .bool fnd ∧ i = .int .i64 k ∧ MI p.data.toList k out fnd ∧ wr.ownsRow w.heap.size 5 1 v out.length (Lib.byteCells out) ∧ Below w.heap.size w wr)
    (fun _ _ i _ => p.size - (intOf i).toNat)
  case atStart => exact ⟨0, [], false, _, _, rfl, rfl, rfl, mi_start _, hb0, hbel0⟩
  case round =>
    obtain ⟨k, out, fnd, a, cap, rfl, rfl, rfl, hI, hown, hbel⟩ := hrel
    by_cases hlt : k < p.size
    case neg =>
      have E1 : Hid (out = Pl.dec p.data.toList ∧ fnd = Pl.has p.data.toList) := mi_end hI (by rw [← Lib.size_eq]; omega)
      have hcv := convert_own hown
      clear hI
      go_wp2
      go_ret2
      exact ⟨by rw [← E1.out.1, ← E1.out.2]; rfl, hbel⟩
    case pos =>
      have hl1 := hI.len
      have hk : p.data.toList[k]? = some p[k] := at_eq p k hlt
      cases h37 : ((p[k].toNat : Int) == 37) with
      | false =>
        have hnone : Pl.code (p.data.toList.drop k) = none := Pl.none_of (by rw [hk]; intro e; rw [beq37] at h37; exact beq_eq_false_iff_ne.1 h37 (Option.some.inj e))
        have MI2 : Hid (MI p.data.toList (k + 1) (out ++ [p[k]]) fnd) := mi_copy hI hk hnone
        clear hI hk hnone
        go_wp2_with (at_builtin; go_must (refine wpList_append_own _ rfl _ _ 26 rfl w.heap.size 5 i5 (.int .u8 0) 1 1 Try.underlying26 hi5 hz0 hz1 hz2 rfl (by decide) _ out.length (Lib.byteCells out) rfl (hown.alloc _) ⟨wr.heap.size, 0, none⟩ 1 1 [.int .u8 (p[k].toNat : Int)] rfl rfl (cell_one_new _ _ _) (by simp [Value.oneCell']) (by unfold maxLen; omega) (by omega) (by simp; exact Nat.le_succ_of_le hbel.size) ?_))
        intro v1 w1 hown1 hg1 _
        obtain ⟨a1, cap1, hv1⟩ := owns_shape hown1
        rw [hv1]
        rw [hv1] at hown1
        have hbel1 : Below w.heap.size w w1 := (hbel.alloc hbel.size _).grown hg1 (by simp; exact Nat.le_succ_of_le hbel.size) (fun j hj => (hown.lt j hj).1)
        have hown2 : w1.ownsRow w.heap.size 5 1 (.slice a1 (out.length + 1) cap1) (out ++ [p[k]]).length (Lib.byteCells (out ++ [p[k]])) := by rw [cells_app, List.length_append]; exact hown1
        clear hown1 hg1 hown hbel
        go_wp2
        exact ⟨⟨k + 1, out ++ [p[k]], fnd, a1, cap1, by simp, rfl, by go_num, MI2.out, hown2, hbel1⟩, by simp [intOf]; omega⟩
      | true =>
        have e37 : p[k] = 37 := by rw [beq37] at h37; exact beq_iff_eq.1 h37
        have E37 : Hid (p[k] = 37) := e37
        clear e37
        by_cases hr : k + 2 < p.size
        case neg =>
          have hnone : Pl.code (p.data.toList.drop k) = none := Pl.none_short (by rw [← Lib.size_eq]; omega)
          have MI2 : Hid (MI p.data.toList (k + 1) (out ++ [p[k]]) fnd) := mi_copy hI hk hnone
          clear hI hk hnone
          go_wp2_with (at_builtin; go_must (refine wpList_append_own _ rfl _ _ 26 rfl w.heap.size 5 i5 (.int .u8 0) 1 1 Try.underlying26 hi5 hz0 hz1 hz2 rfl (by decide) _ out.length (Lib.byteCells out) rfl (hown.alloc _) ⟨wr.heap.size, 0, none⟩ 1 1 [.int .u8 (p[k].toNat : Int)] rfl rfl (cell_one_new _ _ _) (by simp [Value.oneCell']) (by unfold maxLen; omega) (by omega) (by simp; exact Nat.le_succ_of_le hbel.size) ?_))
          intro v1 w1 hown1 hg1 _
          obtain ⟨a1, cap1, hv1⟩ := owns_shape hown1
          rw [hv1]
          rw [hv1] at hown1
          have hbel1 : Below w.heap.size w w1 := (hbel.alloc hbel.size _).grown hg1 (by simp; exact Nat.le_succ_of_le hbel.size) (fun j hj => (hown.lt j hj).1)
          have hown2 : w1.ownsRow w.heap.size 5 1 (.slice a1 (out.length + 1) cap1) (out ++ [p[k]]).length (Lib.byteCells (out ++ [p[k]])) := by rw [cells_app, List.length_append]; exact hown1
          clear hown1 hg1 hown hbel
          go_wp2
          exact ⟨⟨k + 1, out ++ [p[k]], fnd, a1, cap1, by simp, rfl, by go_num, MI2.out, hown2, hbel1⟩, by simp [intOf]; omega⟩
        case pos =>
          have hr1 : k + 1 < p.size := by omega
          have hk1 : p.data.toList[k + 1]? = some p[k + 1] := at_eq p (k + 1) hr1
          have hk2 : p.data.toList[k + 2]? = some p[k + 2] := at_eq p (k + 2) hr
          cases h50 : ((p[k + 1].toNat : Int) == 50) with
          | false =>
            have hnone : Pl.code (p.data.toList.drop k) = none := by
              cases hc : Pl.code (p.data.toList.drop k) with
              | none => rfl
              | some d =>
                obtain ⟨_, h1, _⟩ := Pl.code_some hc
                rw [hk1] at h1
                rw [beq50] at h50
                exact absurd (Option.some.inj h1) (beq_eq_false_iff_ne.1 h50)
            clear hk1 hk2
            have MI2 : Hid (MI p.data.toList (k + 1) (out ++ [p[k]]) fnd) := mi_copy hI hk hnone
            clear hI hk hnone
            go_wp2_with (at_builtin; go_must (refine wpList_append_own _ rfl _ _ 26 rfl w.heap.size 5 i5 (.int .u8 0) 1 1 Try.underlying26 hi5 hz0 hz1 hz2 rfl (by decide) _ out.length (Lib.byteCells out) rfl (hown.alloc _) ⟨wr.heap.size, 0, none⟩ 1 1 [.int .u8 (p[k].toNat : Int)] rfl rfl (cell_one_new _ _ _) (by simp [Value.oneCell']) (by unfold maxLen; omega) (by omega) (by simp; exact Nat.le_succ_of_le hbel.size) ?_))
            intro v1 w1 hown1 hg1 _
            obtain ⟨a1, cap1, hv1⟩ := owns_shape hown1
            rw [hv1]
            rw [hv1] at hown1
            have hbel1 : Below w.heap.size w w1 := (hbel.alloc hbel.size _).grown hg1 (by simp; exact Nat.le_succ_of_le hbel.size) (fun j hj => (hown.lt j hj).1)
            have hown2 : w1.ownsRow w.heap.size 5 1 (.slice a1 (out.length + 1) cap1) (out ++ [p[k]]).length (Lib.byteCells (out ++ [p[k]])) := by rw [cells_app, List.length_append]; exact hown1
            clear hown1 hg1 hown hbel
            go_wp2
            exact ⟨⟨k + 1, out ++ [p[k]], fnd, a1, cap1, by simp, rfl, by go_num, MI2.out, hown2, hbel1⟩, by simp [intOf]; omega⟩
          | true =>
            have e50 : p[k + 1] = 50 := by rw [beq50] at h50; exact beq_iff_eq.1 h50
            have hcode : Pl.code (p.data.toList.drop k) = Pl.hex p[k + 2] := Pl.code_of (by rw [hk, E37.out]) (by rw [hk1, e50]) hk2
            clear e50 hk1 hk2
            cases h70 : ((p[k + 2].toNat : Int) == 70) with
            | true =>
              have MI2 : Hid (MI p.data.toList (k + 3) (out ++ [47]) true) := mi_hit hI (by rw [hcode]; rw [beq70] at h70; rw [beq_iff_eq.1 h70]; rfl)
              clear hI hk hcode
              go_wp2_with (at_builtin; go_must (refine wpList_append_own _ rfl _ _ 26 rfl w.heap.size 5 i5 (.int .u8 0) 1 1 Try.underlying26 hi5 hz0 hz1 hz2 rfl (by decide) _ out.length (Lib.byteCells out) rfl (hown.alloc _) ⟨wr.heap.size, 0, none⟩ 1 1 [.int .u8 47] rfl rfl (cell_one_new _ _ _) (by simp [Value.oneCell']) (by unfold maxLen; omega) (by omega) (by simp; exact Nat.le_succ_of_le hbel.size) ?_))
              intro v1 w1 hown1 hg1 _
              obtain ⟨a1, cap1, hv1⟩ := owns_shape hown1
              rw [hv1]
              rw [hv1] at hown1
              have hbel1 : Below w.heap.size w w1 := (hbel.alloc hbel.size _).grown hg1 (by simp; exact Nat.le_succ_of_le hbel.size) (fun j hj => (hown.lt j hj).1)
              have hown2 : w1.ownsRow w.heap.size 5 1 (.slice a1 (out.length + 1) cap1) (out ++ [47]).length (Lib.byteCells (out ++ [47])) := by rw [cells_app, List.length_append]; exact hown1
              clear hown1 hg1 hown hbel
              go_wp2
              exact ⟨⟨k + 3, out ++ [47], true, a1, cap1, by simp, rfl, by go_num, MI2.out, hown2, hbel1⟩, by simp [intOf]; omega⟩
            | false =>
              cases h102 : ((p[k + 2].toNat : Int) == 102) with
              | true =>
                have MI2 : Hid (MI p.data.toList (k + 3) (out ++ [47]) true) := mi_hit hI (by rw [hcode]; rw [beq102] at h102; rw [beq_iff_eq.1 h102]; rfl)
                clear hI hk hcode
                go_wp2_with (at_builtin; go_must (refine wpList_append_own _ rfl _ _ 26 rfl w.heap.size 5 i5 (.int .u8 0) 1 1 Try.underlying26 hi5 hz0 hz1 hz2 rfl (by decide) _ out.length (Lib.byteCells out) rfl (hown.alloc _) ⟨wr.heap.size, 0, none⟩ 1 1 [.int .u8 47] rfl rfl (cell_one_new _ _ _) (by simp [Value.oneCell']) (by unfold maxLen; omega) (by omega) (by simp; exact Nat.le_succ_of_le hbel.size) ?_))
                intro v1 w1 hown1 hg1 _
                obtain ⟨a1, cap1, hv1⟩ := owns_shape hown1
                rw [hv1]
                rw [hv1] at hown1
                have hbel1 : Below w.heap.size w w1 := (hbel.alloc hbel.size _).grown hg1 (by simp; exact Nat.le_succ_of_le hbel.size) (fun j hj => (hown.lt j hj).1)
                have hown2 : w1.ownsRow w.heap.size 5 1 (.slice a1 (out.length + 1) cap1) (out ++ [47]).length (Lib.byteCells (out ++ [47])) := by rw [cells_app, List.length_append]; exact hown1
                clear hown1 hg1 hown hbel
                go_wp2
                exact ⟨⟨k + 3, out ++ [47], true, a1, cap1, by simp, rfl, by go_num, MI2.out, hown2, hbel1⟩, by simp [intOf]; omega⟩
              | false =>
                cases h69 : ((p[k + 2].toNat : Int) == 69) with
                | true =>
                  have MI2 : Hid (MI p.data.toList (k + 3) (out ++ [46]) true) := mi_hit hI (by rw [hcode]; rw [beq69] at h69; rw [beq_iff_eq.1 h69]; rfl)
                  clear hI hk hcode
                  go_wp2_with (at_builtin; go_must (refine wpList_append_own _ rfl _ _ 26 rfl w.heap.size 5 i5 (.int .u8 0) 1 1 Try.underlying26 hi5 hz0 hz1 hz2 rfl (by decide) _ out.length (Lib.byteCells out) rfl (hown.alloc _) ⟨wr.heap.size, 0, none⟩ 1 1 [.int .u8 46] rfl rfl (cell_one_new _ _ _) (by simp [Value.oneCell']) (by unfold maxLen; omega) (by omega) (by simp; exact Nat.le_succ_of_le hbel.size) ?_))
                  intro v1 w1 hown1 hg1 _
                  obtain ⟨a1, cap1, hv1⟩ := owns_shape hown1
                  rw [hv1]
                  rw [hv1] at hown1
                  have hbel1 : Below w.heap.size w w1 := (hbel.alloc hbel.size _).grown hg1 (by simp; exact Nat.le_succ_of_le hbel.size) (fun j hj => (hown.lt j hj).1)
                  have hown2 : w1.ownsRow w.heap.size 5 1 (.slice a1 (out.length + 1) cap1) (out ++ [46]).length (Lib.byteCells (out ++ [46])) := by rw [cells_app, List.length_append]; exact hown1
                  clear hown1 hg1 hown hbel
                  go_wp2
                  exact ⟨⟨k + 3, out ++ [46], true, a1, cap1, by simp, rfl, by go_num, MI2.out, hown2, hbel1⟩, by simp [intOf]; omega⟩
                | false =>
                  cases h101 : ((p[k + 2].toNat : Int) == 101) with
                  | true =>
                    have MI2 : Hid (MI p.data.toList (k + 3) (out ++ [46]) true) := mi_hit hI (by rw [hcode]; rw [beq101] at h101; rw [beq_iff_eq.1 h101]; rfl)
                    clear hI hk hcode
                    go_wp2_with (at_builtin; go_must (refine wpList_append_own _ rfl _ _ 26 rfl w.heap.size 5 i5 (.int .u8 0) 1 1 Try.underlying26 hi5 hz0 hz1 hz2 rfl (by decide) _ out.length (Lib.byteCells out) rfl (hown.alloc _) ⟨wr.heap.size, 0, none⟩ 1 1 [.int .u8 46] rfl rfl (cell_one_new _ _ _) (by simp [Value.oneCell']) (by unfold maxLen; omega) (by omega) (by simp; exact Nat.le_succ_of_le hbel.size) ?_))
                    intro v1 w1 hown1 hg1 _
                    obtain ⟨a1, cap1, hv1⟩ := owns_shape hown1
                    rw [hv1]
                    rw [hv1] at hown1
                    have hbel1 : Below w.heap.size w w1 := (hbel.alloc hbel.size _).grown hg1 (by simp; exact Nat.le_succ_of_le hbel.size) (fun j hj => (hown.lt j hj).1)
                    have hown2 : w1.ownsRow w.heap.size 5 1 (.slice a1 (out.length + 1) cap1) (out ++ [46]).length (Lib.byteCells (out ++ [46])) := by rw [cells_app, List.length_append]; exact hown1
                    clear hown1 hg1 hown hbel
                    go_wp2
                    exact ⟨⟨k + 3, out ++ [46], true, a1, cap1, by simp, rfl, by go_num, MI2.out, hown2, hbel1⟩, by simp [intOf]; omega⟩
                  | false =>
                    have hnone : Pl.code (p.data.toList.drop k) = none := by
                      rw [hcode]
                      rw [beq70] at h70
                      rw [beq102] at h102
                      rw [beq69] at h69
                      rw [beq101] at h101
                      unfold Pl.hex
                      rw [if_neg (by intro e; rcases e with e | e; exact beq_eq_false_iff_ne.1 h70 e; exact beq_eq_false_iff_ne.1 h102 e), if_neg (by intro e; rcases e with e | e; exact beq_eq_false_iff_ne.1 h69 e; exact beq_eq_false_iff_ne.1 h101 e)]
                    clear hcode
                    have MI2 : Hid (MI p.data.toList (k + 1) (out ++ [p[k]]) fnd) := mi_copy hI hk hnone
                    clear hI hk hnone
                    go_wp2_with (at_builtin; go_must (refine wpList_append_own _ rfl _ _ 26 rfl w.heap.size 5 i5 (.int .u8 0) 1 1 Try.underlying26 hi5 hz0 hz1 hz2 rfl (by decide) _ out.length (Lib.byteCells out) rfl (hown.alloc _) ⟨wr.heap.size, 0, none⟩ 1 1 [.int .u8 (p[k].toNat : Int)] rfl rfl (cell_one_new _ _ _) (by simp [Value.oneCell']) (by unfold maxLen; omega) (by omega) (by simp; exact Nat.le_succ_of_le hbel.size) ?_))
                    intro v1 w1 hown1 hg1 _
                    obtain ⟨a1, cap1, hv1⟩ := owns_shape hown1
                    rw [hv1]
                    rw [hv1] at hown1
                    have hbel1 : Below w.heap.size w w1 := (hbel.alloc hbel.size _).grown hg1 (by simp; exact Nat.le_succ_of_le hbel.size) (fun j hj => (hown.lt j hj).1)
                    have hown2 : w1.ownsRow w.heap.size 5 1 (.slice a1 (out.length + 1) cap1) (out ++ [p[k]]).length (Lib.byteCells (out ++ [p[k]])) := by rw [cells_app, List.length_append]; exact hown1
                    clear hown1 hg1 hown hbel
                    go_wp2
                    exact ⟨⟨k + 1, out ++ [p[k]], fnd, a1, cap1, by simp, rfl, by go_num, MI2.out, hown2, hbel1⟩, by simp [intOf]; omega⟩

end Go.Proofs.Qxb6606305a
