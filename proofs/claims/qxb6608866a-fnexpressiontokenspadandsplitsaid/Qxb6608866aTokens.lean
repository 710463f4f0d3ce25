import Derived.Test.Qxb6608866aPlain
import Derived.Test.Qxb6608866aRunes
import Derived.Lib.DecodeN
namespace Go.Proofs.Qxb6608866a
open Go.RowKit

def strVals (out : List (List UInt8)) : List Value := out.map fun e => Value.string ⟨e.toArray⟩
theorem strVals_app (a b : List (List UInt8)) : strVals (a ++ b) = strVals a ++ strVals b := by simp [strVals]
theorem strVals_at {out : List (List UInt8)} {j : Nat} {x : List UInt8} (h : out[j]? = some x) : (strVals out)[j]? = some (.string ⟨x.toArray⟩) := by
  unfold strVals
  rw [List.getElem?_map, h]; rfl

theorem info9 : (Try.prog.info? 9).map (fun i => (i.zero, i.size, i.bytes)) = some (some (.string ⟨#[]⟩), 1, 16) := by kernel_rfl

theorem owns_shape {w : World} {base : Nat} {e : TypeId} {size : Nat} {v : Value} {n : Nat} {xs : List Value} (h : w.ownsRow base e size v n xs) : ∃ a cap, v = .slice a n cap := by
  rcases h.2 with ⟨h1, h2⟩ | ⟨g, cap, cur, h1, _⟩
  · exact ⟨none, 0, by rw [h1, h2]⟩
  · exact ⟨_, _, h1⟩

theorem owns_below {w w' : World} {base : Nat} {e : TypeId} {size : Nat} {v : Value} {n : Nat} {xs : List Value} (h : w.ownsRow base e size v n xs) (hb : Below w.heap.size w w') : w'.ownsRow base e size v n xs := by
  refine ⟨h.1, ?_⟩
  rcases h.2 with hn | ⟨g, cap, cur, hv, hbg, hg, rest⟩
  · exact .inl hn
  · exact .inr ⟨g, cap, cur, hv, hbg, (hb.block g (Array.getElem?_eq_some_iff.1 hg).1).trans hg, rest⟩

theorem key_high (n b0 b1 b2 b3 : Nat) (h0 : 128 ≤ b0) (hn : 0 < n) : ∀ j, j < (Lib.decodeN n b0 b1 b2 b3).2 → j < n ∧ 128 ≤ [b0, b1, b2, b3].getD j 0 := by
  intro j hj
  unfold Lib.decodeN at hj
  rw [if_neg (by omega)] at hj
  split at hj
  · rename_i h
    split at hj
    · match j, hj with
      | 0, _ => exact ⟨hn, by simp; omega⟩
      | 1, _ => exact ⟨h.2.1, by simp; omega⟩
      | j + 2, hj => simp at hj; omega
    · match j, hj with
      | 0, _ => exact ⟨hn, by simp; omega⟩
      | j + 1, hj => simp at hj
  · split at hj
    · rename_i h
      split at hj
      · match j, hj with
        | 0, _ => exact ⟨hn, by simp; omega⟩
        | 1, _ => exact ⟨h.2.1.1, by simp; omega⟩
        | 2, _ => exact ⟨h.2.2.1, by simp; omega⟩
        | j + 3, hj => simp at hj; omega
      · match j, hj with
        | 0, _ => exact ⟨hn, by simp; omega⟩
        | j + 1, hj => simp at hj
    · split at hj
      · rename_i h
        split at hj
        · match j, hj with
          | 0, _ => exact ⟨hn, by simp; omega⟩
          | 1, _ => exact ⟨h.2.1.1, by simp; omega⟩
          | 2, _ => exact ⟨h.2.2.1.1, by simp; omega⟩
          | 3, _ => exact ⟨h.2.2.2.1, by simp; omega⟩
          | j + 4, hj => simp at hj; omega
        · match j, hj with
          | 0, _ => exact ⟨hn, by simp; omega⟩
          | j + 1, hj => simp at hj
      · match j, hj with
        | 0, _ => exact ⟨hn, by simp; omega⟩
        | j + 1, hj => simp at hj

theorem get_eq (s : ByteArray) (i : Nat) (h : i < s.size) : s.get! i = s[i]'h := by
  simp [ByteArray.get!, getElem!_pos, h]
  rfl

/-- The bytes of a rune beyond ASCII are no ASCII bytes. -/
theorem dec_high (s : ByteArray) (pos : Nat) (h : pos < s.size) (ha : 128 ≤ (s[pos]'h).toNat) : ∀ j, j < (Utf8.decode s pos).2 → ∃ c, s.data.toList[pos + j]? = some c ∧ 128 ≤ c.toNat := by
  intro j hj
  rw [Lib.decode_at] at hj
  obtain ⟨h1, h2⟩ := key_high _ _ _ _ _ (by rw [get_eq s pos h]; exact ha) (by omega) j hj
  have hlt : pos + j < s.size := by omega
  refine ⟨s[pos + j], at_eq s (pos + j) hlt, ?_⟩
  rw [← get_eq s (pos + j) hlt]
  match j, h2 with
  | 0, h2 => exact h2
  | 1, h2 => exact h2
  | 2, h2 => exact h2
  | 3, h2 => exact h2
  | j + 4, h2 => simp at h2

theorem high_other {c : UInt8} (h : 128 ≤ c.toNat) : Pl.white c = false ∧ Pl.paren c = false := by
  unfold Pl.white Pl.paren
  have e : ∀ n : Int, n < 128 → ((c.toNat : Int) == n) = false := fun n hn => beq_eq_false_iff_ne.2 (by omega)
  rw [e 32 (by omega), e 9 (by omega), e 10 (by omega), e 13 (by omega), e 40 (by omega), e 41 (by omega)]
  exact ⟨rfl, rfl⟩

theorem seps_index (c : UInt8) : decide (0 ≤ Lib.indexByte [32, 9, 10, 13, 40, 41] c) = (Pl.white c || Pl.paren c) := by
  have : ∀ n : Fin 256, decide (0 ≤ Lib.indexByte [32, 9, 10, 13, 40, 41] (UInt8.ofNat n.val)) = (Pl.white (UInt8.ofNat n.val) || Pl.paren (UInt8.ofNat n.val)) := by decide +kernel
  have h := this ⟨c.toNat, c.toNat_lt⟩
  simpa using h

/-- strings.ContainsRune at an ASCII byte. -/
theorem contains_ascii (c : UInt8) (w : World) (h : c.toNat < 128) :
    Calls Try.prog 31 #[.string ⟨#[32, 9, 10, 13, 40, 41]⟩, .int .i32 (c.toNat : Int)] w fun e w' => e = .returned (.bool (Pl.white c || Pl.paren c)) ∧ w' = w := by
  have := Try.strings_ContainsRune_ascii ⟨#[32, 9, 10, 13, 40, 41]⟩ (c.toNat : Int) w (by omega) (by omega)
  have e : (c.toNat : Int).toNat.toUInt8 = c := by simp
  rw [e, show (⟨#[32, 9, 10, 13, 40, 41]⟩ : ByteArray).data.toList = [32, 9, 10, 13, 40, 41] from rfl, seps_index] at this
  exact this

theorem encode_ascii (c : UInt8) (h : c.toNat < 128) : Utf8.encode (c.toNat : Int) = ⟨#[c]⟩ := by
  have : ∀ n : Fin 128, Utf8.encode ((n.val : Nat) : Int) = ⟨#[UInt8.ofNat n.val]⟩ := by decide +kernel
  have h := this ⟨c.toNat, h⟩
  simpa using h

def stI : Option Nat → Int
  | none => -1
  | some k => (k : Int)

/-- What an append onto the call's own row leaves of the rest. -/
theorem app_rest {w W w1 : World} {B n cap pos : Nat} {a : Option Addr} {xs : List Value} {o : Obj} {tx : ByteArray} (hown : W.ownsRow (B + 1) 9 1 (.slice a n cap) n xs) (hit : W.heap[B]? = some (.stringIter tx pos)) (hbel : Below B w W) (hg : (W.alloc o).grownBy w1 (Value.slice a n cap).ownBlock) :
    w1.heap[B]? = some (.stringIter tx pos) ∧ Below B w w1 := by
  have hlt : B < W.heap.size := (Array.getElem?_eq_some_iff.1 hit).1
  have hr : ∀ k, (Value.slice a n cap).ownBlock = some k → B + 1 ≤ k := fun k hk => (hown.lt k hk).1
  constructor
  · rw [hg.block B (by simp; omega) (fun e => by have := hr B e.symm; omega), Below.heap_alloc _ _ _ hlt]
    exact hit
  · exact (hbel.alloc (by omega) o).grown hg (by simp; omega) (fun k hk => by have := hr k hk; omega)

theorem iter_lt {W : World} {B pos : Nat} {tx : ByteArray} (hit : W.heap[B]? = some (.stringIter tx pos)) : B + 1 ≤ W.heap.size := (Array.getElem?_eq_some_iff.1 hit).1

theorem cur_list (p : ByteArray) (k pos : Nat) : (p.extract k pos) = ⟨(Pl.cur p.data.toList (some k) pos).toArray⟩ := Lib.extract_eq p k pos

theorem flush_some {l : List UInt8} {k pos : Nat} (h1 : k < pos) (h2 : pos ≤ l.length) : Pl.flush (Pl.cur l (some k) pos) = [Pl.cur l (some k) pos] := Pl.cur_ne h1 h2

set_option maxRecDepth 100000 in
set_option maxHeartbeats 2000000 in
theorem tokens_calls (p : ByteArray) (w : World) (hp : p.size ≤ 1048576) :
    Calls Try.prog 30 #[.string p] w fun e w' => ∃ v, e = .returned v ∧ w'.ownsRow (w.heap.size + 1) 9 1 v (Pl.tks [] p.data.toList).length (strVals (Pl.tks [] p.data.toList)) ∧ (Pl.tks [] p.data.toList = [] → v = .slice none 0 0) ∧ Below w.heap.size w w' := by
  have hlen : (p ++ (⟨#[32]⟩ : ByteArray)).size = p.size + 1 := by simp [ByteArray.size_append]; rfl
  have hlst : (p ++ (⟨#[32]⟩ : ByteArray)).data.toList = p.data.toList ++ [32] := by simp
  obtain ⟨i9, hi9, hz0, hz1, hz2⟩ := info_parts info9
  go_enter Try.func30, Try.ntmps30
  go_wp2
  generalize (p ++ (⟨#[32]⟩ : ByteArray)) = tx at *
  have HL : Hid (tx.data.toList = p.data.toList ++ [32]) := hlst
  have HS : Hid (tx.size = p.size + 1) := hlen
  have hts : tx.size ≤ 1048577 := by omega
  clear hlst hlen
  go_loopw [3, 4] (fun v st wr => ∃ (pos : Nat) (s : Option Nat) (out : List (List UInt8)) (a : Option Addr) (cap : Nat), v = .slice a out.length cap ∧ st = .int .i64 (stI s) ∧ Pl.EI p.data.toList pos s out ∧ wr.heap[w.heap.size]? = some (.stringIter tx pos) ∧ wr.ownsRow (w.heap.size + 1) 9 1 v out.length (strVals out) ∧ (out = [] → v = .slice none 0 0) ∧ Below w.heap.size w wr)
    (fun _ _ wr => tx.size - wr.iterPos w.heap.size)
  case atStart =>
    refine ⟨0, none, [], none, 0, rfl, rfl, Pl.ei_start _, ?_, World.ownsRow_nil _ _ _ _, fun _ => rfl, (Below.refl _ w).alloc (Nat.le_refl _) _⟩
    have := World.iter_heap w tx 0
    simpa using this
  case round =>
    obtain ⟨pos, s, out, a, cap, rfl, rfl, hI, hit, hown, hnil, hbel⟩ := hrel
    have hsz := iter_lt hit
    have hfew := hI.few
    by_cases hlt : pos < tx.size
    case neg =>
      have E1 : Hid (out = Pl.tks [] p.data.toList) := Pl.ei_end hI (by have := HS.out; rw [← Lib.size_eq]; omega)
      have hnx : ∀ ty, (Instr.next (.pointer (some ⟨w.heap.size, 0, none⟩)) true ty).run Try.prog wr = _ := fun ty => Lib.run_next_end_at wr w.heap.size tx pos ty hit hlt
      have HN : Hid (out = [] → Value.slice a out.length cap = .slice none 0 0) := hnil
      clear hI hit hnil
      go_wp2
      go_ret
      exact ⟨_, rfl, by rw [← E1.out]; exact hown, by rw [← E1.out]; exact HN.out, hbel⟩
    case pos =>
      have hposb : pos ≤ 1048576 := by omega
      have hat : (p.data.toList ++ [32])[pos]? = some (tx[pos]'hlt) := by rw [← HL.out]; exact at_eq tx pos hlt
      have I1 : Hid (wr.heap[w.heap.size]? = some (.stringIter tx pos)) := hit
      have HN : Hid (out = [] → Value.slice a out.length cap = .slice none 0 0) := hnil
      clear hnil
      by_cases hasc : (tx[pos]'hlt).toNat < 128
      case neg =>
        have hge : 128 ≤ (tx[pos]'hlt).toNat := by omega
        have hnx : ∀ ty, (Instr.next (.pointer (some ⟨w.heap.size, 0, none⟩)) true ty).run Try.prog wr = _ := fun ty => Lib.run_next_any_at wr w.heap.size tx pos ty hit hlt
        obtain ⟨hr128, hwd⟩ := decode_high tx pos hlt hge
        have EI2 : Hid (Pl.EI p.data.toList (pos + (Utf8.decode tx pos).2) (some (s.getD pos)) out) := Pl.ei_run hI _ hwd (fun j hj => by
          obtain ⟨c, hc, h128⟩ := dec_high tx pos hlt hge j hj
          rw [HL.out] at hc
          exact ⟨c, hc, (high_other h128).1, (high_other h128).2⟩)
        have hit2 := Lib.iterAt_heap wr w.heap.size tx pos (pos + (Utf8.decode tx pos).2) hit
        have hown2 := ownsRow_iterAt hown (k := w.heap.size) (by omega) tx (pos + (Utf8.decode tx pos).2)
        have hbel2 := Lib.below_iterAt hbel (k := w.heap.size) (Nat.le_refl _) tx (pos + (Utf8.decode tx pos).2)
        clear hit hown hbel hsz hat hasc hge
        generalize wr.iterAt w.heap.size tx (pos + (Utf8.decode tx pos).2) = W2 at *
        generalize (Utf8.decode tx pos).2 = wd at *
        generalize (Utf8.decode tx pos).1 = r at *
        have b40 : ((r : Int) == 40) = false := beq_eq_false_iff_ne.2 (by omega)
        have b41 : ((r : Int) == 41) = false := beq_eq_false_iff_ne.2 (by omega)
        have J2 : Hid (W2.heap[w.heap.size]? = some (.stringIter tx (pos + wd))) := hit2
        clear hit2
        cases s with
        | none =>
          clear hI
          simp only [stI]
          go_wp2_with fail
          refine (contains_high (r : Int) W2 (by omega)).mono ?_
          rintro e w3 ⟨rfl, hb3⟩
          have hown3 := owns_below hown2 hb3
          have I2 : Hid (w3.heap[w.heap.size]? = some (.stringIter tx (pos + wd))) := (hb3.block _ (Array.getElem?_eq_some_iff.1 J2.out).1).trans J2.out
          have hbel3 := hbel2.trans (hb3.mono hbel2.size)
          clear hb3 hown2 hbel2
          go_wp2
          go_roundw
          case rel => exact ⟨pos + wd, some pos, out, a, cap, rfl, rfl, EI2.out, I2.out, hown3, HN.out, hbel3⟩
          case measure =>
            rw [iterPos_of I2.out, iterPos_of I1.out]
            omega
        | some k =>
          have hko := (hI.opn k rfl).1
          clear hI
          simp only [stI]
          go_wp2_with fail
          refine (contains_high (r : Int) W2 (by omega)).mono ?_
          rintro e w3 ⟨rfl, hb3⟩
          have hown3 := owns_below hown2 hb3
          have I2 : Hid (w3.heap[w.heap.size]? = some (.stringIter tx (pos + wd))) := (hb3.block _ (Array.getElem?_eq_some_iff.1 J2.out).1).trans J2.out
          have hbel3 := hbel2.trans (hb3.mono hbel2.size)
          clear hb3 hown2 hbel2
          go_wp2
          go_roundw
          case rel => exact ⟨pos + wd, some k, out, a, cap, rfl, rfl, EI2.out, I2.out, hown3, HN.out, hbel3⟩
          case measure =>
            rw [iterPos_of I2.out, iterPos_of I1.out]
            omega
      case pos =>
        have hnx : ∀ ty, (Instr.next (.pointer (some ⟨w.heap.size, 0, none⟩)) true ty).run Try.prog wr = _ := fun ty => Lib.run_next_ascii_at wr w.heap.size tx pos ty hit hlt hasc
        have hit2 := Lib.iterAt_heap wr w.heap.size tx pos (pos + 1) hit
        have hown2 := ownsRow_iterAt hown (k := w.heap.size) (by omega) tx (pos + 1)
        have hbel2 := Lib.below_iterAt hbel (k := w.heap.size) (Nat.le_refl _) tx (pos + 1)
        have hsz2 : w.heap.size + 1 ≤ (wr.iterAt w.heap.size tx (pos + 1)).heap.size := by rw [Lib.iterAt_size]; exact hsz
        clear hit hown hbel hsz
        generalize wr.iterAt w.heap.size tx (pos + 1) = W2 at *
        cases hw : Pl.white (tx[pos]'hlt) with
        | true =>
          have b40 : (((tx[pos]'hlt).toNat : Int) == 40) = false := by
            cases h : (((tx[pos]'hlt).toNat : Int) == 40) with
            | false => rfl
            | true => have : Pl.paren (tx[pos]'hlt) = true := by unfold Pl.paren; rw [h]; rfl
                      have := Pl.paren_not_white this
                      rw [hw] at this; cases this
          have b41 : (((tx[pos]'hlt).toNat : Int) == 41) = false := by
            cases h : (((tx[pos]'hlt).toNat : Int) == 41) with
            | false => rfl
            | true => have : Pl.paren (tx[pos]'hlt) = true := by unfold Pl.paren; rw [h, b40]; rfl
                      have := Pl.paren_not_white this
                      rw [hw] at this; cases this
          have EI2 : Hid (Pl.EI p.data.toList (pos + 1) none (out ++ Pl.flush (Pl.cur p.data.toList s pos))) := Pl.ei_white hI hat hw
          cases s with
          | none =>
            have I2 : Hid (W2.heap[w.heap.size]? = some (.stringIter tx (pos + 1))) := hit2
            have E2 : Hid (out ++ Pl.flush (Pl.cur p.data.toList none pos) = out) := by simp [Hid, Pl.cur, Pl.flush_nil]
            rw [E2.out] at EI2
            clear hI hat hit2
            simp only [stI]
            go_wp2_with fail
            refine (contains_ascii (tx[pos]'hlt) W2 hasc).mono ?_
            rintro e w3 ⟨rfl, rfl⟩
            rw [hw, Bool.true_or]
            go_wp2
            go_roundw
            case rel => exact ⟨pos + 1, none, out, a, cap, rfl, rfl, EI2.out, I2.out, hown2, HN.out, hbel2⟩
            case measure =>
              rw [iterPos_of I2.out, iterPos_of I1.out]
              omega
          | some k =>
            obtain ⟨hko, hkl⟩ := hI.opn k rfl
            rw [← Lib.size_eq] at hkl
            rw [flush_some hko (by rw [← Lib.size_eq]; exact hkl)] at EI2
            clear hI hat
            simp only [stI]
            go_wp2_with fail
            refine (contains_ascii (tx[pos]'hlt) W2 hasc).mono ?_
            rintro e w3 ⟨rfl, rfl⟩
            rw [hw, Bool.true_or]
            have I2 : Hid (w3.heap[w.heap.size]? = some (.stringIter tx (pos + 1))) := hit2
            clear hit2
            go_wp2_with (at_builtin; go_must (refine wpList_append_own _ rfl _ _ 23 rfl (w.heap.size + 1) 9 i9 (.string ⟨#[]⟩) 1 16 Try.underlying23 hi9 hz0 hz1 hz2 rfl (by decide) _ out.length (strVals out) rfl (hown2.alloc _) ⟨w3.heap.size, 0, none⟩ 1 1 [.string (p.extract k pos)] rfl rfl (cell_one_new _ _ _) (by simp [Value.oneCell']) (by unfold maxLen; omega) (by omega) (by simp; omega) ?_))
            intro v5 w5 ho5 hg5 _
            obtain ⟨hit5, hbel5⟩ := app_rest hown2 I2.out hbel2 hg5
            obtain ⟨a5, cap5, hv5⟩ := owns_shape ho5
            rw [hv5]
            rw [hv5] at ho5
            have hown5 : w5.ownsRow (w.heap.size + 1) 9 1 (.slice a5 (out.length + 1) cap5) (out.length + 1) (strVals (out ++ [Pl.cur p.data.toList (some k) pos])) := by rw [cur_list] at ho5; rw [strVals_app]; exact ho5
            have hsz5 := iter_lt hit5
            clear ho5 hg5 hown2 hbel2
            have I5 : Hid (w5.heap[w.heap.size]? = some (.stringIter tx (pos + 1))) := hit5
            clear hit5
            go_wp2
            go_roundw
            case rel => exact ⟨pos + 1, none, out ++ [Pl.cur p.data.toList (some k) pos], a5, cap5, by rw [List.length_append]; rfl, rfl, EI2.out, I5.out, by rw [List.length_append]; exact hown5, (fun h => by simp at h), hbel5⟩
            case measure =>
              rw [iterPos_of I5.out, iterPos_of I1.out]
              omega
        | false =>
          cases hpn : Pl.paren (tx[pos]'hlt) with
          | true =>
            have hq : (((tx[pos]'hlt).toNat : Int) == 40) = true ∨ ((((tx[pos]'hlt).toNat : Int) == 40) = false ∧ (((tx[pos]'hlt).toNat : Int) == 41) = true) := by
              unfold Pl.paren at hpn
              cases h : (((tx[pos]'hlt).toNat : Int) == 40) with
              | true => exact .inl rfl
              | false => rw [h, Bool.false_or] at hpn; exact .inr ⟨rfl, hpn⟩
            have EI2 : Hid (Pl.EI p.data.toList (pos + 1) none (out ++ Pl.flush (Pl.cur p.data.toList s pos) ++ [[tx[pos]'hlt]])) := Pl.ei_paren hI hat hpn
            have hcv := fun w => conv_rune ((tx[pos]'hlt).toNat : Int) w
            rw [encode_ascii _ hasc] at hcv
            cases s with
            | none =>
              have E2 : Hid (out ++ Pl.flush (Pl.cur p.data.toList none pos) = out) := by simp [Hid, Pl.cur, Pl.flush_nil]
              rw [E2.out] at EI2
              clear hI hat
              simp only [stI]
              rcases hq with b40 | ⟨b40, b41⟩
              · go_wp2_with fail
                refine (contains_ascii (tx[pos]'hlt) W2 hasc).mono ?_
                rintro e w3 ⟨rfl, rfl⟩
                rw [hw, hpn, Bool.false_or]
                have I2 : Hid (w3.heap[w.heap.size]? = some (.stringIter tx (pos + 1))) := hit2
                clear hit2
                go_wp2_with (at_builtin; go_must (refine wpList_append_own _ rfl _ _ 23 rfl (w.heap.size + 1) 9 i9 (.string ⟨#[]⟩) 1 16 Try.underlying23 hi9 hz0 hz1 hz2 rfl (by decide) _ out.length (strVals out) rfl (hown2.alloc _) ⟨w3.heap.size, 0, none⟩ 1 1 [.string ⟨#[tx[pos]'hlt]⟩] rfl rfl (cell_one_new _ _ _) (by simp [Value.oneCell']) (by unfold maxLen; omega) (by omega) (by simp; omega) ?_))
                intro v5 w5 ho5 hg5 _
                obtain ⟨hit5, hbel5⟩ := app_rest hown2 I2.out hbel2 hg5
                obtain ⟨a5, cap5, hv5⟩ := owns_shape ho5
                rw [hv5]
                rw [hv5] at ho5
                have hown5 : w5.ownsRow (w.heap.size + 1) 9 1 (.slice a5 (out.length + 1) cap5) (out.length + 1) (strVals (out ++ [[tx[pos]'hlt]])) := by rw [strVals_app]; exact ho5
                have hsz5 := iter_lt hit5
                clear ho5 hg5 hown2 hbel2
                have I5 : Hid (w5.heap[w.heap.size]? = some (.stringIter tx (pos + 1))) := hit5
                clear hit5
                go_wp2
                go_roundw
                case rel => exact ⟨pos + 1, none, out ++ [[tx[pos]'hlt]], a5, cap5, by simp, rfl, EI2.out, I5.out, by first | exact hown5 | (rw [List.length_append]; exact hown5) | (rw [List.length_append, List.length_append]; exact hown5), (fun h => by simp at h), hbel5⟩
                case measure =>
                  rw [iterPos_of I5.out, iterPos_of I1.out]
                  omega
              · go_wp2_with fail
                refine (contains_ascii (tx[pos]'hlt) W2 hasc).mono ?_
                rintro e w3 ⟨rfl, rfl⟩
                rw [hw, hpn, Bool.false_or]
                have I2 : Hid (w3.heap[w.heap.size]? = some (.stringIter tx (pos + 1))) := hit2
                clear hit2
                go_wp2_with (at_builtin; go_must (refine wpList_append_own _ rfl _ _ 23 rfl (w.heap.size + 1) 9 i9 (.string ⟨#[]⟩) 1 16 Try.underlying23 hi9 hz0 hz1 hz2 rfl (by decide) _ out.length (strVals out) rfl (hown2.alloc _) ⟨w3.heap.size, 0, none⟩ 1 1 [.string ⟨#[tx[pos]'hlt]⟩] rfl rfl (cell_one_new _ _ _) (by simp [Value.oneCell']) (by unfold maxLen; omega) (by omega) (by simp; omega) ?_))
                intro v5 w5 ho5 hg5 _
                obtain ⟨hit5, hbel5⟩ := app_rest hown2 I2.out hbel2 hg5
                obtain ⟨a5, cap5, hv5⟩ := owns_shape ho5
                rw [hv5]
                rw [hv5] at ho5
                have hown5 : w5.ownsRow (w.heap.size + 1) 9 1 (.slice a5 (out.length + 1) cap5) (out.length + 1) (strVals (out ++ [[tx[pos]'hlt]])) := by rw [strVals_app]; exact ho5
                have hsz5 := iter_lt hit5
                clear ho5 hg5 hown2 hbel2
                have I5 : Hid (w5.heap[w.heap.size]? = some (.stringIter tx (pos + 1))) := hit5
                clear hit5
                go_wp2
                go_roundw
                case rel => exact ⟨pos + 1, none, out ++ [[tx[pos]'hlt]], a5, cap5, by simp, rfl, EI2.out, I5.out, by first | exact hown5 | (rw [List.length_append]; exact hown5) | (rw [List.length_append, List.length_append]; exact hown5), (fun h => by simp at h), hbel5⟩
                case measure =>
                  rw [iterPos_of I5.out, iterPos_of I1.out]
                  omega
            | some k =>
              obtain ⟨hko, hkl⟩ := hI.opn k rfl
              rw [← Lib.size_eq] at hkl
              rw [flush_some hko (by rw [← Lib.size_eq]; exact hkl)] at EI2
              clear hI hat
              simp only [stI]
              rcases hq with b40 | ⟨b40, b41⟩
              · go_wp2_with fail
                refine (contains_ascii (tx[pos]'hlt) W2 hasc).mono ?_
                rintro e w3 ⟨rfl, rfl⟩
                rw [hw, hpn, Bool.false_or]
                have I2 : Hid (w3.heap[w.heap.size]? = some (.stringIter tx (pos + 1))) := hit2
                clear hit2
                go_wp2_with (at_builtin; go_must (refine wpList_append_own _ rfl _ _ 23 rfl (w.heap.size + 1) 9 i9 (.string ⟨#[]⟩) 1 16 Try.underlying23 hi9 hz0 hz1 hz2 rfl (by decide) _ out.length (strVals out) rfl (hown2.alloc _) ⟨w3.heap.size, 0, none⟩ 1 1 [.string (p.extract k pos)] rfl rfl (cell_one_new _ _ _) (by simp [Value.oneCell']) (by unfold maxLen; omega) (by omega) (by simp; omega) ?_))
                intro v5 w5 ho5 hg5 _
                obtain ⟨hit5, hbel5⟩ := app_rest hown2 I2.out hbel2 hg5
                obtain ⟨a5, cap5, hv5⟩ := owns_shape ho5
                rw [hv5]
                rw [hv5] at ho5
                have hown5 : w5.ownsRow (w.heap.size + 1) 9 1 (.slice a5 (out.length + 1) cap5) (out.length + 1) (strVals (out ++ [Pl.cur p.data.toList (some k) pos])) := by rw [cur_list] at ho5; rw [strVals_app]; exact ho5
                have hsz5 := iter_lt hit5
                clear ho5 hg5 hown2 hbel2
                have I5 : Hid (w5.heap[w.heap.size]? = some (.stringIter tx (pos + 1))) := hit5
                clear hit5
                go_wp2_with (at_builtin; go_must (refine wpList_append_own _ rfl _ _ 23 rfl (w.heap.size + 1) 9 i9 (.string ⟨#[]⟩) 1 16 Try.underlying23 hi9 hz0 hz1 hz2 rfl (by decide) _ (out.length + 1) (strVals (out ++ [Pl.cur p.data.toList (some k) pos])) rfl (hown5.alloc _) ⟨w5.heap.size, 0, none⟩ 1 1 [.string ⟨#[tx[pos]'hlt]⟩] rfl rfl (cell_one_new _ _ _) (by simp [Value.oneCell']) (by unfold maxLen; omega) (by omega) (by simp; omega) ?_))
                intro v6 w6 ho6 hg6 _
                obtain ⟨hit6, hbel6⟩ := app_rest hown5 I5.out hbel5 hg6
                obtain ⟨a6, cap6, hv6⟩ := owns_shape ho6
                rw [hv6]
                rw [hv6] at ho6
                have hown6 : w6.ownsRow (w.heap.size + 1) 9 1 (.slice a6 ((out.length + 1) + 1) cap6) ((out.length + 1) + 1) (strVals ((out ++ [Pl.cur p.data.toList (some k) pos]) ++ [[tx[pos]'hlt]])) := by rw [strVals_app]; exact ho6
                have hsz6 := iter_lt hit6
                clear ho6 hg6 hown5 hbel5
                have I6 : Hid (w6.heap[w.heap.size]? = some (.stringIter tx (pos + 1))) := hit6
                clear hit6
                go_wp2
                go_roundw
                case rel => exact ⟨pos + 1, none, out ++ [Pl.cur p.data.toList (some k) pos] ++ [[tx[pos]'hlt]], a6, cap6, by simp, rfl, EI2.out, I6.out, by first | exact hown6 | (rw [List.length_append]; exact hown6) | (rw [List.length_append, List.length_append]; exact hown6), (fun h => by simp at h), hbel6⟩
                case measure =>
                  rw [iterPos_of I6.out, iterPos_of I1.out]
                  omega
              · go_wp2_with fail
                refine (contains_ascii (tx[pos]'hlt) W2 hasc).mono ?_
                rintro e w3 ⟨rfl, rfl⟩
                rw [hw, hpn, Bool.false_or]
                have I2 : Hid (w3.heap[w.heap.size]? = some (.stringIter tx (pos + 1))) := hit2
                clear hit2
                go_wp2_with (at_builtin; go_must (refine wpList_append_own _ rfl _ _ 23 rfl (w.heap.size + 1) 9 i9 (.string ⟨#[]⟩) 1 16 Try.underlying23 hi9 hz0 hz1 hz2 rfl (by decide) _ out.length (strVals out) rfl (hown2.alloc _) ⟨w3.heap.size, 0, none⟩ 1 1 [.string (p.extract k pos)] rfl rfl (cell_one_new _ _ _) (by simp [Value.oneCell']) (by unfold maxLen; omega) (by omega) (by simp; omega) ?_))
                intro v5 w5 ho5 hg5 _
                obtain ⟨hit5, hbel5⟩ := app_rest hown2 I2.out hbel2 hg5
                obtain ⟨a5, cap5, hv5⟩ := owns_shape ho5
                rw [hv5]
                rw [hv5] at ho5
                have hown5 : w5.ownsRow (w.heap.size + 1) 9 1 (.slice a5 (out.length + 1) cap5) (out.length + 1) (strVals (out ++ [Pl.cur p.data.toList (some k) pos])) := by rw [cur_list] at ho5; rw [strVals_app]; exact ho5
                have hsz5 := iter_lt hit5
                clear ho5 hg5 hown2 hbel2
                have I5 : Hid (w5.heap[w.heap.size]? = some (.stringIter tx (pos + 1))) := hit5
                clear hit5
                go_wp2_with (at_builtin; go_must (refine wpList_append_own _ rfl _ _ 23 rfl (w.heap.size + 1) 9 i9 (.string ⟨#[]⟩) 1 16 Try.underlying23 hi9 hz0 hz1 hz2 rfl (by decide) _ (out.length + 1) (strVals (out ++ [Pl.cur p.data.toList (some k) pos])) rfl (hown5.alloc _) ⟨w5.heap.size, 0, none⟩ 1 1 [.string ⟨#[tx[pos]'hlt]⟩] rfl rfl (cell_one_new _ _ _) (by simp [Value.oneCell']) (by unfold maxLen; omega) (by omega) (by simp; omega) ?_))
                intro v6 w6 ho6 hg6 _
                obtain ⟨hit6, hbel6⟩ := app_rest hown5 I5.out hbel5 hg6
                obtain ⟨a6, cap6, hv6⟩ := owns_shape ho6
                rw [hv6]
                rw [hv6] at ho6
                have hown6 : w6.ownsRow (w.heap.size + 1) 9 1 (.slice a6 ((out.length + 1) + 1) cap6) ((out.length + 1) + 1) (strVals ((out ++ [Pl.cur p.data.toList (some k) pos]) ++ [[tx[pos]'hlt]])) := by rw [strVals_app]; exact ho6
                have hsz6 := iter_lt hit6
                clear ho6 hg6 hown5 hbel5
                have I6 : Hid (w6.heap[w.heap.size]? = some (.stringIter tx (pos + 1))) := hit6
                clear hit6
                go_wp2
                go_roundw
                case rel => exact ⟨pos + 1, none, out ++ [Pl.cur p.data.toList (some k) pos] ++ [[tx[pos]'hlt]], a6, cap6, by simp, rfl, EI2.out, I6.out, by first | exact hown6 | (rw [List.length_append]; exact hown6) | (rw [List.length_append, List.length_append]; exact hown6), (fun h => by simp at h), hbel6⟩
                case measure =>
                  rw [iterPos_of I6.out, iterPos_of I1.out]
                  omega
          | false =>
            have b40 : (((tx[pos]'hlt).toNat : Int) == 40) = false := by unfold Pl.paren at hpn; simp only [Bool.or_eq_false_iff] at hpn; exact hpn.1
            have b41 : (((tx[pos]'hlt).toNat : Int) == 41) = false := by unfold Pl.paren at hpn; simp only [Bool.or_eq_false_iff] at hpn; exact hpn.2
            have EI2 : Hid (Pl.EI p.data.toList (pos + 1) (some (s.getD pos)) out) := Pl.ei_other hI hat hw hpn
            have I2 : Hid (W2.heap[w.heap.size]? = some (.stringIter tx (pos + 1))) := hit2
            clear hat hit2
            cases s with
            | none =>
              clear hI
              simp only [stI]
              go_wp2_with fail
              refine (contains_ascii (tx[pos]'hlt) W2 hasc).mono ?_
              rintro e w3 ⟨rfl, rfl⟩
              rw [hw, hpn]
              go_wp2
              go_roundw
              case rel => exact ⟨pos + 1, some pos, out, a, cap, rfl, rfl, EI2.out, I2.out, hown2, HN.out, hbel2⟩
              case measure =>
                rw [iterPos_of I2.out, iterPos_of I1.out]
                omega
            | some k =>
              have hko := (hI.opn k rfl).1
              clear hI
              simp only [stI]
              go_wp2_with fail
              refine (contains_ascii (tx[pos]'hlt) W2 hasc).mono ?_
              rintro e w3 ⟨rfl, rfl⟩
              rw [hw, hpn]
              go_wp2
              go_roundw
              case rel => exact ⟨pos + 1, some k, out, a, cap, rfl, rfl, EI2.out, I2.out, hown2, HN.out, hbel2⟩
              case measure =>
                rw [iterPos_of I2.out, iterPos_of I1.out]
                omega

end Go.Proofs.Qxb6608866a
