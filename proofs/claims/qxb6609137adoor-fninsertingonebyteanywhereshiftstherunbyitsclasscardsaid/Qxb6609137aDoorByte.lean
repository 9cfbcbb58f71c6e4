/-
  (*bufio.Reader).readErr and ReadByte.
-/
import Derived.Test.Qxb6609137aDoorFill
namespace Go.Proofs.Qxb6609137aDoor
open Go.RowKit

set_option maxHeartbeats 1000000 in
theorem rb_now (rb fb D bb r q : Nat) (x lb lr : Int) (t : TypeId) (w : World) (hr : r < q) (hq : q ≤ D) (hsd : D ≤ 1000000) (hbf : rb ≠ fb) (hx : 0 ≤ x ∧ x ≤ 255)
    (h : w.heap[rb]? = some (.cells (rdCells fb D bb r q .nilIface lb lr) t (0, 0))) (hc : w.cell? ⟨fb, r, none⟩ = some (.int .u8 x)) :
    Calls Tryd.prog 30 #[.pointer (some ⟨rb, 0, none⟩)] w fun e w' => e = .returned (.tuple #[.int .u8 x, .nilIface]) ∧
      w'.heap[rb]? = some (.cells (rdCells fb D bb (r + 1) q .nilIface x (-1)) t (0, 0)) ∧ Turned [rb] w w' := by
  have c6 : w.cell? ⟨rb, 6, none⟩ = some (.int .i64 lr) := by rw [blk_cell h]; rfl
  have f6 := blk_frozen h 6
  have H : Hid (w.heap[rb]? = some (.cells (rdCells fb D bb r q .nilIface lb lr) t (0, 0))) := h
  clear h
  have i0 : (0 : Int) ≤ (r : Int) := Int.natCast_nonneg _
  have i1 : (r : Int) < (D : Int) := by omega
  have i2 : (r : Int) < (q : Int) := by omega
  have i3 : ((r : Int) == (q : Int)) = false := by simp; omega
  obtain ⟨hx0, hx1⟩ := hx
  go_enter Tryd.func30, Tryd.ntmps30
  go_wp2
  generalize hw1 : w.setCell { block := rb, off := 6 } (Value.int IntKind.i64 (-1)) = w1
  have HT : Hid (Turned [rb] w w1) := by subst hw1; exact (Turned.refl _ _).setCell (by simp) _
  have HB1 : Hid (w1.heap[rb]? = some (.cells (rdCells fb D bb r q .nilIface lb (-1)) t (0, 0))) := by subst hw1; exact blk_set H.out 6 _
  have d0 : w1.cell? ⟨fb, r, none⟩ = some (.int .u8 x) := by
    subst hw1; rw [← hc]; exact World.cell?_of_block (a := ⟨fb, r, none⟩) (blk_set_other 6 _ (Ne.symm hbf))
  clear hw1 c6 f6 H hc
  have c0 : w1.cell? ⟨rb, 0, none⟩ = some (.slice (some ⟨fb, 0, none⟩) D D) := by rw [blk_cell HB1.out]; rfl
  have c2 : w1.cell? ⟨rb, 2, none⟩ = some (.int .i64 r) := by rw [blk_cell HB1.out]; rfl
  have c3 : w1.cell? ⟨rb, 3, none⟩ = some (.int .i64 q) := by rw [blk_cell HB1.out]; rfl
  have c5 : w1.cell? ⟨rb, 5, none⟩ = some (.int .i64 lb) := by rw [blk_cell HB1.out]; rfl
  have f2 := blk_frozen HB1.out 2
  have f5 := blk_frozen HB1.out 5
  refine wp_loop_rounds 1 ?_
  rw [rounds_succ]
  go_wp2
  go_quiet (fail)
  go_wp2
  go_quiet (fail)
  go_wp2
  go_ret2
  refine ⟨rfl, ?_, ?_⟩
  · exact blk_set (blk_set (w := w1.drewN _) HB1.out 2 _) 5 _
  · exact ((HT.out.drewN _).setCell (by simp) _).setCell (by simp) _

set_option maxHeartbeats 400000 in
theorem readErr_any (rb fb D bb : Nat) (r q lb lr : Int) (ev : Value) (eo : Addr) (hev : ev = .iface 63 (.pointer (some eo))) (t : TypeId) (w : World)
    (h : w.heap[rb]? = some (.cells (rdCells fb D bb r q ev lb lr) t (0, 0))) :
    Calls Tryd.prog 32 #[.pointer (some ⟨rb, 0, none⟩)] w fun e w' => e = .returned ev ∧
      w'.heap[rb]? = some (.cells (rdCells fb D bb r q .nilIface lb lr) t (0, 0)) ∧ Turned [rb] w w' := by
  subst hev
  have c4 : w.cell? ⟨rb, 4, none⟩ = some (.iface 63 (.pointer (some eo))) := by rw [blk_cell h]; rfl
  have f4 := blk_frozen h 4
  have H : Hid (w.heap[rb]? = some (.cells (rdCells fb D bb r q (.iface 63 (.pointer (some eo))) lb lr) t (0, 0))) := h
  clear h
  go_enter Tryd.func32, Tryd.ntmps32
  go_wp2
  go_ret
  exact ⟨rfl, blk_set H.out 4 _, (Turned.refl _ _).setCell (by simp) _⟩

set_option maxHeartbeats 1000000 in
theorem rb_fill (rb fb D bb r m : Nat) (x lb lr : Int) (t : TypeId) (w : World) (hm : 0 < m) (hmD : m ≤ D) (hsd : D ≤ 1000000) (hx : 0 ≤ x ∧ x ≤ 255)
    (h : w.heap[rb]? = some (.cells (rdCells fb D bb r r .nilIface lb lr) t (0, 0)))
    (X : World → Prop) (hX : ∀ W, X W → W.cell? ⟨fb, 0, none⟩ = some (.int .u8 x))
    (hFill : ∀ W, Turned [rb] w W → W.heap[rb]? = some (.cells (rdCells fb D bb r r .nilIface lb (-1)) t (0, 0)) →
      Calls Tryd.prog 33 #[.pointer (some ⟨rb, 0, none⟩)] W fun e W' => e = .returned (.tuple #[]) ∧ W'.heap[rb]? = some (.cells (rdCells fb D bb 0 m .nilIface lb (-1)) t (0, 0)) ∧ X W') :
    Calls Tryd.prog 30 #[.pointer (some ⟨rb, 0, none⟩)] w fun e w' => e = .returned (.tuple #[.int .u8 x, .nilIface]) ∧
      w'.heap[rb]? = some (.cells (rdCells fb D bb 1 m .nilIface x (-1)) t (0, 0)) ∧ ∃ W, X W ∧ Turned [rb] W w' := by
  have c6 : w.cell? ⟨rb, 6, none⟩ = some (.int .i64 lr) := by rw [blk_cell h]; rfl
  have f6 := blk_frozen h 6
  have H : Hid (w.heap[rb]? = some (.cells (rdCells fb D bb r r .nilIface lb lr) t (0, 0))) := h
  have HX : Hid (∀ W, X W → W.cell? ⟨fb, 0, none⟩ = some (.int .u8 x)) := hX
  have HFill : Hid (∀ W, Turned [rb] w W → W.heap[rb]? = some (.cells (rdCells fb D bb r r .nilIface lb (-1)) t (0, 0)) →
      Calls Tryd.prog 33 #[.pointer (some ⟨rb, 0, none⟩)] W fun e W' => e = .returned (.tuple #[]) ∧ W'.heap[rb]? = some (.cells (rdCells fb D bb 0 m .nilIface lb (-1)) t (0, 0)) ∧ X W') := hFill
  clear h hX hFill
  have i0 : (0 : Int) ≤ (r : Int) := Int.natCast_nonneg _
  have i2 : (0 : Int) < (m : Int) := by omega
  have i3 : ((0 : Int) == (m : Int)) = false := by simp; omega
  have i4 : (0 : Int) < (D : Int) := by omega
  obtain ⟨hx0, hx1⟩ := hx
  go_enter Tryd.func30, Tryd.ntmps30
  go_wp2
  generalize hw1 : w.setCell { block := rb, off := 6 } (Value.int IntKind.i64 (-1)) = w1
  have HT : Hid (Turned [rb] w w1) := by subst hw1; exact (Turned.refl _ _).setCell (by simp) _
  have HB1 : Hid (w1.heap[rb]? = some (.cells (rdCells fb D bb r r .nilIface lb (-1)) t (0, 0))) := by subst hw1; exact blk_set H.out 6 _
  clear hw1 c6 f6 H
  have c2 : w1.cell? ⟨rb, 2, none⟩ = some (.int .i64 r) := by rw [blk_cell HB1.out]; rfl
  have c3 : w1.cell? ⟨rb, 3, none⟩ = some (.int .i64 r) := by rw [blk_cell HB1.out]; rfl
  have c4 : w1.cell? ⟨rb, 4, none⟩ = some .nilIface := by rw [blk_cell HB1.out]; rfl
  refine wp_loop_rounds 2 ?_
  rw [rounds_succ]
  go_wp2
  go_quiet (fail)
  go_wp2_with (go_at_call 33; refine (HFill.out _ (HT.out.drewN _) HB1.out).mono ?_; rintro e w2 ⟨rfl, hb2, hX2⟩)
  have HB2 : Hid (w2.heap[rb]? = some (.cells (rdCells fb D bb 0 m .nilIface lb (-1)) t (0, 0))) := hb2
  have d0 := HX.out _ hX2
  clear c2 c3 c4 HB1 hb2
  have c0 : w2.cell? ⟨rb, 0, none⟩ = some (.slice (some ⟨fb, 0, none⟩) D D) := by rw [blk_cell HB2.out]; rfl
  have c2 : w2.cell? ⟨rb, 2, none⟩ = some (.int .i64 0) := by rw [blk_cell HB2.out]; rfl
  have c3 : w2.cell? ⟨rb, 3, none⟩ = some (.int .i64 m) := by rw [blk_cell HB2.out]; rfl
  have c5 : w2.cell? ⟨rb, 5, none⟩ = some (.int .i64 lb) := by rw [blk_cell HB2.out]; rfl
  have f2 := blk_frozen HB2.out 2
  have f5 := blk_frozen HB2.out 5
  rw [rounds_succ]
  go_wp2
  go_quiet (fail)
  go_wp2
  go_quiet (fail)
  go_wp2
  go_ret2
  refine ⟨rfl, ?_, w2, hX2, ?_⟩
  · exact blk_set (blk_set (w := w2.drewN _) HB2.out 2 _) 5 _
  · exact (((Turned.refl _ _).drewN _).setCell (by simp) _).setCell (by simp) _

set_option maxHeartbeats 1000000 in
theorem rb_end (rb fb D bb r : Nat) (lb lr : Int) (ev : Value) (eo : Addr) (hev : ev = .iface 63 (.pointer (some eo))) (t : TypeId) (w : World)
    (h : w.heap[rb]? = some (.cells (rdCells fb D bb r r .nilIface lb lr) t (0, 0)))
    (X : World → Prop)
    (hFill : ∀ W, Turned [rb] w W → W.heap[rb]? = some (.cells (rdCells fb D bb r r .nilIface lb (-1)) t (0, 0)) →
      Calls Tryd.prog 33 #[.pointer (some ⟨rb, 0, none⟩)] W fun e W' => e = .returned (.tuple #[]) ∧ W'.heap[rb]? = some (.cells (rdCells fb D bb 0 0 ev lb (-1)) t (0, 0)) ∧ X W') :
    Calls Tryd.prog 30 #[.pointer (some ⟨rb, 0, none⟩)] w fun e w' => e = .returned (.tuple #[.int .u8 0, ev]) ∧
      w'.heap[rb]? = some (.cells (rdCells fb D bb 0 0 .nilIface lb (-1)) t (0, 0)) ∧ ∃ W, X W ∧ Turned [rb] W w' := by
  have c6 : w.cell? ⟨rb, 6, none⟩ = some (.int .i64 lr) := by rw [blk_cell h]; rfl
  have f6 := blk_frozen h 6
  have H : Hid (w.heap[rb]? = some (.cells (rdCells fb D bb r r .nilIface lb lr) t (0, 0))) := h
  have HEV : Hid (ev = .iface 63 (.pointer (some eo))) := hev
  have HFill : Hid (∀ W, Turned [rb] w W → W.heap[rb]? = some (.cells (rdCells fb D bb r r .nilIface lb (-1)) t (0, 0)) →
      Calls Tryd.prog 33 #[.pointer (some ⟨rb, 0, none⟩)] W fun e W' => e = .returned (.tuple #[]) ∧ W'.heap[rb]? = some (.cells (rdCells fb D bb 0 0 ev lb (-1)) t (0, 0)) ∧ X W') := hFill
  clear h hFill hev
  go_enter Tryd.func30, Tryd.ntmps30
  go_wp2
  generalize hw1 : w.setCell { block := rb, off := 6 } (Value.int IntKind.i64 (-1)) = w1
  have HT : Hid (Turned [rb] w w1) := by subst hw1; exact (Turned.refl _ _).setCell (by simp) _
  have HB1 : Hid (w1.heap[rb]? = some (.cells (rdCells fb D bb r r .nilIface lb (-1)) t (0, 0))) := by subst hw1; exact blk_set H.out 6 _
  clear hw1 c6 f6 H
  have c2 : w1.cell? ⟨rb, 2, none⟩ = some (.int .i64 r) := by rw [blk_cell HB1.out]; rfl
  have c3 : w1.cell? ⟨rb, 3, none⟩ = some (.int .i64 r) := by rw [blk_cell HB1.out]; rfl
  have c4 : w1.cell? ⟨rb, 4, none⟩ = some .nilIface := by rw [blk_cell HB1.out]; rfl
  refine wp_loop_rounds 2 ?_
  rw [rounds_succ]
  go_wp2
  go_quiet (fail)
  go_wp2_with (go_at_call 33; refine (HFill.out _ (HT.out.drewN _) HB1.out).mono ?_; rintro e w2 ⟨rfl, hb2, hX2⟩)
  have HB2 : Hid (w2.heap[rb]? = some (.cells (rdCells fb D bb 0 0 ev lb (-1)) t (0, 0))) := hb2
  clear c2 c3 c4 HB1 hb2
  have c2 : w2.cell? ⟨rb, 2, none⟩ = some (.int .i64 0) := by rw [blk_cell HB2.out]; rfl
  have c3 : w2.cell? ⟨rb, 3, none⟩ = some (.int .i64 0) := by rw [blk_cell HB2.out]; rfl
  have c4 : w2.cell? ⟨rb, 4, none⟩ = some (.iface 63 (.pointer (some eo))) := by rw [blk_cell HB2.out, HEV.out]; rfl
  rw [rounds_succ]
  go_wp2
  go_quiet (fail)
  go_wp2_with (go_at_call 32; refine (readErr_any rb fb D bb 0 0 lb (-1) ev eo HEV.out t (w2.drewN _) HB2.out).mono ?_; rintro e w3 ⟨rfl, hb3, ht3⟩)
  go_ret2
  refine ⟨rfl, hb3, w2, hX2, ?_⟩
  exact ((Turned.refl _ _).drewN _).trans ht3
end Go.Proofs.Qxb6609137aDoor
