/-
  (*bytes.Reader).Read.
-/
import Derived.Test.Qxb6609137aDoorBase
namespace Go.Proofs.Qxb6609137aDoor
open Go.RowKit

abbrev u8s (l : List Int) : List Value := l.map (.int .u8)

/-- The cells of a body of bytes: nil, or a block from its first cell on. -/
def BodyAt (w : World) (p : Option Addr) (xs : List Int) : Prop :=
  xs = [] ∨ ∃ B, p = some ⟨B, 0, none⟩ ∧ ∀ j v, xs[j]? = some v → w.cell? ⟨B, j, none⟩ = some (.int .u8 v)

set_option maxHeartbeats 400000 in
theorem read_end (bb n cap : Nat) (p : Option Addr) (ev : Value) (i : Int) (w : World) (hn : (n : Int) ≤ i)
    (h0 : w.cell? ⟨bb, 0, none⟩ = some (.slice p n cap)) (h1 : w.cell? ⟨bb, 1, none⟩ = some (.int .i64 i)) (eo : Addr) (hev : ev = .iface 63 (.pointer (some eo))) (hE : w.cell? ⟨0, 0, none⟩ = some ev)
    (v : Value) :
    Calls Tryd.prog 51 #[.pointer (some ⟨bb, 0, none⟩), v] w fun e w' => e = .returned (.tuple #[.int .i64 0, ev]) ∧ ∃ k, w' = w.drewN k := by
  subst hev
  go_enter Tryd.func51, Tryd.ntmps51
  go_wp2
  go_quiet (fail)
  go_wp2
  go_quiet (fail)
  go_wp2
  go_ret2
  exact ⟨rfl, _, World.drewN_drewN _ _ _⟩

set_option maxHeartbeats 1000000 in
theorem read_some (bb B fb n cap i D m : Nat) (prev : Int) (t : TypeId) (cs cur : List Value) (w : World) (hi : i < n) (hnc : n ≤ cap) (hbf : bb ≠ fb) (hBb : B ≠ bb) (hsm : n ≤ 1000000) (hsd : D ≤ 1000000)
    (hD : cur.length = D) (hm : cs.length = m) (hmin : m = Nat.min (n - i) D)
    (hb : w.heap[bb]? = some (.cells #[.slice (some ⟨B, 0, none⟩) n cap, .int .i64 i, .int .i64 prev] t (0, 0)))
    (hf : w.heap[fb]? = some (.cells cur.toArray 5 (0, 0)))
    (hc : ∀ j v, cs[j]? = some v → w.cell? ⟨B, i + j, none⟩ = some v) (ho : ∀ v ∈ cs, v.oneCell' = true) :
    Calls Tryd.prog 51 #[.pointer (some ⟨bb, 0, none⟩), .slice (some ⟨fb, 0, none⟩) D D] w fun e w' =>
      e = .returned (.tuple #[.int .i64 m, .nilIface]) ∧
      w'.heap[bb]? = some (.cells #[.slice (some ⟨B, 0, none⟩) n cap, .int .i64 ((i : Int) + m), .int .i64 (-1)] t (0, 0)) ∧
      w'.heap[fb]? = some (.cells (splice cur 0 cs).toArray 5 (0, 0)) ∧ Turned [bb, fb] w w' := by
  have c0 : w.cell? ⟨bb, 0, none⟩ = some (.slice (some ⟨B, 0, none⟩) n cap) := by rw [blk_cell hb]; rfl
  have c1 : w.cell? ⟨bb, 1, none⟩ = some (.int .i64 i) := by rw [blk_cell hb]; rfl
  have c2 : w.cell? ⟨bb, 2, none⟩ = some (.int .i64 prev) := by rw [blk_cell hb]; rfl
  have f1 := blk_frozen hb 1
  have f2 := blk_frozen hb 2
  have i0 : (0 : Int) ≤ (i : Int) := Int.natCast_nonneg _
  have i1 : (i : Int) < (n : Int) := by omega
  have i2 : (n : Int) ≤ (cap : Int) := by omega
  have i3 : ¬ (n : Int) ≤ (i : Int) := by omega
  have i4 : (i : Int) ≤ (n : Int) := by omega
  have i5 : ¬ cap = i := by omega
  have hm1 : m ≤ n - i ∧ m ≤ D := by rw [hmin]; exact ⟨Nat.min_le_left _ _, Nat.min_le_right _ _⟩
  have m1 : m ≤ 1000000 := by omega
  have HB : Hid (w.heap[bb]? = some (.cells #[.slice (some ⟨B, 0, none⟩) n cap, .int .i64 i, .int .i64 prev] t (0, 0))) := hb
  have HF : Hid (w.heap[fb]? = some (.cells cur.toArray 5 (0, 0))) := hf
  have HC : Hid (∀ j v, cs[j]? = some v → w.cell? ⟨B, i + j, none⟩ = some v) := hc
  have HO : Hid (∀ v ∈ cs, v.oneCell' = true) := ho
  have HL : Hid (cs.length = Nat.min (n - i) D) := hm.trans hmin
  have HFit : Hid (0 + cs.length ≤ cur.length) := by show _ ≤ _; omega
  have HM : Hid (cs.length = m) := hm
  clear hb hf hc ho hm hmin hD hm1
  go_enter Tryd.func51, Tryd.ntmps51
  go_wp2
  go_quiet (fail)
  go_wp2
  generalize hw1 : (w.drewN nq).setCell { block := bb, off := 2 } (Value.int IntKind.i64 (-1)) = w1
  have HT : Hid (Turned [bb, fb] w w1) := by subst hw1; exact ((Turned.refl _ _).drewN _).setCell (by simp) _
  have HB1 : Hid (w1.heap[bb]? = some (.cells #[.slice (some ⟨B, 0, none⟩) n cap, .int .i64 i, .int .i64 (-1)] t (0, 0))) := by
    subst hw1; have := blk_set (w := w.drewN nq) HB.out 2 (.int .i64 (-1)); exact this
  have HF1 : Hid (w1.heap[fb]? = some (.cells cur.toArray 5 (0, 0))) := by
    subst hw1; exact (blk_set_other (w := w.drewN nq) 2 _ (Ne.symm hbf)).trans HF.out
  have HS : Hid (∀ j v, cs[j]? = some v → w1.drew.cell? (Addr.add ⟨B, i, none⟩ j) = some v) := by
    subst hw1; intro j v hv; rw [← HC.out j v hv]
    have e : (Addr.add ⟨B, i, none⟩ j) = ⟨B, i + j, none⟩ := by simp [Addr.add]
    rw [e]
    exact World.cell?_of_block (w := w.drewN nq) (a := ⟨B, i + j, none⟩) (blk_set_other 2 _ hBb)
  have d0 : w1.cell? ⟨bb, 0, none⟩ = some (.slice (some ⟨B, 0, none⟩) n cap) := by rw [blk_cell HB1.out]; rfl
  have d1 : w1.cell? ⟨bb, 1, none⟩ = some (.int .i64 i) := by rw [blk_cell HB1.out]; rfl
  clear hw1 c0 c1 c2 f1 f2 HB HF HC
  go_region_held3 (fun w' => w'.cell? ⟨bb, 0, none⟩ = some (.slice (some ⟨B, 0, none⟩) n cap) ∧ w'.cell? ⟨bb, 1, none⟩ = some (.int .i64 i))
    (first | go_keep | (go_split_ands; refine ⟨?_, ?_⟩ <;> (rw [ht2.out.cell (by simp; omega)]; assumption)))
    ((refine step_copy_turned (by rfl) (.tmp 20) (.tmp 29) 22 22 (by rfl) 5 Tryd.underlying22 Tryd.size5 (some ⟨fb, 0, none⟩) (some ⟨B, i, none⟩) D D (n - i) (cap - i) (by rfl) (by rfl) fb 0 cur 5 HF1.out cs HL.out (fun _ => ⟨rfl, _, rfl, HS.out⟩) HFit.out HO.out ?_; intro w2 hf2 ht2))
  rw [HM.out]
  have HB2 : Hid (w2.heap[bb]? = some (.cells #[.slice (some ⟨B, 0, none⟩) n cap, .int .i64 i, .int .i64 (-1)] t (0, 0))) :=
    (ht2.out.block bb (by simpa using hbf)).trans HB1.out
  have e1 : w2.cell? ⟨bb, 1, none⟩ = some (.int .i64 i) := by rw [blk_cell HB2.out]; rfl
  have f1 := blk_frozen HB2.out 1
  go_wp2
  go_ret2
  refine ⟨rfl, ?_, ?_, ?_⟩
  · exact blk_set HB2.out 1 _
  · rw [blk_set_other 1 _ (Ne.symm hbf)]; exact hf2.out
  · exact (HT.out.trans ((Turned.refl _ _).drew.trans (ht2.out.mono (by simp)))).setCell (by simp) _
end Go.Proofs.Qxb6609137aDoor
