/-
  (*bufio.Reader).fill, called where nothing is left in the buffer (r = w).
-/
import Derived.Test.Qxb6609137aDoorRead
namespace Go.Proofs.Qxb6609137aDoor
open Go.RowKit

/-- 'copy' of nothing, as one step of a region. -/
theorem step_copy_none {P : Program} {ops : Array Oper} {o : Oper} {a : Act} {w : World} {K : Act → World → Prop} {Q : Exit → Act → World → Prop} {E : Prop} (hgd : o.guard = none) (d s : Operand) (dT sT : TypeId)
    (ho : o.op = .call { callee := .builtin .copy, args := #[d, s], argTypes := #[dT, sT] }) (elem : TypeId) (hu : P.underlying dT = some (.slice elem)) (hsz : (P.info? elem).map (·.size) = some 1)
    (dp sp : Option Addr) (dLen dCap sLen sCap : Nat) (hd : a.eval d = .slice dp dLen dCap) (hs : a.eval s = .slice sp sLen sCap) (hn : Nat.min sLen dLen = 0)
    (h : K (a.put o.dst (goInt 0)) w) :
    if Region.wanted o (yielded ops a.tmps) = true then Oper.wp P o a w K Q else E := by
  have hw : Region.wanted o (yielded ops a.tmps) = true := by simp [Region.wanted, hgd]
  rw [if_pos hw]
  have hrun := run_copy_none (P := P) w dT sT o.type elem dp sp dLen dCap sLen sCap hu hsz hn
  unfold Oper.wp
  simp [execOp, ho, resolve, invoke, builtin, hd, hs, hrun, Result.andThen]
  exact h

abbrev rdCells (fb D bb : Nat) (r q : Int) (ev : Value) (lb lr : Int) : Array Value :=
  #[.slice (some ⟨fb, 0, none⟩) D D, .iface 42 (.pointer (some ⟨bb, 0, none⟩)), .int .i64 r, .int .i64 q, ev, .int .i64 lb, .int .i64 lr]

theorem Tryd.methodRead (a : Addr) (w : World) : Sem.run Tryd.prog (method 192 42 (.pointer (some a)) "Read") w = .ok (51, .pointer (some a)) w := by kernel_rfl

set_option maxHeartbeats 2000000 in
theorem fill_of (rb fb D bb r m : Nat) (lb lr : Int) (ev : Value) (t : TypeId) (w : World) (hr : r ≤ D) (hD0 : 0 < D) (hsd : D ≤ 1000000) (hm : m ≤ 1000000)
    (hcase : (ev = .nilIface ∧ 0 < m) ∨ (m = 0 ∧ ∃ eo, ev = .iface 63 (.pointer (some eo))))
    (h : w.heap[rb]? = some (.cells (rdCells fb D bb r r .nilIface lb lr) t (0, 0)))
    (R : World → World → Prop) (hRk : ∀ a b, R a b → b.heap[rb]? = a.heap[rb]?)
    (hRead : ∀ W, Turned [rb] w W → Calls Tryd.prog 51 #[.pointer (some ⟨bb, 0, none⟩), .slice (some ⟨fb, 0, none⟩) D D] W fun e W' => e = .returned (.tuple #[.int .i64 m, ev]) ∧ R W W') :
    Calls Tryd.prog 33 #[.pointer (some ⟨rb, 0, none⟩)] w fun e w' => e = .returned (.tuple #[]) ∧ w'.heap[rb]? = some (.cells (rdCells fb D bb 0 m ev lb lr) t (0, 0)) ∧
      ∃ w1, Turned [rb] w w1 ∧ ∃ w2, R w1 w2 ∧ Turned [rb] w2 w' := by
  have c0 : w.cell? ⟨rb, 0, none⟩ = some (.slice (some ⟨fb, 0, none⟩) D D) := by rw [blk_cell h]; rfl
  have c2 : w.cell? ⟨rb, 2, none⟩ = some (.int .i64 r) := by rw [blk_cell h]; rfl
  have c3 : w.cell? ⟨rb, 3, none⟩ = some (.int .i64 r) := by rw [blk_cell h]; rfl
  have f2 := blk_frozen h 2
  have f3 := blk_frozen h 3
  have i0 : (0 : Int) ≤ (r : Int) := Int.natCast_nonneg _
  have i1 : (r : Int) ≤ (D : Int) := by omega
  have i2 : (0 : Int) < (D : Int) := by omega
  have i3 : ¬ (D : Int) ≤ 0 := by omega
  have i4 : ¬ D = 0 := by omega
  have H : Hid (w.heap[rb]? = some (.cells (rdCells fb D bb r r .nilIface lb lr) t (0, 0))) := h
  have HRk : Hid (∀ a b, R a b → b.heap[rb]? = a.heap[rb]?) := hRk
  have HRead : Hid (∀ W, Turned [rb] w W → Calls Tryd.prog 51 #[.pointer (some ⟨bb, 0, none⟩), .slice (some ⟨fb, 0, none⟩) D D] W fun e W' => e = .returned (.tuple #[.int .i64 m, ev]) ∧ R W W') := hRead
  have HCase : Hid ((ev = .nilIface ∧ 0 < m) ∨ (m = 0 ∧ ∃ eo, ev = .iface 63 (.pointer (some eo)))) := hcase
  clear h hRk hRead hcase
  by_cases h0 : r = 0
  · subst h0
    go_enter Tryd.func33, Tryd.ntmps33
    go_wp2
    go_quiet (fail)
    generalize hw1 : w.drewN nq = w1
    have HT : Hid (Turned [rb] w w1) := by subst hw1; exact (Turned.refl _ _).drewN _
    have HB1 : Hid (w1.heap[rb]? = some (.cells (rdCells fb D bb 0 0 .nilIface lb lr) t (0, 0))) := by subst hw1; exact H.out
    clear hw1 c0 c2 c3 f2 f3 H
    have c0 : w1.cell? ⟨rb, 0, none⟩ = some (.slice (some ⟨fb, 0, none⟩) D D) := by rw [blk_cell HB1.out]; rfl
    have c1 : w1.cell? ⟨rb, 1, none⟩ = some (.iface 42 (.pointer (some ⟨bb, 0, none⟩))) := by rw [blk_cell HB1.out]; rfl
    have c3 : w1.cell? ⟨rb, 3, none⟩ = some (.int .i64 0) := by rw [blk_cell HB1.out]; rfl
    go_wp2
    refine wp_loop_rounds 1 ?_
    rw [rounds_succ]
    go_wp2
    have hmr := Tryd.methodRead
    go_region_held3 (fun w' => w'.cell? ⟨rb, 0, none⟩ = some (.slice (some ⟨fb, 0, none⟩) D D) ∧ w'.cell? ⟨rb, 1, none⟩ = some (.iface 42 (.pointer (some ⟨bb, 0, none⟩))) ∧ w'.cell? ⟨rb, 3, none⟩ = some (.int .i64 0))
        (first | go_keep | (go_split_ands; refine ⟨?_, ?_, ?_⟩ <;> (rw [World.cell?_of_block (HRk.out _ _ HR)]; assumption)))
        ((go_at_call 51; refine (HRead.out _ HT.out.drew).mono ?_; rintro e w2 ⟨rfl, HR⟩))
    have HB2 : Hid (w2.heap[rb]? = some (.cells (rdCells fb D bb 0 0 .nilIface lb lr) t (0, 0))) := (HRk.out _ _ HR).trans HB1.out
    clear c0 c1 c3 HB1
    have d3 : w2.cell? ⟨rb, 3, none⟩ = some (.int .i64 0) := by rw [blk_cell HB2.out]; rfl
    have d4 : w2.cell? ⟨rb, 4, none⟩ = some .nilIface := by rw [blk_cell HB2.out]; rfl
    have f3 := blk_frozen HB2.out 3
    have f4 := blk_frozen HB2.out 4
    rcases HCase.out with ⟨rfl, hm0⟩ | ⟨rfl, eo, rfl⟩
    · have hm0' : (0 : Int) < (m : Int) := by omega
      go_wp2
      (try simp only [Exit.inBlock, Exit.then]); refine bodyPost_ret (results_none rfl _ _ _) rfl ?_
      refine ⟨rfl, ?_, _, HT.out.drew, _, HR, (Turned.refl _ _).setCell (by simp) _⟩
      exact blk_set HB2.out 3 _
    · go_wp2
      (try simp only [Exit.inBlock, Exit.then]); refine bodyPost_ret (results_none rfl _ _ _) rfl ?_
      refine ⟨rfl, ?_, _, HT.out.drew, _, HR, ((Turned.refl _ _).setCell (by simp) _).setCell (by simp) _⟩
      exact blk_set (blk_set HB2.out 3 _) 4 _
  · have h1 : (0 : Int) < (r : Int) := by omega
    by_cases hd : D = r
    all_goals
      go_enter Tryd.func33, Tryd.ntmps33
      go_wp2
      go_region_held3 (fun w' => w'.cell? ⟨rb, 0, none⟩ = some (.slice (some ⟨fb, 0, none⟩) D D) ∧ w'.cell? ⟨rb, 2, none⟩ = some (.int .i64 r) ∧ w'.cell? ⟨rb, 3, none⟩ = some (.int .i64 r))
        (go_keep) ((refine step_copy_none (by rfl) (.tmp 13) (.tmp 26) 22 22 (by rfl) 5 Tryd.underlying22 Tryd.size5 _ _ _ _ _ _ (by rfl) (by rfl) (by simp) ?_))
      clear hd
      go_wp2
      go_region
      go_wp2
      generalize hw1 : ((w.setCell { block := rb, off := 3 } (Value.int IntKind.i64 0)).setCell { block := rb, off := 2 } (Value.int IntKind.i64 0)).drew.drew = w0
      have HT0 : Hid (Turned [rb] w w0) := by subst hw1; exact ((((Turned.refl _ _).setCell (by simp) _).setCell (by simp) _).drew).drew
      have HB0 : Hid (w0.heap[rb]? = some (.cells (rdCells fb D bb 0 0 .nilIface lb lr) t (0, 0))) := by subst hw1; exact blk_set (blk_set H.out 3 _) 2 _
      clear hw1 c0 c2 c3 f2 f3 H
      have c0 : w0.cell? ⟨rb, 0, none⟩ = some (.slice (some ⟨fb, 0, none⟩) D D) := by rw [blk_cell HB0.out]; rfl
      have c3 : w0.cell? ⟨rb, 3, none⟩ = some (.int .i64 0) := by rw [blk_cell HB0.out]; rfl
      go_quiet (fail)
      generalize hw1 : w0.drewN nq = w1
      have HT : Hid (Turned [rb] w w1) := by subst hw1; exact HT0.out.drewN _
      have HB1 : Hid (w1.heap[rb]? = some (.cells (rdCells fb D bb 0 0 .nilIface lb lr) t (0, 0))) := by subst hw1; exact HB0.out
      clear hw1 c0 c3 HB0 HT0
      have c0 : w1.cell? ⟨rb, 0, none⟩ = some (.slice (some ⟨fb, 0, none⟩) D D) := by rw [blk_cell HB1.out]; rfl
      have c1 : w1.cell? ⟨rb, 1, none⟩ = some (.iface 42 (.pointer (some ⟨bb, 0, none⟩))) := by rw [blk_cell HB1.out]; rfl
      have c3 : w1.cell? ⟨rb, 3, none⟩ = some (.int .i64 0) := by rw [blk_cell HB1.out]; rfl
      go_wp2
      refine wp_loop_rounds 1 ?_
      rw [rounds_succ]
      go_wp2
      have hmr := Tryd.methodRead
      go_region_held3 (fun w' => w'.cell? ⟨rb, 0, none⟩ = some (.slice (some ⟨fb, 0, none⟩) D D) ∧ w'.cell? ⟨rb, 1, none⟩ = some (.iface 42 (.pointer (some ⟨bb, 0, none⟩))) ∧ w'.cell? ⟨rb, 3, none⟩ = some (.int .i64 0))
          (first | go_keep | (go_split_ands; refine ⟨?_, ?_, ?_⟩ <;> (rw [World.cell?_of_block (HRk.out _ _ HR)]; assumption)))
          ((go_at_call 51; refine (HRead.out _ HT.out.drew).mono ?_; rintro e w2 ⟨rfl, HR⟩))
      have HB2 : Hid (w2.heap[rb]? = some (.cells (rdCells fb D bb 0 0 .nilIface lb lr) t (0, 0))) := (HRk.out _ _ HR).trans HB1.out
      clear c0 c1 c3 HB1
      have d3 : w2.cell? ⟨rb, 3, none⟩ = some (.int .i64 0) := by rw [blk_cell HB2.out]; rfl
      have d4 : w2.cell? ⟨rb, 4, none⟩ = some .nilIface := by rw [blk_cell HB2.out]; rfl
      have f3 := blk_frozen HB2.out 3
      have f4 := blk_frozen HB2.out 4
      rcases HCase.out with ⟨rfl, hm0⟩ | ⟨rfl, eo, rfl⟩
      · have hm0' : (0 : Int) < (m : Int) := by omega
        go_wp2
        (try simp only [Exit.inBlock, Exit.then]); refine bodyPost_ret (results_none rfl _ _ _) rfl ?_
        refine ⟨rfl, ?_, _, HT.out.drew, _, HR, (Turned.refl _ _).setCell (by simp) _⟩
        exact blk_set HB2.out 3 _
      · go_wp2
        (try simp only [Exit.inBlock, Exit.then]); refine bodyPost_ret (results_none rfl _ _ _) rfl ?_
        refine ⟨rfl, ?_, _, HT.out.drew, _, HR, ((Turned.refl _ _).setCell (by simp) _).setCell (by simp) _⟩
        exact blk_set (blk_set HB2.out 3 _) 4 _
end Go.Proofs.Qxb6609137aDoor
