/-
  common's closure, and sort.Slice as common calls it (the contract of the shelf, laid at this dump).
-/
import Derived.Test.Qxb6614989aShelf
import Derived.Test.Qxb6614989aMap
import Derived.Sort.LotA
import Derived.Sort.Walk0
namespace Go.Proofs.Qxb6614989a
open Go.Shelf Go.RowKit Go.Lib Go.Sort

def encE (t : Key × Int) : List Value := [encStr t.1, .int .u64 t.2]
def ltE (a b : Key × Int) : Bool := ltStr a.1 b.1
theorem swo_ltE : SWO ltE := ⟨fun x => swo_ltStr.irrefl x.1, fun x y z => swo_ltStr.trans x.1 y.1 z.1, fun x y z => swo_ltStr.ntrans x.1 y.1 z.1⟩

theorem Try.desc39 : (Try.prog.info? 39).map (·.desc) = some (.slice 42) := by kernel_rfl
theorem Try.info42 : (Try.prog.info? 42).map (fun i => (i.size, i.hasPointers, i.bytes)) = some (2, true, 24) := by kernel_rfl
theorem swapper_nine {n ke : Nat} {ie : TypeInfo} (h2 : 2 ≤ n) (hp : ie.hasPointers = true) (hb : ie.bytes = 24) (hk : (ke == 24) = false) : Lib.swapperK n ie ke = 9 := by
  have c : (n == 0) = false := by simp; omega
  have d : (n == 1) = false := by simp; omega
  simp [Lib.swapperK, hp, hb, hk, c, d]

set_option maxHeartbeats 400000 in
/-- common's own closure. -/
theorem less17 (blk off c Bs size : Nat) (W : World) (G : Nat → Key) (hs : W.cell? ⟨Bs, 0, none⟩ = some (.slice (some ⟨blk, off, none⟩) size c))
    (hc : ∀ t, t < size → W.cell? ⟨blk, off + t * 2, none⟩ = some (encStr (G t))) (i j : Nat) (hi : i < size) (hj : j < size) :
    Calls Try.prog 17 #[.int .i64 i, .int .i64 j, .pointer (some ⟨Bs, 0, none⟩)] W fun e w' => e = .returned (.bool (ltStr (G i) (G j))) ∧ ∃ q, w' = W.drewN q := by
  have ci := hc i hi
  have cj := hc j hj
  have i0 : (0 : Int) ≤ (i : Int) := by omega
  have i1 : (i : Int) < (size : Int) := by omega
  have j0 : (0 : Int) ≤ (j : Int) := by omega
  have j1 : (j : Int) < (size : Int) := by omega
  clear hc
  generalize G i = gi at *
  generalize G j = gj at *
  go_enter Try.func17, Try.ntmps17
  go_wp2
  go_quiet (fail)
  go_wp2
  go_ret
  refine ⟨?_, nq, rfl⟩
  show Ending.returned (.bool (Op.bytesLess gi gj)) = _
  rw [bytesLess_eq]; rfl

/-- sort.Slice as common calls it, at two elements or more: a permutation, in name order. -/
theorem sort_two (blk off c Bs : Nat) (d : Array (Key × Int)) (h2 : 2 ≤ d.size) (hsz : d.size < 4611686018427387904) (w : World) (hH : HoldsK encE 2 w blk off d) (hblk : blk < w.heap.size)
    (hBs : w.cell? ⟨Bs, 0, none⟩ = some (.slice (some ⟨blk, off, none⟩) d.size c)) (hB1 : Bs < w.heap.size) (hB2 : Bs ≠ blk) :
    Calls Try.prog 16 #[.iface 39 (.slice (some ⟨blk, off, none⟩) d.size c), .func (.func 17) #[] #[.pointer (some ⟨Bs, 0, none⟩)]] w fun e w' =>
      e = .returned (.tuple #[]) ∧ ∃ d' n os, PermIn 0 d.size d d' ∧ SortedIn ltE 0 d.size d' ∧ w' = grow (putRowK encE 2 (Sort.ahead w n) blk off d') os := by
  obtain ⟨iT, hiT, hdT⟩ := Option.map_eq_some_iff.1 Try.desc39
  obtain ⟨iE, hiE, hzz⟩ := Option.map_eq_some_iff.1 Try.info42
  simp only [Prod.mk.injEq] at hzz
  obtain ⟨hE1, hE2, hE3⟩ := hzz
  have hless : LessReadsK Try.prog 17 #[.pointer (some ⟨Bs, 0, none⟩)] encE 2 ltE blk off d.size w := by
    intro m os dk hs i j hi hj
    have e : sortWorldK encE 2 w blk off m dk os = putRowK encE 2 (grow (Sort.ahead w m) os) blk off dk := by
      unfold sortWorldK; rw [putRowK_grow _ _ (Sort.ahead w m) _ blk off _ hblk]
    have hHg : HoldsK encE 2 (grow (Sort.ahead w m) os) blk off d := holdsK_grow _ _ _ _ blk off d hblk (holdsK_ahead _ _ _ _ _ _ _ hH)
    refine less17 blk off c Bs d.size _ (fun t => dk[t]!.1) ?_ (fun t ht => ?_) i j hi hj
    · rw [e, cell?_putRowK_other _ _ _ blk off dk _ (by exact hB2), cell?_grow _ _ _ (by exact hB1)]; exact hBs
    · rw [e]; exact ((holdsK_putRowK _ _ _ blk off d dk hHg hs).cell (i := t) (c := 0) (by omega) (by omega)).1
  exact Any.sort_Slice_cells_sorted Try.sl6 39 42 iT iE hiT hdT (by kernel_rfl) hiE 25 (fun _ => by kernel_rfl) encE 2 (fun _ => rfl) hE1 (fun _ => by kernel_rfl)
    (fun x v hv => by simp [encE] at hv; rcases hv with rfl | rfl <;> rfl) ltE swo_ltE 17 _
    (enters_of Try.func17 (by kernel_rfl) rfl) blk off c d h2 hsz 31 (by rw [swapper_nine h2 hE2 hE3 rfl]; kernel_rfl) false
    (fun args W => run_callFunc_extern Try.func31 (by kernel_rfl) (by kernel_rfl) (by kernel_rfl) (e := Extern.ReflectliteSwapper.swap false) (by kernel_rfl) args W) w hless hH hblk

/-- .. at none or one: nothing turns. -/
theorem sort_tiny (p : Option Addr) (n c : Nat) (h1 : n ≤ 1) (lb : Array Value) (w : World) :
    Calls Try.prog 16 #[.iface 39 (.slice p n c), .func (.func 17) #[] lb] w fun e w' => e = .returned (.tuple #[]) ∧ ∃ os, w' = grow w os := by
  obtain ⟨iT, hiT, hdT⟩ := Option.map_eq_some_iff.1 Try.desc39
  obtain ⟨iE, hiE, _⟩ := Option.map_eq_some_iff.1 Try.info42
  have h : n = 0 ∨ n = 1 := by omega
  rcases h with rfl | rfl
  · exact Any.sort_Slice_tiny Try.sl6 39 42 iT iE hiT hdT (by kernel_rfl) hiE 25 (fun _ => by kernel_rfl) p 0 c (by omega) 23 (by simp only [Lib.swapperK]; kernel_rfl) (.func 17) #[] lb w
  · exact Any.sort_Slice_tiny Try.sl6 39 42 iT iE hiT hdT (by kernel_rfl) hiE 25 (fun _ => by kernel_rfl) p 1 c (by omega) 24 (by simp only [Lib.swapperK]; kernel_rfl) (.func 17) #[] lb w
end Go.Proofs.Qxb6614989a
