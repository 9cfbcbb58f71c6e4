/-
  bytes.NewReader, bufio.NewReaderSize, NewScanner, ZZnewScannerOfBytes.
-/
import Derived.Test.Qxb6609137aDoorZZ
import Derived.Deep.OwnRows
namespace Go.Proofs.Qxb6609137aDoor
open Go.RowKit

theorem Tryd.info5 : (Tryd.prog.info? 5).map (fun i => (i.zero, i.size, i.bytes)) = some (some (.int .u8 0), 1, 1) := by kernel_rfl

set_option maxHeartbeats 400000 in
theorem newReader_any (p : Option Addr) (n cap : Nat) (w : World) :
    Calls Tryd.prog 25 #[.slice p n cap] w fun e w' => e = .returned (.pointer (some ⟨w.heap.size, 0, none⟩)) ∧ w' = w.alloc (.cells #[.slice p n cap, .int .i64 0, .int .i64 (-1)] 55) := by
  go_enter Tryd.func25, Tryd.ntmps25
  go_wp2
  go_ret
  exact ⟨rfl, rfl⟩

set_option maxHeartbeats 400000 in
theorem reset_any (rb : Nat) (a b c d e f g : Value) (p : Option Addr) (n cap bb : Nat) (w : World)
    (h : w.heap[rb]? = some (.cells #[a, b, c, d, e, f, g] 58 (0, 0))) :
    Calls Tryd.prog 31 #[.pointer (some ⟨rb, 0, none⟩), .slice p n cap, .iface 42 (.pointer (some ⟨bb, 0, none⟩))] w fun e w' => e = .returned (.tuple #[]) ∧ 
      w'.heap[rb]? = some (.cells #[.slice p n cap, .iface 42 (.pointer (some ⟨bb, 0, none⟩)), .int .i64 0, .int .i64 0, .nilIface, .int .i64 (-1), .int .i64 (-1)] 58 (0, 0)) ∧ Turned [rb] w w' := by
  have c0 : w.cell? ⟨rb, 0, none⟩ = some a := by rw [blk_cell h]; rfl
  have c1 : w.cell? ⟨rb, 1, none⟩ = some b := by rw [blk_cell h]; rfl
  have c2 : w.cell? ⟨rb, 2, none⟩ = some c := by rw [blk_cell h]; rfl
  have c3 : w.cell? ⟨rb, 3, none⟩ = some d := by rw [blk_cell h]; rfl
  have c4 : w.cell? ⟨rb, 4, none⟩ = some e := by rw [blk_cell h]; rfl
  have c5 : w.cell? ⟨rb, 5, none⟩ = some f := by rw [blk_cell h]; rfl
  have c6 : w.cell? ⟨rb, 6, none⟩ = some g := by rw [blk_cell h]; rfl
  have f0 := blk_frozen h 0
  have f1 := blk_frozen h 1
  have f2 := blk_frozen h 2
  have f3 := blk_frozen h 3
  have f4 := blk_frozen h 4
  have f5 := blk_frozen h 5
  have f6 := blk_frozen h 6
  have H : Hid (w.heap[rb]? = some (.cells #[a, b, c, d, e, f, g] 58 (0, 0))) := h
  clear h
  go_enter Tryd.func31, Tryd.ntmps31
  go_wp2
  go_end0
  refine ⟨rfl, ?_, ?_⟩
  · exact blk_set (blk_set (blk_set (blk_set (blk_set (blk_set (blk_set H.out 0 _) 1 _) 2 _) 3 _) 4 _) 5 _) 6 _
  · exact (((((((Turned.refl _ _).setCell (by simp) _).setCell (by simp) _).setCell (by simp) _).setCell (by simp) _).setCell (by simp) _).setCell (by simp) _).setCell (by simp) _

theorem Tryd.assertReader (a : Addr) (w : World) : Sem.run Tryd.prog (Instr.typeAssert (.iface 42 (.pointer (some a))) 52 44 true) w = .ok (.tuple #[.pointer none, .bool false]) w := by kernel_rfl

theorem alloc_fst (w : World) (o o' : Obj) : ((w.alloc o).alloc o').heap[w.heap.size]? = some o := by
  rw [Below.heap_alloc _ _ _ (by simp)]; exact heap_alloc_new w o
theorem alloc_snd (w : World) (o o' : Obj) : ((w.alloc o).alloc o').heap[w.heap.size + 1]? = some o' := by
  have := heap_alloc_new (w.alloc o) o'
  simpa using this

theorem made_list (D : Nat) : ∃ cur : List Value, cur.length = D ∧ madeCells #[.int .u8 0] D = cur.toArray :=
  ⟨(madeCells #[.int .u8 0] D).toList, by simp [size_madeCells], by simp⟩

set_option maxHeartbeats 400000 in
theorem newReaderSize_any (bb D : Nat) (hD : 16 ≤ D) (hD1 : D ≤ 1000000) (w : World) :
    Calls Tryd.prog 29 #[.iface 42 (.pointer (some ⟨bb, 0, none⟩)), .int .i64 D] w fun e w' => e = .returned (.pointer (some ⟨w.heap.size, 0, none⟩)) ∧
      w'.heap[w.heap.size]? = some (.cells (rdCells (w.heap.size + 1) D bb 0 0 .nilIface (-1) (-1)) 58 (0, 0)) ∧
      (∃ cur : List Value, cur.length = D ∧ w'.heap[w.heap.size + 1]? = some (.cells cur.toArray 5 (0, 0))) ∧ Below w.heap.size w w' ∧ w'.heap.size = w.heap.size + 2 := by
  obtain ⟨cur, hcur, hmade⟩ := made_list D
  have hmk := run_make_row' (P := Tryd.prog) 22 5 (.int .u8 0) 1 Tryd.underlying22 Tryd.info5 rfl .i64 .i64 D (by omega) (by omega)
  rw [hmade] at hmk
  have HCur : Hid (cur.length = D) := hcur
  clear hcur hmade
  have hta := Tryd.assertReader
  have hD' : (16 : Int) ≤ (D : Int) := by omega
  go_enter Tryd.func29, Tryd.ntmps29
  go_wp2_with (go_at_call 31; refine (reset_any w.heap.size _ _ _ _ _ _ _ _ D D bb _ (alloc_fst w _ _)).mono ?_; rintro e w1 ⟨rfl, HR⟩)
  go_ret
  obtain ⟨hb1, ht1⟩ := HR
  refine ⟨rfl, hb1, ⟨cur, HCur.out, ?_⟩, ?_, ?_⟩
  · rw [ht1.block _ (by simp)]; exact alloc_snd w _ _
  · exact (((Below.refl _ _).alloc (Nat.le_refl _) _).alloc (by simp) _).trans (ht1.below (by simp))
  · rw [ht1.size]; simp

theorem newReaderSize_32k (bb : Nat) (w : World) :
    Calls Tryd.prog 29 #[.iface 42 (.pointer (some ⟨bb, 0, none⟩)), .int .i64 32768] w fun e w' => e = .returned (.pointer (some ⟨w.heap.size, 0, none⟩)) ∧
      w'.heap[w.heap.size]? = some (.cells (rdCells (w.heap.size + 1) 32768 bb 0 0 .nilIface (-1) (-1)) 58 (0, 0)) ∧
      (∃ cur : List Value, cur.length = 32768 ∧ w'.heap[w.heap.size + 1]? = some (.cells cur.toArray 5 (0, 0))) ∧ Below w.heap.size w w' ∧ w'.heap.size = w.heap.size + 2 :=
  newReaderSize_any bb 32768 (by decide) (by decide) w

set_option maxHeartbeats 400000 in
theorem newScanner_any (bb : Nat) (wr : ByteArray) (w : World) :
    Calls Tryd.prog 24 #[.iface 42 (.pointer (some ⟨bb, 0, none⟩)), .string wr] w fun e w' => e = .returned (.pointer (some ⟨w.heap.size + 2, 0, none⟩)) ∧
      w'.heap[w.heap.size]? = some (.cells (rdCells (w.heap.size + 1) 32768 bb 0 0 .nilIface (-1) (-1)) 58 (0, 0)) ∧
      (∃ cur : List Value, cur.length = 32768 ∧ w'.heap[w.heap.size + 1]? = some (.cells cur.toArray 5 (0, 0))) ∧
      w'.heap[w.heap.size + 2]? = some (.cells #[.pointer (some ⟨w.heap.size, 0, none⟩), .int .i64 0, .string wr] 46 (0, 0)) ∧ Below w.heap.size w w' ∧ w'.heap.size = w.heap.size + 3 := by
  have HC : Hid (Calls Tryd.prog 29 #[.iface 42 (.pointer (some ⟨bb, 0, none⟩)), .int .i64 32768] w fun e w' => e = .returned (.pointer (some ⟨w.heap.size, 0, none⟩)) ∧
      Hid (w'.heap[w.heap.size]? = some (.cells (rdCells (w.heap.size + 1) 32768 bb 0 0 .nilIface (-1) (-1)) 58 (0, 0)) ∧
      (∃ cur : List Value, cur.length = 32768 ∧ w'.heap[w.heap.size + 1]? = some (.cells cur.toArray 5 (0, 0))) ∧ Below w.heap.size w w' ∧ w'.heap.size = w.heap.size + 2)) := newReaderSize_32k bb w
  go_enter Tryd.func24, Tryd.ntmps24
  go_wp2_with (go_at_call 29; refine HC.out.mono ?_; rintro e w1 ⟨rfl, HR⟩)
  go_ret
  obtain ⟨h1, ⟨cur, hcur, h2⟩, h3, h4⟩ := HR.out
  refine ⟨?_, ?_, ⟨cur, hcur, ?_⟩, ?_, ?_, ?_⟩
  · rw [← h4]; rfl
  · rw [Below.heap_alloc _ _ _ (by omega)]; exact h1
  · rw [Below.heap_alloc _ _ _ (by omega)]; exact h2
  · rw [← h4]; exact heap_alloc_new w1 _
  · exact h3.alloc (by omega) _
  · simp [h4]

/-- Where the parts of a scanner lie that is made when the heap holds N blocks. -/
def newCfg (N : Nat) (p : Option Addr) (cap : Nat) (xs : List Int) (wr : ByteArray) (ev : Value) : Cfg :=
  { sb := N + 3, rb := N + 1, bb := N, fb := N + 2, D := 32768, ts := 46, tr := 58, tb := 55, p := p, cap := cap, xs := xs, wr := wr, ev := ev }

/-- A body of bytes in a world: nil or empty, or a block (off 0) that holds it. -/
structure Body (w : World) (p : Option Addr) (cap : Nat) (xs : List Int) : Prop where
  at_ : xs = [] ∨ ∃ B, p = some ⟨B, 0, none⟩ ∧ B < w.heap.size ∧ ∀ j v, xs[j]? = some v → w.cell? ⟨B, j, none⟩ = some (.int .u8 v)
  cap : xs.length ≤ cap
  len : xs.length ≤ 1000000
  bytes : ∀ v ∈ xs, 0 ≤ v ∧ v ≤ 255

theorem newCfg_ok {w : World} {p : Option Addr} {cap : Nat} {xs : List Int} (hb : Body w p cap xs) (wr : ByteArray) {ev : Value} (hev : ∃ eo, ev = .iface 63 (.pointer (some eo))) (h0 : 0 < w.heap.size) :
    (newCfg w.heap.size p cap xs wr ev).Ok := by
  refine ⟨?_, ?_, ?_, ?_, ?_, ?_, ?_, ?_, ?_, ?_, ?_, ?_, ?_, hb.len, hb.cap, hb.bytes, hev⟩ <;> simp only [newCfg] <;> try omega
  rcases hb.at_ with h | ⟨B, h1, h2, _⟩
  · exact Or.inl h
  · exact Or.inr ⟨B, h1, by omega, by omega, by omega, by omega⟩

set_option maxHeartbeats 400000 in
theorem zzNew_any (p : Option Addr) (cap : Nat) (xs : List Int) (wr : ByteArray) (ev : Value) (w : World) (hb : Body w p cap xs) (hev : ∃ eo, ev = .iface 63 (.pointer (some eo))) (hE : w.cell? ⟨0, 0, none⟩ = some ev) :
    Calls Tryd.prog 11 #[.slice p xs.length cap, .string wr] w fun e w' => e = .returned (.pointer (some ⟨w.heap.size + 3, 0, none⟩)) ∧
      (newCfg w.heap.size p cap xs wr ev).Sc 0 w' ∧ Below w.heap.size w w' ∧ w'.heap.size = w.heap.size + 4 := by
  have h0 : 0 < w.heap.size := World.block_lt_of_cell? w _ hE
  have ok := newCfg_ok hb wr hev h0
  have HB : Hid (Body w p cap xs) := hb
  have HE : Hid (w.cell? ⟨0, 0, none⟩ = some ev) := hE
  have OK : Hid ((newCfg w.heap.size p cap xs wr ev).Ok) := ok
  clear hb hev hE ok
  go_enter Tryd.func11, Tryd.ntmps11
  go_wp2_with (first | (go_at_call 25; refine (newReader_any _ _ _ _).mono ?_; rintro e w1 ⟨rfl, rfl⟩) | (go_at_call 24; refine (newScanner_any _ _ _).mono ?_; rintro e w2 ⟨rfl, HR⟩))
  go_ret
  simp only [World.size_alloc] at HR
  obtain ⟨h1, ⟨cur, hcur, h2⟩, h3, h4, h5⟩ := HR
  have hB : Below w.heap.size w w2 := ((Below.refl _ _).alloc (Nat.le_refl _) _).trans (h4.mono (by simp))
  refine ⟨rfl, ⟨⟨⟨0, 0, -1, -1, -1, cur, ?_, ?_, ?_, hcur, ?_, ?_, ?_⟩, ?_, ?_⟩, ?_⟩, hB, ?_⟩
  · exact h1
  · rw [h4.block _ (by simp [newCfg])]; exact heap_alloc_new w _
  · exact h2
  · simp [newCfg]
  · simp [newCfg]
  · intro j hj; omega
  · intro B hB' j v hv
    rcases HB.out.at_ with h | ⟨B', hp, hlt, hc⟩
    · subst h; simp [newCfg] at hv
    · have : B = B' := by simp only [newCfg] at hB'; rw [hp] at hB'; simpa using hB'.symm
      subst this
      rw [hB.cell (by exact hlt)]; exact hc j v hv
  · rw [hB.cell h0]; exact HE.out
  · exact h3
  · omega
end Go.Proofs.Qxb6609137aDoor
