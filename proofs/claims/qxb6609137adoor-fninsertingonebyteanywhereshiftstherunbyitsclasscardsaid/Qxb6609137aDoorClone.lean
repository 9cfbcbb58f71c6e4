/-
  cloneBytes.
-/
import Derived.Test.Qxb6609137aDoorNew
namespace Go.Proofs.Qxb6609137aDoor
open Go.RowKit

/-- A slice of bytes that came in: its cells. -/
def Came (w : World) (p : Option Addr) (xs : List Int) : Prop :=
  xs = [] ∨ ∃ b off, p = some ⟨b, off, none⟩ ∧ ∀ j v, xs[j]? = some v → w.cell? ⟨b, off + j, none⟩ = some (.int .u8 v)

set_option maxHeartbeats 400000 in
theorem clone_nil (w : World) : Calls Tryd.prog 10 #[.slice none 0 0] w fun e w' => e = .returned (.slice none 0 0) ∧ w = w' := by
  have hnil := fun (w : World) => Lib.run_eql_slice_nil (P := Tryd.prog) w 22 5 none 0 0 0 0 Tryd.underlying22
  go_enter Tryd.func10, Tryd.ntmps10
  go_wp2
  go_ret
  exact ⟨rfl, rfl⟩

/-- The new row while it is filled: the first k bytes are there, zeros behind. -/
def half (xs : List Int) (k : Nat) : List Value := u8s (xs.take k) ++ List.replicate (xs.length - k) (.int .u8 0)
theorem half_length (xs : List Int) (k : Nat) (h : k ≤ xs.length) : (half xs k).length = xs.length := by simp [half]; omega
theorem half_get (xs : List Int) (k j : Nat) (h : k ≤ xs.length) (hj : j < xs.length) : ∃ v, (half xs k)[j]? = some v := by
  have := half_length xs k h
  exact ⟨_, List.getElem?_eq_getElem (by omega)⟩
theorem half_set (xs : List Int) (k : Nat) (h : k < xs.length) : (half xs k).set k (.int .u8 xs[k]) = half xs (k + 1) := by
  apply List.ext_getElem?
  intro j
  simp only [half, List.getElem?_set, List.getElem?_append, List.length_append, u8s, List.length_map, List.length_take, List.length_replicate, List.getElem?_map, List.getElem?_take, List.getElem?_replicate]
  by_cases h1 : k = j
  · subst h1
    have e1 : min (k + 1) xs.length = k + 1 := by omega
    have e2 : min k xs.length = k := by omega
    simp [e1, e2, h]
    omega
  · have e1 : min (k + 1) xs.length = k + 1 := by omega
    have e2 : min k xs.length = k := by omega
    simp only [if_neg h1, e1, e2]
    by_cases h2 : j < k
    · have h3 : j < k + 1 := by omega
      simp [h2, h3]
    · have h3 : ¬ j < k + 1 := by omega
      simp only [if_neg h2, if_neg h3]
      by_cases h4 : j < xs.length
      · rw [if_pos (by omega), if_pos (by omega)]
      · rw [if_neg (by omega), if_neg (by omega)]
theorem half_zero (xs : List Int) : (half xs 0).toArray = madeCells #[.int .u8 0] xs.length := by
  apply Array.ext
  · simp [half, size_madeCells]
  · intro i h1 h2
    simp [half, madeCells, Nat.mod_one]
theorem half_full (xs : List Int) : half xs xs.length = u8s xs := by simp [half]

set_option maxHeartbeats 1000000 in
theorem clone_some (a : Addr) (cap n : Nat) (xs : List Int) (hn : xs.length = n) (h63 : n ≤ 1000000) (w : World) (hc : Came w (some a) xs) :
    Calls Tryd.prog 10 #[.slice (some a) n cap] w fun e w' => e = .returned (.slice (some ⟨w.heap.size, 0, none⟩) n n) ∧
      w'.heap[w.heap.size]? = some (.cells (u8s xs).toArray 5 (0, 0)) ∧ Below w.heap.size w w' ∧ w'.heap.size = w.heap.size + 1 := by
  have hnil := fun (w : World) => Lib.run_eql_slice_nil (P := Tryd.prog) w 22 5 (some a) n cap 0 0 Tryd.underlying22
  have hmk := run_make_row' (P := Tryd.prog) 22 5 (.int .u8 0) 1 Tryd.underlying22 Tryd.info5 rfl .i64 .i64 n (by omega) (by omega)
  have HZ : Hid ((half xs 0).toArray = madeCells #[.int .u8 0] n) := by have := half_zero xs; rw [hn] at this; exact this
  obtain ⟨M, hM⟩ : ∃ M, M = madeCells #[.int .u8 0] n := ⟨_, rfl⟩
  rw [← hM] at hmk HZ
  have HN : Hid (xs.length = n) := hn
  have HC : Hid (Came w (some a) xs) := hc
  clear hM hn hc
  go_enter Tryd.func10, Tryd.ntmps10
  go_wp2
  clear hmk hnil
  go_loopg [4] n (fun g i wr => ∃ k : Nat, k ≤ n ∧ g = n - k ∧ i = .int .i64 k ∧ wr.heap[w.heap.size]? = some (.cells (half xs k).toArray 5 (0, 0)) ∧ Below w.heap.size w wr ∧ wr.heap.size = w.heap.size + 1)
  case atStart => exact ⟨0, Nat.zero_le _, rfl, rfl, by rw [HZ.out]; exact heap_alloc_new w _, (Below.refl _ _).alloc (Nat.le_refl _) _, by simp⟩
  case round =>
    obtain ⟨k, hk, rfl, rfl, hrow, hB, hsz⟩ := hrel
    have HRow : Hid (wr.heap[w.heap.size]? = some (.cells (half xs k).toArray 5 (0, 0))) := hrow
    have HSz : Hid (wr.heap.size = w.heap.size + 1) := hsz
    clear hrow hsz
    by_cases hlt : k < n
    · have hltI : (k : Int) < (n : Int) := by omega
      have hk0 : (0 : Int) ≤ (k : Int) := by omega
      have hkx : k < xs.length := by have := HN.out; omega
      obtain ⟨b, off, rfl, g0⟩ : ∃ b off, a = ⟨b, off, none⟩ ∧ wr.cell? ⟨b, off + k, none⟩ = some (.int .u8 (xs[k]'hkx)) := by
        rcases HC.out with h | ⟨b, off, h1, h2⟩
        · subst h; simp at hkx
        · have h3 := h2 k _ (List.getElem?_eq_getElem hkx)
          exact ⟨b, off, by simpa using h1, by rw [hB.cell (by exact World.block_lt_of_cell? w _ h3)]; exact h3⟩
      obtain ⟨old, hold⟩ := half_get xs k k (by omega) hkx
      have g1 : wr.cell? ⟨w.heap.size, k, none⟩ = some old := by rw [blk_cell HRow.out]; simpa using hold
      have g2 := blk_frozen HRow.out k
      clear hold
      go_wp2
      go_roundg (n - (k + 1))
      case rel =>
        refine ⟨k + 1, hlt, rfl, by go_num, ?_, hB.setCell (Nat.le_refl _) _, by simpa using HSz.out⟩
        rw [blk_set HRow.out k _, ← half_set xs k hkx]; simp
      case measure => omega
    · have hkn : k = n := by omega
      have hnl : ¬ (k : Int) < (n : Int) := by omega
      have HK : Hid (k = n) := hkn
      clear hkn
      go_wp2
      go_ret
      refine ⟨rfl, ?_, hB, HSz.out⟩
      have := HRow.out
      rw [HK.out, ← HN.out, half_full] at this
      exact this
end Go.Proofs.Qxb6609137aDoor
