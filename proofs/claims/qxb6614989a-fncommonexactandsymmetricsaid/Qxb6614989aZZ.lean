/-
  ZZcommon: common's list as two slices.
-/
import Derived.Test.Qxb6614989aCommonB
import Derived.Deep.OwnRows
namespace Go.Proofs.Qxb6614989a
open Go.RowKit Go.WideMaps Go.Maps

/-- A row of values: its cells. -/
def CameV (w : World) (p : Option Addr) (vs : List Value) : Prop :=
  vs = [] ∨ ∃ b off, p = some ⟨b, off, none⟩ ∧ ∀ j v, vs[j]? = some v → w.cell? ⟨b, off + j, none⟩ = some v

theorem CameV.below {w w' : World} {B : Nat} {p : Option Addr} {vs : List Value} (h : CameV w p vs) (hb : Below B w w') (hB : w.heap.size ≤ B) : CameV w' p vs := by
  rcases h with h0 | ⟨b, off, hp, hc⟩
  · exact .inl h0
  · exact .inr ⟨b, off, hp, fun j v hj => by have h1 := hc j v hj; rw [hb.cell (Nat.lt_of_lt_of_le (World.block_lt_of_cell? w _ h1) hB)]; exact h1⟩

/-- A new row while it is filled from below: its first k places hold those of vs. -/
def Laid (w : World) (g : Nat) (t : TypeId) (n : Nat) (vs : List Value) (k : Nat) : Prop :=
  ∃ cur, w.heap[g]? = some (.cells cur t (0, 0)) ∧ cur.size = n ∧ ∀ j, j < k → cur[j]? = vs[j]?

theorem Laid.start {w : World} {g : Nat} {t : TypeId} {n : Nat} {cur : Array Value} (vs : List Value) (h : w.heap[g]? = some (.cells cur t (0, 0))) (hs : cur.size = n) : Laid w g t n vs 0 := ⟨cur, h, hs, fun _ hj => absurd hj (Nat.not_lt_zero _)⟩
theorem Laid.of_heap {w w' : World} {g : Nat} {t : TypeId} {n : Nat} {vs : List Value} {k : Nat} (h : Laid w g t n vs k) (he : w'.heap[g]? = w.heap[g]?) : Laid w' g t n vs k := by
  obtain ⟨cur, h1, h2⟩ := h
  exact ⟨cur, by rw [he]; exact h1, h2⟩
theorem Laid.place {w : World} {g : Nat} {t : TypeId} {n : Nat} {vs : List Value} {k : Nat} (h : Laid w g t n vs k) (j : Nat) (hj : j < n) : ∃ old, w.cell? ⟨g, j, none⟩ = some old ∧ w.frozen? ⟨g, j, none⟩ = false := by
  obtain ⟨cur, h1, h2, _⟩ := h
  refine ⟨cur[j]'(by omega), ?_, by simp [World.frozen?, h1]⟩
  simp [World.cell?, h1]
theorem Laid.set {w : World} {g : Nat} {t : TypeId} {n : Nat} {vs : List Value} {k : Nat} (h : Laid w g t n vs k) {v : Value} (hv : vs[k]? = some v) (hk : k < n) : Laid (w.setCell ⟨g, k, none⟩ v) g t n vs (k + 1) := by
  obtain ⟨cur, h1, h2, h3⟩ := h
  refine ⟨cur.setIfInBounds k v, by simp [World.setCell, Array.getElem?_modify, h1], by simpa using h2, fun j hj => ?_⟩
  by_cases e : j = k
  · subst e
    rw [hv]
    simp [show j < cur.size by omega]
  · rw [Array.getElem?_setIfInBounds_ne (by omega)]
    exact h3 j (by omega)
theorem Laid.came {w : World} {g : Nat} {t : TypeId} {n : Nat} {vs : List Value} (h : Laid w g t n vs n) (hn : vs.length = n) : CameV w (some ⟨g, 0, none⟩) vs := by
  obtain ⟨cur, h1, h2, h3⟩ := h
  refine .inr ⟨g, 0, rfl, fun j v hj => ?_⟩
  have hl : j < n := by have := (List.getElem?_eq_some_iff.1 hj).1; omega
  simp only [World.cell?, h1, Nat.zero_add]
  simpa [h3 j hl] using hj

theorem Try.info9z : (Try.prog.info? 9).map (fun i => (i.zero, i.size, i.bytes)) = some (some (.string ⟨#[]⟩), 1, 16) := by kernel_rfl
theorem Try.info33z : (Try.prog.info? 33).map (fun i => (i.zero, i.size, i.bytes)) = some (some (.int .u64 0), 1, 8) := by kernel_rfl
theorem Try.size42 : (Try.prog.info? 42).map (·.size) = some 2 := by kernel_rfl

theorem ix39_any (b off n c k : Nat) (hk : k < n) (w : World) : (Instr.indexAt 39 (.slice (some ⟨b, off, none⟩) n c) (.int .i64 k)).run Try.prog w = .ok (.pointer (some ⟨b, off + k * 2, none⟩)) w := by
  have h1 : (k : Int) < (n : Int) := by omega
  have h0 : (0 : Int) ≤ (k : Int) := by omega
  have hu := Try.underlying39
  obtain ⟨i, hi, hs⟩ := Option.map_eq_some_iff.1 Try.size42
  go_simp

theorem CameE.ix39 {w : World} {p : Option Addr} {es : List (Key × Int)} (h : CameE w p es) (n c j : Nat) (hn : es.length = n) (hj : j < es.length) :
    ∃ b off, (∀ w', (Instr.indexAt 39 (.slice p n c) (.int .i64 j)).run Try.prog w' = .ok (.pointer (some ⟨b, off + j * 2, none⟩)) w') ∧ w.cell? ⟨b, off + j * 2, none⟩ = some (encStr (es[j]'hj).1) ∧ w.cell? ⟨b, off + j * 2 + 1, none⟩ = some (.int .u64 (es[j]'hj).2) := by
  rcases h with h0 | ⟨b, off, hp, hc⟩
  · subst h0; simp at hj
  · obtain ⟨h1, h2⟩ := hc j _ (List.getElem?_eq_getElem hj)
    exact ⟨b, off, fun w' => by rw [hp]; exact ix39_any b off n c j (by omega) w', h1, h2⟩

def kOf (t : Key × Int) : Value := encStr t.1
def nOf (t : Key × Int) : Value := .int .u64 t.2

theorem make_two (n : Nat) (h : n ≤ 1000001) : ∃ M1 M2 : Array Value, Hid (M1.size = n ∧ M2.size = n) ∧ (∀ w : World, (Instr.makeSlice 27 (.int .i64 (n : Int)) (.int .i64 (n : Int))).run Try.prog w = .ok (.slice (some ⟨w.heap.size, 0, none⟩) n n) (w.alloc (.cells M1 9))) ∧
    (∀ w : World, (Instr.makeSlice 28 (.int .i64 (n : Int)) (.int .i64 (n : Int))).run Try.prog w = .ok (.slice (some ⟨w.heap.size, 0, none⟩) n n) (w.alloc (.cells M2 33))) :=
  ⟨_, _, ⟨by simp [size_madeCells], by simp [size_madeCells]⟩, run_make_row' (P := Try.prog) 27 9 (.string ⟨#[]⟩) 16 Try.underlying27 Try.info9z rfl .i64 .i64 n (by omega) (by omega),
    run_make_row' (P := Try.prog) 28 33 (.int .u64 0) 8 Try.underlying28 Try.info33z rfl .i64 .i64 n (by omega) (by omega)⟩

/-- What ZZcommon gives back. -/
def ZZPost (m : Nat) (f g : Key → Int) (w : World) (e : Ending) (w' : World) : Prop := ∃ (L : List (Key × Int)) (p1 p2 : Option Addr) (n c1 c2 : Nat), L.length = n ∧ n ≤ m ∧ e = .returned (.tuple #[.slice p1 n c1, .slice p2 n c2]) ∧
      CameV w' p1 (L.map kOf) ∧ CameV w' p2 (L.map nOf) ∧ Comm f g L ∧ Below w.heap.size w w'

set_option maxHeartbeats 2000000 in
theorem zzcommon_any (ba na bh nh : Nat) (DA DH : DataW Unit) (w : World) (hA : MapAt w ba na DA) (hH : MapAt w bh nh DH) (hsz : Maps.size DA ≤ 1000000) :
    Calls Try.prog 9 #[.map (some ba), .map (some bh)] w (ZZPost (Maps.size DA) (valOf DA) (valOf DH) w) := by
  have hcall := common_any ba na bh nh DA DH w hA hH hsz
  clear hA hH
  go_enter Try.func9, Try.ntmps9
  go_wp2_with (go_at_call 15; refine hcall.mono ?_; rintro e w1 ⟨L, p, n, c, HL, hle, rfl, HE, HC, HB⟩
               obtain ⟨M1, M2, HZ, hmk, hmk2⟩ := make_two n (by omega)
               replace HL : Hid (L.length = n) := HL
               replace HE : Hid (CameE w1 p L) := HE
               replace HC : Hid (Comm (valOf DA) (valOf DH) L) := HC
               replace HB : Hid (Below w.heap.size w w1) := HB)
  clear hmk hmk2
  go_loopg [21] n (fun g i wr => ∃ k : Nat, k ≤ n ∧ g = n - k ∧ i = .int .i64 k ∧ Laid wr w1.heap.size 9 n (L.map kOf) k ∧ Laid wr (w1.heap.size + 1) 33 n (L.map nOf) k ∧ Below w1.heap.size w1 wr)
  case atStart =>
    refine ⟨0, Nat.zero_le _, rfl, rfl, Laid.start _ (cur := M1) ?_ HZ.out.1, Laid.start _ (cur := M2) ?_ HZ.out.2, ?_⟩
    · rw [Below.heap_alloc _ _ _ (by simp)]; exact heap_alloc_new w1 _
    · have := heap_alloc_new (w1.alloc (.cells M1 9)) (.cells M2 33)
      simpa using this
    · exact ((Below.refl _ _).alloc (Nat.le_refl _) _).alloc (by simp) _
  case round =>
    obtain ⟨k, hk, rfl, rfl, hl1, hl2, hB⟩ := hrel
    have H1 : Hid (Laid wr w1.heap.size 9 n (L.map kOf) k) := hl1
    have H2 : Hid (Laid wr (w1.heap.size + 1) 33 n (L.map nOf) k) := hl2
    have HB2 : Hid (Below w1.heap.size w1 wr) := hB
    clear hl1 hl2 hB
    by_cases hlt : k < n
    · have hltI : (k : Int) < (n : Int) := by omega
      have hk0 : (0 : Int) ≤ (k : Int) := by omega
      have hkx : k < L.length := by have := HL.out; omega
      obtain ⟨b, off, hix, g0, g1⟩ := HE.out.ix39 n c k HL.out hkx
      have hb1 : b < w1.heap.size := World.block_lt_of_cell? w1 _ g0
      obtain ⟨o1, q0, q1⟩ := H1.out.place k hlt
      obtain ⟨o2, q2, q3⟩ := H2.out.place k hlt
      have d0 : wr.cell? ⟨b, off + k * 2, none⟩ = some (encStr (L[k]'hkx).1) := by rw [HB2.out.cell hb1]; exact g0
      have d1 : wr.cell? ⟨b, off + k * 2 + 1, none⟩ = some (.int .u64 (L[k]'hkx).2) := by rw [HB2.out.cell hb1]; exact g1
      have hne : b ≠ w1.heap.size := by omega
      have HV : Hid ((L.map kOf)[k]? = some (encStr (L[k]'hkx).1) ∧ (L.map nOf)[k]? = some (.int .u64 (L[k]'hkx).2)) := ⟨by simp [hkx, kOf], by simp [hkx, nOf]⟩
      generalize (L[k]'hkx).1 = key at *
      generalize (L[k]'hkx).2 = num at *
      clear g0 g1 hb1
      go_wp2
      go_roundg (n - (k + 1))
      case rel =>
        refine ⟨k + 1, hlt, rfl, by go_num, ?_, ?_, ?_⟩
        · exact (H1.out.set HV.out.1 hlt).of_heap (Below.heap_setCell _ _ _ _ (by simp))
        · exact (H2.out.of_heap (Below.heap_setCell _ _ _ _ (by simp))).set HV.out.2 hlt
        · exact (HB2.out.setCell (Nat.le_refl _) _).setCell (by simp) _
      case measure => omega
    · have HK : Hid (k = n) := (by omega : k = n)
      have hnl : ¬ (k : Int) < (n : Int) := by omega
      go_wp2
      go_ret2
      have e1 := H1.out
      have e2 := H2.out
      rw [HK.out] at e1 e2
      exact ⟨L, _, _, n, n, n, HL.out, hle, rfl, e1.came (by simpa using HL.out), e2.came (by simpa using HL.out), HC.out, HB.out.trans (HB2.out.mono HB.out.size)⟩
end Go.Proofs.Qxb6614989a
