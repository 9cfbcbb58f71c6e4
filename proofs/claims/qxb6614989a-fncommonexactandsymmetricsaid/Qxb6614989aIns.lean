/-
  zzInsertSorted.
-/
import Derived.Test.Qxb6614989aPlain
namespace Go.Proofs.Qxb6614989a
open Go.RowKit Go.WideMaps Go.Maps

/-- The place of a name: how many entries at the front have a smaller one. -/
def idx (x : Key) : List (Key × Int) → Nat
  | [] => 0
  | t :: L => if Op.bytesLess t.1 x = true then idx x L + 1 else 0

/-- zzInsertSorted in plain words. -/
def insL (x : Key) (v : Int) : List (Key × Int) → List (Key × Int)
  | [] => [(x, v)]
  | t :: L => if Op.bytesLess t.1 x = true then t :: insL x v L else if t.1 = x then t :: L else (x, v) :: t :: L

theorem idx_le (x : Key) : ∀ L : List (Key × Int), idx x L ≤ L.length
  | [] => Nat.le_refl _
  | t :: L => by
    have := idx_le x L
    unfold idx
    split
    · simp; omega
    · simp

theorem idx_drop (x : Key) (L : List (Key × Int)) (k : Nat) (h : k < L.length) : idx x (L.drop k) = if Op.bytesLess (L[k]'h).1 x = true then idx x (L.drop (k + 1)) + 1 else 0 := by
  rw [List.drop_eq_getElem_cons h]; rfl

theorem insL_hit (x : Key) (v : Int) : ∀ (L : List (Key × Int)) (h : idx x L < L.length), (L[idx x L]'h).1 = x → insL x v L = L
  | [], h, _ => absurd h (by simp)
  | t :: L, h, e => by
    by_cases hb : Op.bytesLess t.1 x = true
    · have ei : idx x (t :: L) = idx x L + 1 := by simp [idx, hb]
      have hl : idx x L < L.length := by rw [ei] at h; simpa using h
      have e2 : (L[idx x L]'hl).1 = x := by simpa [ei] using e
      simp only [insL, if_pos hb]
      rw [insL_hit x v L hl e2]
    · have ei : idx x (t :: L) = 0 := by simp [idx, hb]
      have e2 : t.1 = x := by simpa [ei] using e
      simp only [insL, if_neg hb, if_pos e2]

theorem insL_miss (x : Key) (v : Int) : ∀ (L : List (Key × Int)), (∀ h : idx x L < L.length, (L[idx x L]'h).1 ≠ x) → insL x v L = L.take (idx x L) ++ (x, v) :: L.drop (idx x L)
  | [], _ => rfl
  | t :: L, e => by
    by_cases hb : Op.bytesLess t.1 x = true
    · have ei : idx x (t :: L) = idx x L + 1 := by simp [idx, hb]
      have ih := insL_miss x v L (fun h => by
        have := e (by rw [ei]; simpa using h)
        simpa [ei] using this)
      simp only [insL, if_pos hb, ei]
      rw [ih]; simp
    · have ei : idx x (t :: L) = 0 := by simp [idx, hb]
      have e2 : t.1 ≠ x := by
        have := e (by rw [ei]; simp)
        simpa [ei] using this
      simp only [insL, if_neg hb, if_neg e2, ei]
      simp

/-- R is L with (x, v) at the place k. -/
structure InsAt (L R : List (Key × Int)) (k n : Nat) (x : Key) (v : Int) : Prop where
  len : R.length = n + 1
  lo : ∀ j, j < k → R[j]? = L[j]?
  mid : R[k]? = some (x, v)
  hi : ∀ j, k ≤ j → R[j + 1]? = L[j]?

theorem insAt_of {L : List (Key × Int)} {k n : Nat} (x : Key) (v : Int) (hn : L.length = n) (hk : k ≤ n) : InsAt L (L.take k ++ (x, v) :: L.drop k) k n x v := by
  have hl : (L.take k).length = k := by simp; omega
  refine ⟨by simp; omega, fun j hj => ?_, ?_, fun j hj => ?_⟩
  · rw [List.getElem?_append_left (by omega), List.getElem?_take_of_lt hj]
  · rw [List.getElem?_append_right (by omega), hl]; simp
  · rw [List.getElem?_append_right (by omega), hl, show j + 1 - k = (j - k) + 1 by omega, List.getElem?_cons_succ, List.getElem?_drop, show k + (j - k) = j by omega]

theorem make_more (n : Nat) (h : n ≤ 1000000) : ∃ M1 M2 : Array Value, Hid (M1.size = n + 1 ∧ M2.size = n + 1) ∧ (∀ w : World, (Instr.makeSlice 27 (.int .i64 ((n : Int) + 1)) (.int .i64 ((n : Int) + 1))).run Try.prog w = .ok (.slice (some ⟨w.heap.size, 0, none⟩) (n + 1) (n + 1)) (w.alloc (.cells M1 9))) ∧
    (∀ w : World, (Instr.makeSlice 28 (.int .i64 ((n : Int) + 1)) (.int .i64 ((n : Int) + 1))).run Try.prog w = .ok (.slice (some ⟨w.heap.size, 0, none⟩) (n + 1) (n + 1)) (w.alloc (.cells M2 33))) := by
  obtain ⟨M1, M2, h1, h2, h3⟩ := make_two (n + 1) (by omega)
  rw [show ((n + 1 : Nat) : Int) = (n : Int) + 1 by omega] at h2 h3
  exact ⟨M1, M2, h1, h2, h3⟩

theorem at27 (g n j : Nat) (h : j < n) (w : World) : (Instr.indexAt 27 (.slice (some ⟨g, 0, none⟩) n n) (.int .i64 (j : Int))).run Try.prog w = .ok (.pointer (some ⟨g, j, none⟩)) w := by
  have := ix27_any g 0 n n j h w
  rwa [Nat.zero_add] at this
theorem at28 (g n j : Nat) (h : j < n) (w : World) : (Instr.indexAt 28 (.slice (some ⟨g, 0, none⟩) n n) (.int .i64 (j : Int))).run Try.prog w = .ok (.pointer (some ⟨g, j, none⟩)) w := by
  have := ix28_any g 0 n n j h w
  rwa [Nat.zero_add] at this

set_option maxRecDepth 100000 in
set_option maxHeartbeats 4000000 in
theorem zzIns_any (p1 p2 : Option Addr) (n c1 c2 : Nat) (L : List (Key × Int)) (x : Key) (v : Int) (hn : L.length = n) (h63 : n ≤ 1000000) (w : World) (h1 : CameV w p1 (L.map kOf)) (h2 : CameV w p2 (L.map nOf)) :
    Calls Try.prog 14 #[.slice p1 n c1, .slice p2 n c2, encStr x, .int .u64 v] w (TwoPost (insL x v L) w) := by
  have HN : Hid (L.length = n) := hn
  have HC : Hid (CameV w p1 (L.map kOf) ∧ CameV w p2 (L.map nOf)) := ⟨h1, h2⟩
  clear hn h1 h2
  go_enter Try.func14, Try.ntmps14
  go_wp2
  go_loopg [10] n (fun g s10 wr => w = wr ∧ ∃ k : Nat, k ≤ n ∧ g = n - k ∧ s10 = .int .i64 k ∧ Hid (idx x L = k + idx x (L.drop k)))
  case atStart => exact ⟨rfl, 0, Nat.zero_le _, rfl, rfl, hid (by simp)⟩
  case round =>
    obtain ⟨rfl, k, hk, rfl, rfl, HI⟩ := hrel
    have hk0 : (0 : Int) ≤ (k : Int) := by omega
    by_cases hlt : k < n
    · have hltI : (k : Int) < (n : Int) := by omega
      have hkx : k < L.length := by have := HN.out; omega
      obtain ⟨b1, o1, ix1, g1⟩ := HC.out.1.ixK n c1 k HN.out hkx
      have HD := idx_drop x L k hkx
      cases hbl : Op.bytesLess (L[k]'hkx).1 x with
      | true =>
        have HI2 : Hid (idx x L = (k + 1) + idx x (L.drop (k + 1))) := by
          have := HI.out
          rw [HD, hbl] at this
          show _ = _
          simp only [if_true] at this
          omega
        clear HD
        generalize (L[k]'hkx).1 = key at *
        go_wp2
        go_roundg (n - (k + 1))
        case rel => exact ⟨rfl, k + 1, hlt, rfl, by go_num, HI2⟩
        case measure => omega
      | false =>
        have HE : Hid (idx x L = k) := by
          have := HI.out
          rw [HD, hbl] at this
          show _ = _
          simpa using this
        clear HD
        by_cases he : (L[k]'hkx).1 = x
        · have HR : Hid (insL x v L = L) := by
            have e := HE.out
            exact insL_hit x v L (by omega) (by simpa [e] using he)
          rw [he] at hbl g1
          go_wp2
          go_ret2
          rw [HR.out]
          exact ⟨p1, p2, n, c1, c2, HN.out, rfl, HC.out.1, HC.out.2, Below.refl _ _⟩
        · have HM : Hid (insL x v L = L.take k ++ (x, v) :: L.drop k) := by
            have e := HE.out
            have := insL_miss x v L (fun h => by simpa [e] using he)
            rwa [e] at this
          have hbq : ((L[k]'hkx).1 == x) = false := by simpa using he
          generalize (L[k]'hkx).1 = key at *
          obtain ⟨R, HR, HIn⟩ : ∃ R, Hid (insL x v L = R) ∧ Hid (InsAt L R k n x v) := ⟨_, HM, insAt_of x v HN.out hk⟩
          obtain ⟨M1, M2, HZ, hmk, hmk2⟩ := make_more n h63
          go_wp2
          clear hmk hmk2
          go_loopg [13] k (fun g s13 wr => ∃ j : Nat, j ≤ k ∧ g = k - j ∧ s13 = .int .i64 j ∧ Laid wr w.heap.size 9 (n + 1) (R.map kOf) j ∧ Laid wr (w.heap.size + 1) 33 (n + 1) (R.map nOf) j ∧ Below w.heap.size w wr)
          case atStart =>
            refine ⟨0, Nat.zero_le _, rfl, rfl, Laid.start _ (cur := M1) ?_ HZ.out.1, Laid.start _ (cur := M2) ?_ HZ.out.2, ?_⟩
            · rw [Below.heap_alloc _ _ _ (by simp)]; exact heap_alloc_new w _
            · have := heap_alloc_new (w.alloc (.cells M1 9)) (.cells M2 33)
              simpa using this
            · exact ((Below.refl _ _).alloc (Nat.le_refl _) _).alloc (by simp) _
          case round =>
            obtain ⟨j, hj, rfl, rfl, hl1, hl2, hB⟩ := hrel
            have H1 : Hid (Laid wr w.heap.size 9 (n + 1) (R.map kOf) j) := hl1
            have H2 : Hid (Laid wr (w.heap.size + 1) 33 (n + 1) (R.map nOf) j) := hl2
            have HB : Hid (Below w.heap.size w wr) := hB
            clear hl1 hl2 hB
            have hj0 : (0 : Int) ≤ (j : Int) := by omega
            by_cases hjk : j < k
            · have hjkI : (j : Int) < (k : Int) := by omega
              have hjx : j < L.length := by have := HN.out; omega
              obtain ⟨b3, o3, ix3, g3⟩ := HC.out.1.ixK n c1 j HN.out hjx
              obtain ⟨b4, o4, ix4, g4⟩ := HC.out.2.ixN n c2 j HN.out hjx
              have hb3 := World.block_lt_of_cell? w _ g3
              have hb4 := World.block_lt_of_cell? w _ g4
              have d3 := (HB.out.cell hb3).trans g3
              have d4 := (HB.out.cell hb4).trans g4
              have a1 := at27 w.heap.size (n + 1) j (by omega)
              have a2 := at28 (w.heap.size + 1) (n + 1) j (by omega)
              obtain ⟨u1, q0, q1⟩ := H1.out.place j (by omega)
              obtain ⟨u2, q2, q3⟩ := H2.out.place j (by omega)
              have hne4 : b4 ≠ w.heap.size := by dsimp only at hb4; omega
              have HV : Hid ((R.map kOf)[j]? = some (encStr (L[j]'hjx).1) ∧ (R.map nOf)[j]? = some (.int .u64 (L[j]'hjx).2)) := by
                have := HIn.out.lo j hjk
                exact ⟨by simp [this, hjx, kOf], by simp [this, hjx, nOf]⟩
              generalize (L[j]'hjx).1 = key2 at *
              generalize (L[j]'hjx).2 = num2 at *
              clear g3 g4 hb3 hb4
              go_wp2
              go_roundg (k - (j + 1))
              case rel =>
                refine ⟨j + 1, hjk, rfl, by go_num, ?_, ?_, ?_⟩
                · exact (H1.out.set HV.out.1 (by omega)).of_heap (Below.heap_setCell _ _ _ _ (by simp))
                · exact (H2.out.of_heap (Below.heap_setCell _ _ _ _ (by simp))).set HV.out.2 (by omega)
                · exact (HB.out.setCell (Nat.le_refl _) _).setCell (by simp) _
              case measure => omega
            · have HJ : Hid (j = k) := (by omega : j = k)
              have hnj : ¬ (j : Int) < (k : Int) := by omega
              have a1 := at27 w.heap.size (n + 1) k (by omega)
              have a2 := at28 (w.heap.size + 1) (n + 1) k (by omega)
              obtain ⟨u1, q0, q1⟩ := H1.out.place k (by omega)
              obtain ⟨u2, q2, q3⟩ := H2.out.place k (by omega)
              have H3 : Hid (Laid ((wr.setCell ⟨w.heap.size, k, none⟩ (encStr x)).setCell ⟨w.heap.size + 1, k, none⟩ (.int .u64 v)) w.heap.size 9 (n + 1) (R.map kOf) (k + 1)) := by
                have e := H1.out
                rw [HJ.out] at e
                exact (e.set (by simp [HIn.out.mid, kOf]) (by omega)).of_heap (Below.heap_setCell _ _ _ _ (by simp))
              have H4 : Hid (Laid ((wr.setCell ⟨w.heap.size, k, none⟩ (encStr x)).setCell ⟨w.heap.size + 1, k, none⟩ (.int .u64 v)) (w.heap.size + 1) 33 (n + 1) (R.map nOf) (k + 1)) := by
                have e := H2.out
                rw [HJ.out] at e
                exact (e.of_heap (Below.heap_setCell _ _ _ _ (by simp))).set (by simp [HIn.out.mid, nOf]) (by omega)
              go_wp2
              clear a1 a2 q0 q1 q2 q3
              go_loopg [14] (n - k) (fun g s14 wr => ∃ i : Nat, k ≤ i ∧ i ≤ n ∧ g = n - i ∧ s14 = .int .i64 i ∧ Laid wr w.heap.size 9 (n + 1) (R.map kOf) (i + 1) ∧ Laid wr (w.heap.size + 1) 33 (n + 1) (R.map nOf) (i + 1) ∧ Below w.heap.size w wr)
              case atStart => exact ⟨k, Nat.le_refl _, hk, rfl, rfl, H3.out, H4.out, (HB.out.setCell (Nat.le_refl _) _).setCell (by simp) _⟩
              case round =>
                clear H1 H2 HB H3 H4
                obtain ⟨i, hki, hi, rfl, rfl, hl1, hl2, hB2⟩ := hrel
                have H1 : Hid (Laid wr w.heap.size 9 (n + 1) (R.map kOf) (i + 1)) := hl1
                have H2 : Hid (Laid wr (w.heap.size + 1) 33 (n + 1) (R.map nOf) (i + 1)) := hl2
                have HB : Hid (Below w.heap.size w wr) := hB2
                clear hl1 hl2 hB2
                have hi0 : (0 : Int) ≤ (i : Int) := by omega
                by_cases hin : i < n
                · have hinI : (i : Int) < (n : Int) := by omega
                  have hix : i < L.length := by have := HN.out; omega
                  obtain ⟨b3, o3, ix3, g3⟩ := HC.out.1.ixK n c1 i HN.out hix
                  obtain ⟨b4, o4, ix4, g4⟩ := HC.out.2.ixN n c2 i HN.out hix
                  have hb3 := World.block_lt_of_cell? w _ g3
                  have hb4 := World.block_lt_of_cell? w _ g4
                  have d3 := (HB.out.cell hb3).trans g3
                  have d4 := (HB.out.cell hb4).trans g4
                  have a1 := at27 w.heap.size (n + 1) (i + 1) (by omega)
                  have a2 := at28 (w.heap.size + 1) (n + 1) (i + 1) (by omega)
                  rw [show ((i + 1 : Nat) : Int) = (i : Int) + 1 by omega] at a1 a2
                  obtain ⟨u1, q0, q1⟩ := H1.out.place (i + 1) (by omega)
                  obtain ⟨u2, q2, q3⟩ := H2.out.place (i + 1) (by omega)
                  have hne4 : b4 ≠ w.heap.size := by dsimp only at hb4; omega
                  have HV : Hid ((R.map kOf)[i + 1]? = some (encStr (L[i]'hix).1) ∧ (R.map nOf)[i + 1]? = some (.int .u64 (L[i]'hix).2)) := by
                    have := HIn.out.hi i hki
                    exact ⟨by simp [this, hix, kOf], by simp [this, hix, nOf]⟩
                  generalize (L[i]'hix).1 = key2 at *
                  generalize (L[i]'hix).2 = num2 at *
                  clear g3 g4 hb3 hb4
                  go_wp2
                  go_roundg (n - (i + 1))
                  case rel =>
                    refine ⟨i + 1, by omega, hin, rfl, by go_num, ?_, ?_, ?_⟩
                    · exact (H1.out.set HV.out.1 (by omega)).of_heap (Below.heap_setCell _ _ _ _ (by simp))
                    · exact (H2.out.of_heap (Below.heap_setCell _ _ _ _ (by simp))).set HV.out.2 (by omega)
                    · exact (HB.out.setCell (Nat.le_refl _) _).setCell (by simp) _
                  case measure => omega
                · have HI3 : Hid (i = n) := (by omega : i = n)
                  have hni : ¬ (i : Int) < (n : Int) := by omega
                  go_wp2
                  go_ret2
                  have e1 := H1.out
                  have e2 := H2.out
                  rw [HI3.out] at e1 e2
                  rw [HR.out]
                  exact ⟨_, _, n + 1, n + 1, n + 1, HIn.out.len, rfl, e1.came (by simpa using HIn.out.len), e2.came (by simpa using HIn.out.len), HB.out⟩
    · have hnl : ¬ (k : Int) < (n : Int) := by omega
      have HE : Hid (idx x L = k) := by
        have := HI.out
        rw [List.drop_eq_nil_of_le (by have := HN.out; omega)] at this
        exact this
      have HM : Hid (insL x v L = L.take k ++ (x, v) :: L.drop k) := by
        have e := HE.out
        have := insL_miss x v L (fun h => by have := HN.out; omega)
        rwa [e] at this
      obtain ⟨R, HR, HIn⟩ : ∃ R, Hid (insL x v L = R) ∧ Hid (InsAt L R k n x v) := ⟨_, HM, insAt_of x v HN.out hk⟩
      obtain ⟨M1, M2, HZ, hmk, hmk2⟩ := make_more n h63
      go_wp2
      clear hmk hmk2
      go_loopg [13] k (fun g s13 wr => ∃ j : Nat, j ≤ k ∧ g = k - j ∧ s13 = .int .i64 j ∧ Laid wr w.heap.size 9 (n + 1) (R.map kOf) j ∧ Laid wr (w.heap.size + 1) 33 (n + 1) (R.map nOf) j ∧ Below w.heap.size w wr)
      case atStart =>
        refine ⟨0, Nat.zero_le _, rfl, rfl, Laid.start _ (cur := M1) ?_ HZ.out.1, Laid.start _ (cur := M2) ?_ HZ.out.2, ?_⟩
        · rw [Below.heap_alloc _ _ _ (by simp)]; exact heap_alloc_new w _
        · have := heap_alloc_new (w.alloc (.cells M1 9)) (.cells M2 33)
          simpa using this
        · exact ((Below.refl _ _).alloc (Nat.le_refl _) _).alloc (by simp) _
      case round =>
        obtain ⟨j, hj, rfl, rfl, hl1, hl2, hB⟩ := hrel
        have H1 : Hid (Laid wr w.heap.size 9 (n + 1) (R.map kOf) j) := hl1
        have H2 : Hid (Laid wr (w.heap.size + 1) 33 (n + 1) (R.map nOf) j) := hl2
        have HB : Hid (Below w.heap.size w wr) := hB
        clear hl1 hl2 hB
        have hj0 : (0 : Int) ≤ (j : Int) := by omega
        by_cases hjk : j < k
        · have hjkI : (j : Int) < (k : Int) := by omega
          have hjx : j < L.length := by have := HN.out; omega
          obtain ⟨b3, o3, ix3, g3⟩ := HC.out.1.ixK n c1 j HN.out hjx
          obtain ⟨b4, o4, ix4, g4⟩ := HC.out.2.ixN n c2 j HN.out hjx
          have hb3 := World.block_lt_of_cell? w _ g3
          have hb4 := World.block_lt_of_cell? w _ g4
          have d3 := (HB.out.cell hb3).trans g3
          have d4 := (HB.out.cell hb4).trans g4
          have a1 := at27 w.heap.size (n + 1) j (by omega)
          have a2 := at28 (w.heap.size + 1) (n + 1) j (by omega)
          obtain ⟨u1, q0, q1⟩ := H1.out.place j (by omega)
          obtain ⟨u2, q2, q3⟩ := H2.out.place j (by omega)
          have hne4 : b4 ≠ w.heap.size := by dsimp only at hb4; omega
          have HV : Hid ((R.map kOf)[j]? = some (encStr (L[j]'hjx).1) ∧ (R.map nOf)[j]? = some (.int .u64 (L[j]'hjx).2)) := by
            have := HIn.out.lo j hjk
            exact ⟨by simp [this, hjx, kOf], by simp [this, hjx, nOf]⟩
          generalize (L[j]'hjx).1 = key2 at *
          generalize (L[j]'hjx).2 = num2 at *
          clear g3 g4 hb3 hb4
          go_wp2
          go_roundg (k - (j + 1))
          case rel =>
            refine ⟨j + 1, hjk, rfl, by go_num, ?_, ?_, ?_⟩
            · exact (H1.out.set HV.out.1 (by omega)).of_heap (Below.heap_setCell _ _ _ _ (by simp))
            · exact (H2.out.of_heap (Below.heap_setCell _ _ _ _ (by simp))).set HV.out.2 (by omega)
            · exact (HB.out.setCell (Nat.le_refl _) _).setCell (by simp) _
          case measure => omega
        · have HJ : Hid (j = k) := (by omega : j = k)
          have hnj : ¬ (j : Int) < (k : Int) := by omega
          have a1 := at27 w.heap.size (n + 1) k (by omega)
          have a2 := at28 (w.heap.size + 1) (n + 1) k (by omega)
          obtain ⟨u1, q0, q1⟩ := H1.out.place k (by omega)
          obtain ⟨u2, q2, q3⟩ := H2.out.place k (by omega)
          have H3 : Hid (Laid ((wr.setCell ⟨w.heap.size, k, none⟩ (encStr x)).setCell ⟨w.heap.size + 1, k, none⟩ (.int .u64 v)) w.heap.size 9 (n + 1) (R.map kOf) (k + 1)) := by
            have e := H1.out
            rw [HJ.out] at e
            exact (e.set (by simp [HIn.out.mid, kOf]) (by omega)).of_heap (Below.heap_setCell _ _ _ _ (by simp))
          have H4 : Hid (Laid ((wr.setCell ⟨w.heap.size, k, none⟩ (encStr x)).setCell ⟨w.heap.size + 1, k, none⟩ (.int .u64 v)) (w.heap.size + 1) 33 (n + 1) (R.map nOf) (k + 1)) := by
            have e := H2.out
            rw [HJ.out] at e
            exact (e.of_heap (Below.heap_setCell _ _ _ _ (by simp))).set (by simp [HIn.out.mid, nOf]) (by omega)
          go_wp2
          clear a1 a2 q0 q1 q2 q3
          go_loopg [14] (n - k) (fun g s14 wr => ∃ i : Nat, k ≤ i ∧ i ≤ n ∧ g = n - i ∧ s14 = .int .i64 i ∧ Laid wr w.heap.size 9 (n + 1) (R.map kOf) (i + 1) ∧ Laid wr (w.heap.size + 1) 33 (n + 1) (R.map nOf) (i + 1) ∧ Below w.heap.size w wr)
          case atStart => exact ⟨k, Nat.le_refl _, hk, rfl, rfl, H3.out, H4.out, (HB.out.setCell (Nat.le_refl _) _).setCell (by simp) _⟩
          case round =>
            clear H1 H2 HB H3 H4
            obtain ⟨i, hki, hi, rfl, rfl, hl1, hl2, hB2⟩ := hrel
            have H1 : Hid (Laid wr w.heap.size 9 (n + 1) (R.map kOf) (i + 1)) := hl1
            have H2 : Hid (Laid wr (w.heap.size + 1) 33 (n + 1) (R.map nOf) (i + 1)) := hl2
            have HB : Hid (Below w.heap.size w wr) := hB2
            clear hl1 hl2 hB2
            have hi0 : (0 : Int) ≤ (i : Int) := by omega
            by_cases hin : i < n
            · exact absurd hin (by omega)
            · have HI3 : Hid (i = n) := (by omega : i = n)
              have hni : ¬ (i : Int) < (n : Int) := by omega
              go_wp2
              go_ret2
              have e1 := H1.out
              have e2 := H2.out
              rw [HI3.out] at e1 e2
              rw [HR.out]
              exact ⟨_, _, n + 1, n + 1, n + 1, HIn.out.len, rfl, e1.came (by simpa using HIn.out.len), e2.came (by simpa using HIn.out.len), HB.out⟩
end Go.Proofs.Qxb6614989a
