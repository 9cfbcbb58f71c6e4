/-
  cloneBools, and the walk of FnReadByteAndSkipSpaceShareOneCursor.
-/
import Derived.Test.Qxb6609137aDoorLawB
namespace Go.Proofs.Qxb6609137aDoor
open Go.RowKit

abbrev boolV (l : List Bool) : List Value := l.map .bool

/-- A slice of bools that came in: its cells. -/
def CameB (w : World) (p : Option Addr) (bs : List Bool) : Prop :=
  bs = [] ∨ ∃ b off, p = some ⟨b, off, none⟩ ∧ ∀ j v, bs[j]? = some v → w.cell? ⟨b, off + j, none⟩ = some (.bool v)
/-- A clone of it: nil or empty, or a block that holds it. -/
def BodyB (w : World) (p : Option Addr) (bs : List Bool) : Prop :=
  bs = [] ∨ ∃ B, p = some ⟨B, 0, none⟩ ∧ B < w.heap.size ∧ ∀ j v, bs[j]? = some v → w.cell? ⟨B, j, none⟩ = some (.bool v)

def halfB (xs : List Bool) (k : Nat) : List Value := boolV (xs.take k) ++ List.replicate (xs.length - k) (.bool false)
theorem halfB_length (xs : List Bool) (k : Nat) (h : k ≤ xs.length) : (halfB xs k).length = xs.length := by simp [halfB]; omega
theorem halfB_get (xs : List Bool) (k j : Nat) (h : k ≤ xs.length) (hj : j < xs.length) : ∃ v, (halfB xs k)[j]? = some v := by
  have := halfB_length xs k h
  exact ⟨_, List.getElem?_eq_getElem (by omega)⟩
theorem halfB_set (xs : List Bool) (k : Nat) (h : k < xs.length) : (halfB xs k).set k (.bool xs[k]) = halfB xs (k + 1) := by
  apply List.ext_getElem?
  intro j
  simp only [halfB, List.getElem?_set, List.getElem?_append, List.length_append, boolV, List.length_map, List.length_take, List.length_replicate, List.getElem?_map, List.getElem?_take, List.getElem?_replicate]
  by_cases h1 : k = j
  · subst h1
    have e1 : min (k + 1) xs.length = k + 1 := by omega
    have e2 : min k xs.length = k := by omega
    simp [e1, e2, h]
    omega
  · have e1 : min (k + 1) xs.length = k + 1 := by omega
    have e2 : min k xs.length = k := by omega
    simp only [if_neg h1, e1, e2]
    by_cases h2 : j < k
    · have h3 : j < k + 1 := by omega
      simp [h2, h3]
    · have h3 : ¬ j < k + 1 := by omega
      simp only [if_neg h2, if_neg h3]
      by_cases h4 : j < xs.length
      · rw [if_pos (by omega), if_pos (by omega)]
      · rw [if_neg (by omega), if_neg (by omega)]
theorem halfB_zero (xs : List Bool) : (halfB xs 0).toArray = madeCells #[.bool false] xs.length := by
  apply Array.ext
  · simp [halfB, size_madeCells]
  · intro i h1 h2
    simp [halfB, madeCells, Nat.mod_one]
theorem halfB_full (xs : List Bool) : halfB xs xs.length = boolV xs := by simp [halfB]

theorem Tryd.info4 : (Tryd.prog.info? 4).map (fun i => (i.zero, i.size, i.bytes)) = some (some (.bool false), 1, 1) := by kernel_rfl
theorem Tryd.size4 : (Tryd.prog.info? 4).map (·.size) = some 1 := by kernel_rfl

set_option maxHeartbeats 400000 in
theorem cloneB_nil (w : World) : Calls Tryd.prog 15 #[.slice none 0 0] w fun e w' => e = .returned (.slice none 0 0) ∧ w = w' := by
  have hnil := fun (w : World) => Lib.run_eql_slice_nil (P := Tryd.prog) w 30 4 none 0 0 0 0 Tryd.underlying30
  go_enter Tryd.func15, Tryd.ntmps15
  go_wp2
  go_ret
  exact ⟨rfl, rfl⟩

set_option maxHeartbeats 1000000 in
theorem cloneB_some (a : Addr) (cap n : Nat) (xs : List Bool) (hn : xs.length = n) (h63 : n ≤ 1000000) (w : World) (hc : CameB w (some a) xs) :
    Calls Tryd.prog 15 #[.slice (some a) n cap] w fun e w' => e = .returned (.slice (some ⟨w.heap.size, 0, none⟩) n n) ∧
      w'.heap[w.heap.size]? = some (.cells (boolV xs).toArray 4 (0, 0)) ∧ Below w.heap.size w w' ∧ w'.heap.size = w.heap.size + 1 := by
  have hnil := fun (w : World) => Lib.run_eql_slice_nil (P := Tryd.prog) w 30 4 (some a) n cap 0 0 Tryd.underlying30
  have hmk := run_make_row' (P := Tryd.prog) 30 4 (.bool false) 1 Tryd.underlying30 Tryd.info4 rfl .i64 .i64 n (by omega) (by omega)
  have HZ : Hid ((halfB xs 0).toArray = madeCells #[.bool false] n) := by have := halfB_zero xs; rw [hn] at this; exact this
  obtain ⟨M, hM⟩ : ∃ M, M = madeCells #[.bool false] n := ⟨_, rfl⟩
  rw [← hM] at hmk HZ
  have HN : Hid (xs.length = n) := hn
  have HC : Hid (CameB w (some a) xs) := hc
  clear hM hn hc
  go_enter Tryd.func15, Tryd.ntmps15
  go_wp2
  clear hmk hnil
  go_loopg [4] n (fun g i wr => ∃ k : Nat, k ≤ n ∧ g = n - k ∧ i = .int .i64 k ∧ wr.heap[w.heap.size]? = some (.cells (halfB xs k).toArray 4 (0, 0)) ∧ Below w.heap.size w wr ∧ wr.heap.size = w.heap.size + 1)
  case atStart => exact ⟨0, Nat.zero_le _, rfl, rfl, by rw [HZ.out]; exact heap_alloc_new w _, (Below.refl _ _).alloc (Nat.le_refl _) _, by simp⟩
  case round =>
    obtain ⟨k, hk, rfl, rfl, hrow, hB, hsz⟩ := hrel
    have HRow : Hid (wr.heap[w.heap.size]? = some (.cells (halfB xs k).toArray 4 (0, 0))) := hrow
    have HSz : Hid (wr.heap.size = w.heap.size + 1) := hsz
    clear hrow hsz
    by_cases hlt : k < n
    · have hltI : (k : Int) < (n : Int) := by omega
      have hk0 : (0 : Int) ≤ (k : Int) := by omega
      have hkx : k < xs.length := by have := HN.out; omega
      obtain ⟨b, off, rfl, g0⟩ : ∃ b off, a = ⟨b, off, none⟩ ∧ wr.cell? ⟨b, off + k, none⟩ = some (.bool (xs[k]'hkx)) := by
        rcases HC.out with h | ⟨b, off, h1, h2⟩
        · subst h; simp at hkx
        · have h3 := h2 k _ (List.getElem?_eq_getElem hkx)
          exact ⟨b, off, by simpa using h1, by rw [hB.cell (by exact World.block_lt_of_cell? w _ h3)]; exact h3⟩
      obtain ⟨old, hold⟩ := halfB_get xs k k (by omega) hkx
      have g1 : wr.cell? ⟨w.heap.size, k, none⟩ = some old := by rw [blk_cell HRow.out]; simpa using hold
      have g2 := blk_frozen HRow.out k
      clear hold
      go_wp2
      go_roundg (n - (k + 1))
      case rel =>
        refine ⟨k + 1, hlt, rfl, by go_num, ?_, hB.setCell (Nat.le_refl _) _, by simpa using HSz.out⟩
        rw [blk_set HRow.out k _, ← halfB_set xs k hkx]; simp
      case measure => omega
    · have hkn : k = n := by omega
      have hnl : ¬ (k : Int) < (n : Int) := by omega
      have HK : Hid (k = n) := hkn
      clear hkn
      go_wp2
      go_ret
      refine ⟨rfl, ?_, hB, HSz.out⟩
      have := HRow.out
      rw [HK.out, ← HN.out, halfB_full] at this
      exact this

theorem cloneB_any (p : Option Addr) (n cap : Nat) (xs : List Bool) (hn : xs.length = n) (h63 : n ≤ 1000000) (hnil : p = none → n = 0 ∧ cap = 0) (w : World) (hc : CameB w p xs) :
    Calls Tryd.prog 15 #[.slice p n cap] w fun e w' => ∃ p' c', e = .returned (.slice p' n c') ∧ Hid (BodyB w' p' xs ∧ Below w.heap.size w w') := by
  cases p with
  | none =>
    obtain ⟨rfl, rfl⟩ := hnil rfl
    refine (cloneB_nil w).mono ?_
    rintro e w' ⟨rfl, rfl⟩
    obtain rfl : xs = [] := List.eq_nil_of_length_eq_zero hn
    exact ⟨none, 0, rfl, Or.inl rfl, Below.refl _ _⟩
  | some a =>
    refine (cloneB_some a cap n xs hn h63 w hc).mono ?_
    rintro e w' ⟨rfl, hrow, hB, hsz⟩
    refine ⟨_, _, rfl, Or.inr ⟨w.heap.size, rfl, by omega, ?_⟩, hB⟩
    intro j v hv
    rw [blk_cell hrow]
    simp [boolV, hv]

theorem ixB_any (B n c k : Nat) (hk : k < n) (w : World) : (Instr.indexAt 30 (.slice (some ⟨B, 0, none⟩) n c) (.int .i64 k)).run Tryd.prog w = .ok (.pointer (some ⟨B, k, none⟩)) w := by
  have h1 : (k : Int) < (n : Int) := by omega
  have h0 : (0 : Int) ≤ (k : Int) := by omega
  have hu := Tryd.underlying30
  obtain ⟨i, hi, hs⟩ := Option.map_eq_some_iff.1 Tryd.size4
  go_simp

set_option maxHeartbeats 400000 in
theorem zz14_yes (p p2 : Option Addr) (n cap n2 cap2 : Nat) (s : ByteArray) (w : World) (h : n + s.size + n2 ≤ 1048576) :
    Calls Tryd.prog 14 #[.slice p n cap, .string s, .slice p2 n2 cap2] w fun e w' => e = .returned (.bool true) ∧ w = w' := by
  have h1 : ¬ (1048576 : Int) < (n : Int) := by omega
  have h2 : ¬ (1048576 : Int) < (s.size : Int) := by omega
  have h3 : ¬ (1048576 : Int) < (n : Int) + (s.size : Int) := by omega
  have h4 : ¬ (1048576 : Int) < (n2 : Int) := by omega
  have h5 : ¬ (1048576 : Int) < (n : Int) + (s.size : Int) + (n2 : Int) := by omega
  have h6 : (0 : Int) ≤ (n : Int) := by omega
  have h7 : (0 : Int) ≤ (n2 : Int) := by omega
  have h8 : (0 : Int) ≤ (s.size : Int) := by omega
  go_enter Tryd.func14, Tryd.ntmps14
  go_wp2
  go_ret
  exact ⟨rfl, rfl⟩

set_option maxHeartbeats 400000 in
theorem zz14_no (p p2 : Option Addr) (n cap n2 cap2 : Nat) (s : ByteArray) (w : World) (h : 1048576 < n + s.size + n2) :
    Calls Tryd.prog 14 #[.slice p n cap, .string s, .slice p2 n2 cap2] w fun e w' => e = .returned (.bool false) ∧ w = w' := by
  have h6 : (0 : Int) ≤ (n : Int) := by omega
  have h7 : (0 : Int) ≤ (n2 : Int) := by omega
  have h8 : (0 : Int) ≤ (s.size : Int) := by omega
  by_cases h1 : (1048576 : Int) < (n : Int)
  · go_enter Tryd.func14, Tryd.ntmps14
    go_wp2
    go_ret
    exact ⟨rfl, rfl⟩
  · by_cases h2 : (1048576 : Int) < (s.size : Int)
    · go_enter Tryd.func14, Tryd.ntmps14
      go_wp2
      go_ret
      exact ⟨rfl, rfl⟩
    · by_cases h3 : (1048576 : Int) < (n : Int) + (s.size : Int)
      · go_enter Tryd.func14, Tryd.ntmps14
        go_wp2
        go_ret
        exact ⟨rfl, rfl⟩
      · by_cases h4 : (1048576 : Int) < (n2 : Int)
        · go_enter Tryd.func14, Tryd.ntmps14
          go_wp2
          go_ret
          exact ⟨rfl, rfl⟩
        · have h5 : (1048576 : Int) < (n : Int) + (s.size : Int) + (n2 : Int) := by omega
          go_enter Tryd.func14, Tryd.ntmps14
          go_wp2
          go_ret
          exact ⟨rfl, rfl⟩

set_option maxRecDepth 100000 in
set_option maxHeartbeats 400000 in
theorem lawE_far (p p2 : Option Addr) (n cap n2 cap2 : Nat) (s : ByteArray) (w : World) (h : 1048576 < n + s.size + n2) :
    Calls Tryd.prog 4 #[.slice p n cap, .string s, .slice p2 n2 cap2] w fun e w' => e = .returned (.bool true) ∧ Below w.heap.size w w' := by
  go_enter Tryd.func4, Tryd.ntmps4
  go_wp2_with (go_at_call 14; refine (zz14_no _ _ _ _ _ _ _ _ h).mono ?_; rintro e w' ⟨rfl, rfl⟩)
  go_ret
  exact ⟨rfl, Below.refl _ _⟩

set_option maxRecDepth 100000 in
set_option maxHeartbeats 400000 in
theorem lawE_big (p p2 : Option Addr) (n cap n2 cap2 : Nat) (s : ByteArray) (w : World) (h : n + s.size + n2 ≤ 1048576) (hb : 65536 < n ∨ 65536 < s.size ∨ 65536 < n2) :
    Calls Tryd.prog 4 #[.slice p n cap, .string s, .slice p2 n2 cap2] w fun e w' => e = .returned (.bool true) ∧ Below w.heap.size w w' := by
  by_cases h1 : (65536 : Int) < (n : Int)
  · go_enter Tryd.func4, Tryd.ntmps4
    go_wp2_with (go_at_call 14; refine (zz14_yes _ _ _ _ _ _ _ _ h).mono ?_; rintro e w' ⟨rfl, rfl⟩)
    go_ret
    exact ⟨rfl, Below.refl _ _⟩
  · by_cases h2 : (65536 : Int) < (s.size : Int)
    · go_enter Tryd.func4, Tryd.ntmps4
      go_wp2_with (go_at_call 14; refine (zz14_yes _ _ _ _ _ _ _ _ h).mono ?_; rintro e w' ⟨rfl, rfl⟩)
      go_ret
      exact ⟨rfl, Below.refl _ _⟩
    · have h3 : (65536 : Int) < (n2 : Int) := by omega
      go_enter Tryd.func4, Tryd.ntmps4
      go_wp2_with (go_at_call 14; refine (zz14_yes _ _ _ _ _ _ _ _ h).mono ?_; rintro e w' ⟨rfl, rfl⟩)
      go_ret
      exact ⟨rfl, Below.refl _ _⟩

set_option maxRecDepth 100000 in
set_option maxHeartbeats 2000000 in
theorem lawE_main (p p2 : Option Addr) (n cap n2 cap2 : Nat) (xs : List Int) (bs : List Bool) (s : ByteArray) (ev : Value) (w : World) (hn : n ≤ 65536) (hs : s.size ≤ 65536) (hn2 : n2 ≤ 65536)
    (hlen : xs.length = n) (hnil : p = none → n = 0 ∧ cap = 0) (hxs : ∀ v ∈ xs, 0 ≤ v ∧ v ≤ 255) (hc : Came w p xs)
    (hlen2 : bs.length = n2) (hnil2 : p2 = none → n2 = 0 ∧ cap2 = 0) (hc2 : CameB w p2 bs)
    (hev : ∃ eo, ev = .iface 63 (.pointer (some eo))) (hE : w.cell? ⟨0, 0, none⟩ = some ev) :
    Calls Tryd.prog 4 #[.slice p n cap, .string s, .slice p2 n2 cap2] w fun e w' => e = .returned (.bool true) ∧ Below w.heap.size w w' := by
  have h0 : 0 < w.heap.size := World.block_lt_of_cell? w _ hE
  have a1 : ¬ (65536 : Int) < (n : Int) := by omega
  have a2 : ¬ (65536 : Int) < (s.size : Int) := by omega
  have a3 : ¬ (65536 : Int) < (n2 : Int) := by omega
  have a4 : n + s.size + n2 ≤ 1048576 := by omega
  have HClone : Hid (Calls Tryd.prog 10 #[.slice p n cap] w fun e w' => ∃ p' c', e = .returned (.slice p' n c') ∧ Hid (Body w' p' c' xs ∧ Below w.heap.size w w')) :=
    clone_any p n cap xs hlen (by omega) hnil hxs w hc
  have HClone2 : Hid (∀ w1, Below w.heap.size w w1 → Calls Tryd.prog 15 #[.slice p2 n2 cap2] w1 fun e w' => ∃ p' c', e = .returned (.slice p' n2 c') ∧ Hid (BodyB w' p' bs ∧ Below w1.heap.size w1 w')) := by
    intro w1 hb
    refine cloneB_any p2 n2 cap2 bs hlen2 (by omega) hnil2 w1 ?_
    rcases hc2 with h | ⟨b, off, h1, h2⟩
    · exact Or.inl h
    · refine Or.inr ⟨b, off, h1, fun j v hv => ?_⟩
      have h3 := h2 j v hv
      rw [hb.cell (World.block_lt_of_cell? w _ h3)]; exact h3
  have HN : Hid (xs.length = n) := hlen
  have HN2 : Hid (bs.length = n2) := hlen2
  have HE : Hid (∀ w1, Below w.heap.size w w1 → w1.cell? ⟨0, 0, none⟩ = some ev) := fun w1 hb => by rw [hb.cell h0]; exact hE
  have HEV : Hid (∃ eo, ev = .iface 63 (.pointer (some eo))) := hev
  clear hlen hlen2 hxs hnil hnil2 hc hc2 hev hE h0
  go_enter Tryd.func4, Tryd.ntmps4
  go_wp2_with (first
    | (go_at_call 14; refine (zz14_yes _ _ _ _ _ _ _ _ a4).mono ?_; rintro e w' ⟨rfl, rfl⟩)
    | (go_at_call 10; refine HClone.out.mono ?_; rintro e w1 ⟨p1, c1, rfl, HB1⟩)
    | (go_at_call 15; refine (HClone2.out w1 HB1.out.2).mono ?_; rintro e w2 ⟨q1, d1, rfl, HB2⟩))
  have hb01 := HB1.out.2
  have hb12 := HB2.out.2
  have hb02 : Below w.heap.size w w2 := hb01.trans (hb12.mono hb01.size)
  have HBb : Hid (BodyB w2 q1 bs) := HB2.out.1
  have hBody : Body w2 p1 c1 xs := by
    refine ⟨?_, HB1.out.1.cap, HB1.out.1.len, HB1.out.1.bytes⟩
    rcases HB1.out.1.at_ with h | ⟨B, h1, h2, h3⟩
    · exact Or.inl h
    · exact Or.inr ⟨B, h1, Nat.lt_of_lt_of_le h2 hb12.size, fun j v hv => by rw [hb12.cell h2]; exact h3 j v hv⟩
  refine (zzNew_some p1 n c1 xs HN.out s ev w2 hBody HEV.out (HE.out _ hb02)).mono ?_
  rintro e w3 ⟨C, rfl, d0, HR⟩
  obtain ⟨ok, rfl, rfl, rfl, hown, hS, hB3⟩ := HR.out
  have B02 : Hid (Below w.heap.size w w2) := hb02
  have HOwn : Hid (∀ k ∈ C.own, w2.heap.size ≤ k) := hown
  have HS : Hid (C.Sc 0 w3 ∧ Below w2.heap.size w2 w3) := ⟨hS, hB3⟩
  have OK : Hid C.Ok := ok
  clear HR HClone HClone2 HB1 HB2 HE HEV d0 hown hS hB3 hb01 hb12 hb02 ok hBody w1
  go_wp2
  go_loopg [8, 9] n2 (fun g i c wr => ∃ (k j : Nat), k ≤ n ∧ j ≤ n2 ∧ g = n2 - j ∧ i = .int .i64 k ∧ c = .int .i64 j ∧ C.Sc k wr ∧ Below w2.heap.size w2 wr)
  case atStart => exact ⟨0, 0, Nat.zero_le _, Nat.zero_le _, rfl, rfl, rfl, HS.out.1, HS.out.2⟩
  case round =>
    obtain ⟨k, j, hk, hj, rfl, rfl, rfl, hSk, hBk⟩ := hrel
    have HSk : Hid (C.Sc k wr) := hSk
    have HBk : Hid (Below w2.heap.size w2 wr) := hBk
    clear hSk hBk HS
    have hkZ : (0 : Int) ≤ (k : Int) := by omega
    have hjZ : (0 : Int) ≤ (j : Int) := by omega
    by_cases hjlt : j < n2
    · have hjI : (j : Int) < (n2 : Int) := by omega
      have hjb : j < bs.length := by have := HN2.out; omega
      obtain ⟨SB, hix, hcell⟩ : ∃ SB, (∀ w', (Instr.indexAt 30 (.slice q1 n2 d1) (.int .i64 j)).run Tryd.prog w' = .ok (.pointer (some ⟨SB, j, none⟩)) w') ∧ wr.cell? ⟨SB, j, none⟩ = some (.bool (bs[j]'hjb)) := by
        rcases HBb.out with h | ⟨B, h1, h2, h3⟩
        · exfalso; rw [h] at hjb; simp at hjb
        · refine ⟨B, fun w' => by rw [h1]; exact ixB_any B n2 d1 j hjlt w', ?_⟩
          rw [HBk.out.cell h2]; exact h3 j _ (List.getElem?_eq_getElem hjb)
      cases hsc : bs[j]'hjb with
      | true =>
        rw [hsc] at hcell
        by_cases hlt : k < n
        · have hltI : (k : Int) < (n : Int) := by omega
          have hkx : k < C.xs.length := by have := HN.out; omega
          obtain ⟨B, hixb, hcb, hBo⟩ := HSk.out.ix OK.out n c1 k HN.out hkx
          have HC : Hid (Calls Tryd.prog 13 #[.pointer (some ⟨C.sb, 0, none⟩)] wr fun e w' => e = .returned (out3 (C.xs[k]'hkx) false false) ∧
              w'.cell? ⟨C.sb, 1, none⟩ = some (.int .i64 ((k : Int) + 1)) ∧ w'.cell? ⟨B, k, none⟩ = some (.int .u8 (C.xs[k]'hkx)) ∧ Hid (C.Sc (k + 1) w' ∧ Turned C.own wr w')) :=
            (zzByte_some C OK.out k hkx wr HSk.out).mono fun e w' h => ⟨h.1, by have := h.2.1.off; simpa using this, by rw [h.2.2.cell hBo]; exact hcb, h.2⟩
          clear hcb hsc
          go_wp2_with (first
            | (go_at_call 13; refine HC.out.mono ?_; rintro e w4 ⟨rfl, d1', d2', HR⟩)
            | (go_at_call 12; refine (zzOffset_any _ _ _ d1').mono ?_; rintro e w' ⟨rfl, rfl⟩))
          go_roundg (n2 - (j + 1))
          case rel => exact ⟨k + 1, j + 1, hlt, hjlt, rfl, by go_num, by go_num, HR.out.1, HBk.out.trans (HR.out.2.below HOwn.out)⟩
          case measure => omega
        · have hltI : ¬ (k : Int) < (n : Int) := by omega
          have HSn : Hid (C.Sc C.xs.length wr) := by have h := HSk.out; have e : k = C.xs.length := by have := HN.out; omega
                                                     rw [e] at h; exact h
          have hkn : (k : Int) = (n : Int) := by omega
          have HC : Hid (Calls Tryd.prog 13 #[.pointer (some ⟨C.sb, 0, none⟩)] wr fun e w' => e = .returned (out3 0 true true) ∧
              w'.cell? ⟨C.sb, 1, none⟩ = some (.int .i64 (k : Int)) ∧ Hid (C.Sc C.xs.length w' ∧ Turned C.own wr w')) :=
            (zzByte_end C OK.out wr HSn.out).mono fun e w' h => ⟨h.1, by have := h.2.1.off; rw [HN.out, ← hkn] at this; exact this, h.2⟩
          have HKN : Hid (k = C.xs.length) := by have := HN.out; show _ = _; omega
          clear hkn hsc
          go_wp2_with (first
            | (go_at_call 13; refine HC.out.mono ?_; rintro e w4 ⟨rfl, d1', HR⟩)
            | (go_at_call 12; refine (zzOffset_any _ _ _ d1').mono ?_; rintro e w' ⟨rfl, rfl⟩))
          go_roundg (n2 - (j + 1))
          case rel => exact ⟨k, j + 1, hk, hjlt, rfl, rfl, by go_num, by have h := HR.out.1; rw [← HKN.out] at h; exact h, HBk.out.trans (HR.out.2.below HOwn.out)⟩
          case measure => omega
      | false =>
        rw [hsc] at hcell
        clear hsc
        go_wp2
        clear hix hcell
        go_loopg [13] (n + 1 - k) (fun g i wi => wi = wr ∧ ∃ q : Nat, k ≤ q ∧ q ≤ n ∧ g = n + 1 - q ∧ i = .int .i64 q ∧ skipAt C.xs q = skipAt C.xs k)
        case atStart => exact ⟨rfl, k, Nat.le_refl _, hk, rfl, rfl, rfl⟩
        case round =>
          obtain ⟨rfl, q, hkq, hqn, rfl, rfl, hsk⟩ := hrel
          have HSK : Hid (skipAt C.xs q = skipAt C.xs k) := hsk
          clear hsk
          have hq0 : (0 : Int) ≤ (q : Int) := by omega
          by_cases hlt : q < n
          · have hltI : (q : Int) < (n : Int) := by omega
            have hqx : q < C.xs.length := by have := HN.out; omega
            obtain ⟨B, hix, hcell, hBo⟩ := HSk.out.ix OK.out n c1 q HN.out hqx
            cases hw : wsB (C.xs[q]'hqx) with
            | true =>
              have HE : Hid (skipAt C.xs q = skipAt C.xs (q + 1)) := skipAt_ws hqx hw
              go_wp2_with (first | (go_at_call 16; refine (jsonWs_any _ _).mono ?_; rintro e w' ⟨rfl, rfl⟩; rw [hw]))
              go_roundg (n + 1 - (q + 1))
              case rel => exact ⟨rfl, q + 1, by omega, hlt, rfl, by go_num, HE.out.symm.trans HSK.out⟩
              case measure => omega
            | false =>
              have HE : Hid (skipAt C.xs q = q) := skipAt_not hqx hw
              have hqe : skipAt C.xs k = q := HSK.out.symm.trans HE.out
              have HC : Hid (Calls Tryd.prog 17 #[.pointer (some ⟨C.sb, 0, none⟩)] wr fun e w' => e = .returned (out3 (C.xs[q]'hqx) false false) ∧
                  w'.cell? ⟨C.sb, 1, none⟩ = some (.int .i64 ((q : Int) + 1)) ∧ w'.cell? ⟨B, q, none⟩ = some (.int .u8 (C.xs[q]'hqx)) ∧ Hid (C.Sc (q + 1) w' ∧ Turned C.own wr w')) := by
                have := zzSkip_some C OK.out k (by rw [hqe]; exact hqx) wr HSk.out
                simp only [hqe] at this
                exact this.mono fun e w' h => ⟨h.1, by have := h.2.1.off; simpa using this, by rw [h.2.2.cell hBo]; exact hcell, h.2⟩
              clear hqe
              go_wp2_with (first
                | (go_at_call 16; refine (jsonWs_any _ _).mono ?_; rintro e w' ⟨rfl, rfl⟩; rw [hw])
                | (go_at_call 17; refine HC.out.mono ?_; rintro e w4 ⟨rfl, d1', d2', HR⟩)
                | (go_at_call 12; refine (zzOffset_any _ _ _ d1').mono ?_; rintro e w' ⟨rfl, rfl⟩))
              go_roundg (n2 - (j + 1))
              case rel => exact ⟨q + 1, j + 1, hlt, hjlt, rfl, by go_num, by go_num, HR.out.1, HBk.out.trans (HR.out.2.below HOwn.out)⟩
              case measure => omega
          · have hqI : ¬ (q : Int) < (n : Int) := by omega
            have HJ : Hid (skipAt C.xs k = C.xs.length) := by
              have e1 : skipAt C.xs q = q := skipAt_end (by have := HN.out; omega)
              have e2 := HSK.out; have e3 := HN.out
              show _ = _; omega
            have HC : Hid (Calls Tryd.prog 17 #[.pointer (some ⟨C.sb, 0, none⟩)] wr fun e w' => e = .returned (out3 0 true true) ∧
                w'.cell? ⟨C.sb, 1, none⟩ = some (.int .i64 (n : Int)) ∧ Hid (C.Sc C.xs.length w' ∧ Turned C.own wr w')) :=
              (zzSkip_end C OK.out k (by have := HN.out; omega) HJ.out wr HSk.out).mono fun e w' h => ⟨h.1, by have := h.2.1.off; rw [HN.out] at this; exact this, h.2⟩
            go_wp2_with (first
              | (go_at_call 17; refine HC.out.mono ?_; rintro e w4 ⟨rfl, d1', HR⟩)
              | (go_at_call 12; refine (zzOffset_any _ _ _ d1').mono ?_; rintro e w' ⟨rfl, rfl⟩))
            go_roundg (n2 - (j + 1))
            case rel => exact ⟨n, j + 1, Nat.le_refl _, hjlt, rfl, rfl, by go_num, by have h := HR.out.1; rw [HN.out] at h; exact h, HBk.out.trans (HR.out.2.below HOwn.out)⟩
            case measure => omega
    · have hjI : ¬ (j : Int) < (n2 : Int) := by omega
      go_wp2
      go_ret
      exact ⟨rfl, B02.out.trans (HBk.out.mono B02.out.size)⟩

/-- THE LAW: whatever the input, it returns true, and nothing that was there has turned. -/
theorem lawE_any (p p2 : Option Addr) (n cap n2 cap2 : Nat) (xs : List Int) (bs : List Bool) (s : ByteArray) (ev : Value) (w : World)
    (hlen : xs.length = n) (hnil : p = none → n = 0 ∧ cap = 0) (hxs : ∀ v ∈ xs, 0 ≤ v ∧ v ≤ 255) (hc : Came w p xs)
    (hlen2 : bs.length = n2) (hnil2 : p2 = none → n2 = 0 ∧ cap2 = 0) (hc2 : CameB w p2 bs)
    (hev : ∃ eo, ev = .iface 63 (.pointer (some eo))) (hE : w.cell? ⟨0, 0, none⟩ = some ev) :
    Calls Tryd.prog 4 #[.slice p n cap, .string s, .slice p2 n2 cap2] w fun e w' => e = .returned (.bool true) ∧ Below w.heap.size w w' := by
  by_cases h1 : n + s.size + n2 ≤ 1048576
  · by_cases h2 : 65536 < n ∨ 65536 < s.size ∨ 65536 < n2
    · exact lawE_big p p2 n cap n2 cap2 s w h1 h2
    · exact lawE_main p p2 n cap n2 cap2 xs bs s ev w (by omega) (by omega) (by omega) hlen hnil hxs hc hlen2 hnil2 hc2 hev hE
  · exact lawE_far p p2 n cap n2 cap2 s w (by omega)
end Go.Proofs.Qxb6609137aDoor
