/-
  The walk of FnSkipSpaceYieldsExactlyTheNonSpaceBytesInOrder.
-/
import Derived.Test.Qxb6609137aDoorLawA
namespace Go.Proofs.Qxb6609137aDoor
open Go.RowKit

/-- The address of a byte of a slice that begins at its block's head. -/
theorem ix_any (B n c k : Nat) (hk : k < n) (w : World) : (Instr.indexAt 22 (.slice (some ⟨B, 0, none⟩) n c) (.int .i64 k)).run Tryd.prog w = .ok (.pointer (some ⟨B, k, none⟩)) w := by
  have h1 : (k : Int) < (n : Int) := by omega
  have h0 : (0 : Int) ≤ (k : Int) := by omega
  have hu := Tryd.underlying22
  obtain ⟨i, hi, hs⟩ := Option.map_eq_some_iff.1 Tryd.size5
  go_simp

theorem Cfg.Sc.ix {C : Cfg} {pos : Nat} {w : World} (h : C.Sc pos w) (ok : C.Ok) (n c j : Nat) (hn : C.xs.length = n) (hj : j < C.xs.length) :
    ∃ B, (∀ w', (Instr.indexAt 22 (.slice C.p n c) (.int .i64 j)).run Tryd.prog w' = .ok (.pointer (some ⟨B, j, none⟩)) w') ∧ w.cell? ⟨B, j, none⟩ = some (.int .u8 (C.xs[j]'hj)) ∧ B ∉ C.own := by
  rcases ok.body with h0 | ⟨B, hB, n1, n2, n3, n4⟩
  · rw [h0] at hj; simp at hj
  · refine ⟨B, ?_, h.1.2.1 B hB j _ (List.getElem?_eq_getElem hj), by simp [Cfg.own]; omega⟩
    intro w'
    rw [hB]
    exact ix_any B n c j (by omega) w'

set_option maxHeartbeats 400000 in
theorem zz18_yes (p : Option Addr) (n cap : Nat) (s : ByteArray) (w : World) (h : n + s.size ≤ 1048576) :
    Calls Tryd.prog 18 #[.slice p n cap, .string s] w fun e w' => e = .returned (.bool true) ∧ w = w' := by
  have h1 : ¬ (1048576 : Int) < (n : Int) := by omega
  have h2 : ¬ (1048576 : Int) < (s.size : Int) := by omega
  have h3 : ¬ (1048576 : Int) < (n : Int) + (s.size : Int) := by omega
  have h4 : (0 : Int) ≤ (n : Int) := by omega
  have h5 : (0 : Int) ≤ (s.size : Int) := by omega
  go_enter Tryd.func18, Tryd.ntmps18
  go_wp2
  go_ret
  exact ⟨rfl, rfl⟩

set_option maxHeartbeats 400000 in
theorem zz18_no (p : Option Addr) (n cap : Nat) (s : ByteArray) (w : World) (h : 1048576 < n + s.size) :
    Calls Tryd.prog 18 #[.slice p n cap, .string s] w fun e w' => e = .returned (.bool false) ∧ w = w' := by
  by_cases h1 : (1048576 : Int) < (n : Int)
  · go_enter Tryd.func18, Tryd.ntmps18
    go_wp2
    go_ret
    exact ⟨rfl, rfl⟩
  · have h4 : (0 : Int) ≤ (n : Int) := by omega
    by_cases h2 : (1048576 : Int) < (s.size : Int)
    · go_enter Tryd.func18, Tryd.ntmps18
      go_wp2
      go_ret
      exact ⟨rfl, rfl⟩
    · have h3 : (1048576 : Int) < (n : Int) + (s.size : Int) := by omega
      have h5 : (0 : Int) ≤ (s.size : Int) := by omega
      go_enter Tryd.func18, Tryd.ntmps18
      go_wp2
      go_ret
      exact ⟨rfl, rfl⟩

set_option maxHeartbeats 400000 in
theorem lawB_far (p : Option Addr) (n cap : Nat) (s : ByteArray) (w : World) (h : 1048576 < n + s.size) :
    Calls Tryd.prog 5 #[.slice p n cap, .string s] w fun e w' => e = .returned (.bool true) ∧ Below w.heap.size w w' := by
  go_enter Tryd.func5, Tryd.ntmps5
  go_wp2_with (go_at_call 18; refine (zz18_no _ _ _ _ _ h).mono ?_; rintro e w' ⟨rfl, rfl⟩)
  go_ret
  exact ⟨rfl, Below.refl _ _⟩

set_option maxHeartbeats 400000 in
theorem lawB_big (p : Option Addr) (n cap : Nat) (s : ByteArray) (w : World) (h : n + s.size ≤ 1048576) (hb : 65536 < n ∨ 65536 < s.size) :
    Calls Tryd.prog 5 #[.slice p n cap, .string s] w fun e w' => e = .returned (.bool true) ∧ Below w.heap.size w w' := by
  by_cases h1 : (65536 : Int) < (n : Int)
  · go_enter Tryd.func5, Tryd.ntmps5
    go_wp2_with (go_at_call 18; refine (zz18_yes _ _ _ _ _ h).mono ?_; rintro e w' ⟨rfl, rfl⟩)
    go_ret
    exact ⟨rfl, Below.refl _ _⟩
  · have h2 : (65536 : Int) < (s.size : Int) := by omega
    go_enter Tryd.func5, Tryd.ntmps5
    go_wp2_with (go_at_call 18; refine (zz18_yes _ _ _ _ _ h).mono ?_; rintro e w' ⟨rfl, rfl⟩)
    go_ret
    exact ⟨rfl, Below.refl _ _⟩

set_option maxHeartbeats 1000000 in
theorem lawB_main (p : Option Addr) (n cap : Nat) (xs : List Int) (s : ByteArray) (ev : Value) (w : World) (hn : n ≤ 65536) (hs : s.size ≤ 65536)
    (hlen : xs.length = n) (hnil : p = none → n = 0 ∧ cap = 0) (hxs : ∀ v ∈ xs, 0 ≤ v ∧ v ≤ 255) (hc : Came w p xs) (hev : ∃ eo, ev = .iface 63 (.pointer (some eo))) (hE : w.cell? ⟨0, 0, none⟩ = some ev) :
    Calls Tryd.prog 5 #[.slice p n cap, .string s] w fun e w' => e = .returned (.bool true) ∧ Below w.heap.size w w' := by
  have h0 : 0 < w.heap.size := World.block_lt_of_cell? w _ hE
  have a1 : ¬ (65536 : Int) < (n : Int) := by omega
  have a2 : ¬ (65536 : Int) < (s.size : Int) := by omega
  have a3 : n + s.size ≤ 1048576 := by omega
  have HClone : Hid (Calls Tryd.prog 10 #[.slice p n cap] w fun e w' => ∃ p' c', e = .returned (.slice p' n c') ∧ Hid (Body w' p' c' xs ∧ Below w.heap.size w w')) :=
    clone_any p n cap xs hlen (by omega) hnil hxs w hc
  have HN : Hid (xs.length = n) := hlen
  have HE : Hid (w.cell? ⟨0, 0, none⟩ = some ev) := hE
  have HEV : Hid (∃ eo, ev = .iface 63 (.pointer (some eo))) := hev
  clear hc hE hev hlen hxs hnil
  go_enter Tryd.func5, Tryd.ntmps5
  go_wp2_with (first | (go_at_call 18; refine (zz18_yes _ _ _ _ _ a3).mono ?_; rintro e w' ⟨rfl, rfl⟩) | (go_at_call 10; refine HClone.out.mono ?_; rintro e w1 ⟨p1, c1, rfl, HB1⟩) | (go_at_call 11; refine (zzNew_some p1 n c1 xs HN.out s ev w1 HB1.out.1 HEV.out (by rw [HB1.out.2.cell h0]; exact HE.out)).mono ?_; rintro e w2 ⟨C, rfl, d0, HR⟩))
  obtain ⟨ok, rfl, rfl, rfl, hown, hS, hB2⟩ := HR.out
  have hB1 := HB1.out.2
  have HOwn : Hid (∀ k ∈ C.own, w.heap.size ≤ k) := fun k hk => Nat.le_trans hB1.size (hown k hk)
  have HB2 : Hid (Below w.heap.size w w2) := hB1.trans (hB2.mono hB1.size)
  have HS : Hid (C.Sc 0 w2) := hS
  have OK : Hid C.Ok := ok
  clear HR HClone HB1 HE HEV d0 hown hS hB2 hB1 ok
  go_loopg [6, 7] (n + 1) (fun g i c wr => ∃ (k m : Nat), m ≤ k ∧ k ≤ n ∧ g = n + 1 - k ∧ i = .int .i64 k ∧ c = .int .i64 m ∧ C.Sc k wr ∧ Below w.heap.size w wr)
  case atStart => exact ⟨0, 0, Nat.le_refl _, Nat.zero_le _, rfl, rfl, rfl, HS.out, HB2.out⟩
  case round =>
    obtain ⟨k, m, hmk, hk, rfl, rfl, rfl, hSk, hBk⟩ := hrel
    have HSk : Hid (C.Sc k wr) := hSk
    have HBk : Hid (Below w.heap.size w wr) := hBk
    clear hSk hBk HS HB2
    have hmI : (m : Int) ≤ (n : Int) := by omega
    go_wp2
    go_loopg [6] (n + 1 - k) (fun g i wi => wi = wr ∧ ∃ q : Nat, k ≤ q ∧ q ≤ n ∧ g = n + 1 - q ∧ i = .int .i64 q ∧ skipAt C.xs q = skipAt C.xs k)
    case atStart => exact ⟨rfl, k, Nat.le_refl _, hk, rfl, rfl, rfl⟩
    case round =>
      obtain ⟨rfl, q, hkq, hqn, rfl, rfl, hsk⟩ := hrel
      have HSK : Hid (skipAt C.xs q = skipAt C.xs k) := hsk
      clear hsk
      by_cases hlt : q < n
      · have hltI : (q : Int) < (n : Int) := by omega
        have hq0 : (0 : Int) ≤ (q : Int) := by omega
        have hqx : q < C.xs.length := by have := HN.out; omega
        obtain ⟨B, hix, hcell, hBo⟩ := HSk.out.ix OK.out n c1 q HN.out hqx
        cases hw : wsB (C.xs[q]'hqx) with
        | true =>
          have HE : Hid (skipAt C.xs q = skipAt C.xs (q + 1)) := skipAt_ws hqx hw
          go_wp2_with (first | (go_at_call 16; refine (jsonWs_any _ _).mono ?_; rintro e w' ⟨rfl, rfl⟩; rw [hw]))
          go_roundg (n + 1 - (q + 1))
          case rel => exact ⟨rfl, q + 1, by omega, hlt, rfl, by go_num, HE.out.symm.trans HSK.out⟩
          case measure => omega
        | false =>
          have HE : Hid (skipAt C.xs q = q) := skipAt_not hqx hw
          have hqe : skipAt C.xs k = q := HSK.out.symm.trans HE.out
          have hneq : ((q : Int) == (n : Int)) = false := by simp; omega
          have HC : Hid (Calls Tryd.prog 17 #[.pointer (some ⟨C.sb, 0, none⟩)] wr fun e w' => e = .returned (out3 (C.xs[q]'hqx) false false) ∧
              w'.cell? ⟨C.sb, 1, none⟩ = some (.int .i64 ((q : Int) + 1)) ∧ w'.cell? ⟨B, q, none⟩ = some (.int .u8 (C.xs[q]'hqx)) ∧ Hid (C.Sc (q + 1) w' ∧ Turned C.own wr w')) := by
            have := zzSkip_some C OK.out k (by rw [hqe]; exact hqx) wr HSk.out
            simp only [hqe] at this
            exact this.mono fun e w' h => ⟨h.1, by have := h.2.1.off; simpa using this, by rw [h.2.2.cell hBo]; exact hcell, h.2⟩
          clear hqe
          go_wp2_with (first | (go_at_call 16; refine (jsonWs_any _ _).mono ?_; rintro e w' ⟨rfl, rfl⟩; rw [hw]) | (go_at_call 17; refine HC.out.mono ?_; rintro e w3 ⟨rfl, d1, d2, HR⟩) | (go_at_call 12; refine (zzOffset_any _ _ _ d1).mono ?_; rintro e w' ⟨rfl, rfl⟩))
          go_roundg (n + 1 - (q + 1))
          case rel => exact ⟨q + 1, m + 1, by omega, hlt, rfl, by go_num, by go_num, HR.out.1, HBk.out.trans (HR.out.2.below HOwn.out)⟩
          case measure => omega
      · have hqI : ¬ (q : Int) < (n : Int) := by omega
        have hqe : q = n := by omega
        have HJ : Hid (skipAt C.xs k = C.xs.length) := by
          have e1 : skipAt C.xs q = q := skipAt_end (by have := HN.out; omega)
          have e2 := HSK.out; have e3 := HN.out
          show _ = _; omega
        have heqI : ((q : Int) == (n : Int)) = true := by simp; omega
        have HC : Hid (Calls Tryd.prog 17 #[.pointer (some ⟨C.sb, 0, none⟩)] wr fun e w' => e = .returned (out3 0 true true) ∧
            w'.cell? ⟨C.sb, 1, none⟩ = some (.int .i64 (n : Int)) ∧ Hid (C.Sc C.xs.length w' ∧ Turned C.own wr w')) :=
          (zzSkip_end C OK.out k (by have := HN.out; omega) HJ.out wr HSk.out).mono fun e w' h => ⟨h.1, by have := h.2.1.off; rw [HN.out] at this; exact this, h.2⟩
        clear hqe
        go_wp2_with (first | (go_at_call 17; refine HC.out.mono ?_; rintro e w3 ⟨rfl, d1, HR⟩) | (go_at_call 12; refine (zzOffset_any _ _ _ d1).mono ?_; rintro e w' ⟨rfl, rfl⟩))
        go_ret
        exact ⟨rfl, HBk.out.trans (HR.out.2.below HOwn.out)⟩

/-- THE LAW: whatever the input, it returns true, and nothing that was there has turned. -/
theorem lawB_any (p : Option Addr) (n cap : Nat) (xs : List Int) (s : ByteArray) (ev : Value) (w : World)
    (hlen : xs.length = n) (hnil : p = none → n = 0 ∧ cap = 0) (hxs : ∀ v ∈ xs, 0 ≤ v ∧ v ≤ 255) (hc : Came w p xs) (hev : ∃ eo, ev = .iface 63 (.pointer (some eo))) (hE : w.cell? ⟨0, 0, none⟩ = some ev) :
    Calls Tryd.prog 5 #[.slice p n cap, .string s] w fun e w' => e = .returned (.bool true) ∧ Below w.heap.size w w' := by
  by_cases h1 : n + s.size ≤ 1048576
  · by_cases h2 : 65536 < n ∨ 65536 < s.size
    · exact lawB_big p n cap s w h1 h2
    · exact lawB_main p n cap xs s ev w (by omega) (by omega) hlen hnil hxs hc hev hE
  · exact lawB_far p n cap s w (by omega)
end Go.Proofs.Qxb6609137aDoor
