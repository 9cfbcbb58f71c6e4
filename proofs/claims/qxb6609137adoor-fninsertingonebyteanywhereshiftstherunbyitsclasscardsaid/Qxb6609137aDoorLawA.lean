/-
  The walk of FnReadByteGivesBackTheBodyThenKeepsFailingAtItsEnd.
-/
import Derived.Test.Qxb6609137aDoorBounds
namespace Go.Proofs.Qxb6609137aDoor
open Go.RowKit

theorem Cfg.Sc.off {C : Cfg} {pos : Nat} {w : World} (h : C.Sc pos w) : w.cell? ⟨C.sb, 1, none⟩ = some (.int .i64 pos) := by
  rw [blk_cell h.2]; rfl

theorem Cfg.Sc.byte {C : Cfg} {pos : Nat} {w : World} (h : C.Sc pos w) (j : Nat) (hj : j < C.xs.length) (ok : C.Ok) : ∃ B, C.p = some ⟨B, 0, none⟩ ∧ w.cell? ⟨B, j, none⟩ = some (.int .u8 (C.xs[j]'hj)) := by
  rcases ok.body with h0 | ⟨B, hB, _⟩
  · rw [h0] at hj; simp at hj
  · exact ⟨B, hB, h.1.2.1 B hB j _ (List.getElem?_eq_getElem hj)⟩

/-- A new scanner, its places a letter. -/
theorem zzNew_some (p : Option Addr) (n cap : Nat) (xs : List Int) (hn : xs.length = n) (wr : ByteArray) (ev : Value) (w : World) (hb : Body w p cap xs) (hev : ∃ eo, ev = .iface 63 (.pointer (some eo))) (hE : w.cell? ⟨0, 0, none⟩ = some ev) :
    Calls Tryd.prog 11 #[.slice p n cap, .string wr] w fun e w' => ∃ C : Cfg, e = .returned (.pointer (some ⟨C.sb, 0, none⟩)) ∧ w'.cell? ⟨C.sb, 1, none⟩ = some (.int .i64 0) ∧
      Hid (C.Ok ∧ C.xs = xs ∧ C.p = p ∧ C.ev = ev ∧ (∀ k ∈ C.own, w.heap.size ≤ k) ∧ C.Sc 0 w' ∧ Below w.heap.size w w') := by
  subst hn
  refine (zzNew_any p cap xs wr ev w hb hev hE).mono ?_
  rintro e w' ⟨rfl, hS, hB, _⟩
  refine ⟨newCfg w.heap.size p cap xs wr ev, rfl, hS.off, newCfg_ok hb wr hev (World.block_lt_of_cell? w _ hE), rfl, rfl, rfl, ?_, hS, hB⟩
  intro k hk
  simp [Cfg.own, newCfg] at hk
  omega

set_option maxHeartbeats 400000 in
theorem lawA_far (p : Option Addr) (n cap : Nat) (s : ByteArray) (x : Int) (w : World) (h : 1048576 < n + s.size) :
    Calls Tryd.prog 3 #[.slice p n cap, .string s, .int .u8 x] w fun e w' => e = .returned (.bool true) ∧ Below w.heap.size w w' := by
  go_enter Tryd.func3, Tryd.ntmps3
  go_wp2_with (go_at_call 9; refine (zz9_no _ _ _ _ _ _ h).mono ?_; rintro e w' ⟨rfl, rfl⟩)
  go_ret
  exact ⟨rfl, Below.refl _ _⟩

set_option maxHeartbeats 400000 in
theorem lawA_big (p : Option Addr) (n cap : Nat) (s : ByteArray) (x : Int) (w : World) (h : n + s.size ≤ 1048576) (hb : 65536 < n ∨ 65536 < s.size) :
    Calls Tryd.prog 3 #[.slice p n cap, .string s, .int .u8 x] w fun e w' => e = .returned (.bool true) ∧ Below w.heap.size w w' := by
  by_cases h1 : (65536 : Int) < (n : Int)
  · go_enter Tryd.func3, Tryd.ntmps3
    go_wp2_with (go_at_call 9; refine (zz9_yes _ _ _ _ _ _ h).mono ?_; rintro e w' ⟨rfl, rfl⟩)
    go_ret
    exact ⟨rfl, Below.refl _ _⟩
  · have h2 : (65536 : Int) < (s.size : Int) := by omega
    go_enter Tryd.func3, Tryd.ntmps3
    go_wp2_with (go_at_call 9; refine (zz9_yes _ _ _ _ _ _ h).mono ?_; rintro e w' ⟨rfl, rfl⟩)
    go_ret
    exact ⟨rfl, Below.refl _ _⟩

set_option maxHeartbeats 1000000 in
theorem lawA_main (p : Option Addr) (n cap : Nat) (xs : List Int) (s : ByteArray) (x : Int) (ev : Value) (w : World) (hn : n ≤ 65536) (hs : s.size ≤ 65536) (hx : 0 ≤ x ∧ x ≤ 255)
    (hlen : xs.length = n) (hnil : p = none → n = 0 ∧ cap = 0) (hxs : ∀ v ∈ xs, 0 ≤ v ∧ v ≤ 255) (hc : Came w p xs) (hev : ∃ eo, ev = .iface 63 (.pointer (some eo))) (hE : w.cell? ⟨0, 0, none⟩ = some ev) :
    Calls Tryd.prog 3 #[.slice p n cap, .string s, .int .u8 x] w fun e w' => e = .returned (.bool true) ∧ Below w.heap.size w w' := by
  have h0 : 0 < w.heap.size := World.block_lt_of_cell? w _ hE
  have a1 : ¬ (65536 : Int) < (n : Int) := by omega
  have a2 : ¬ (65536 : Int) < (s.size : Int) := by omega
  have a3 : n + s.size ≤ 1048576 := by omega
  have HClone : Hid (Calls Tryd.prog 10 #[.slice p n cap] w fun e w' => ∃ p' c', e = .returned (.slice p' n c') ∧ Hid (Body w' p' c' xs ∧ Below w.heap.size w w')) :=
    clone_any p n cap xs hlen (by omega) hnil hxs w hc
  have HN : Hid (xs.length = n) := hlen
  have HE : Hid (w.cell? ⟨0, 0, none⟩ = some ev) := hE
  have HEV : Hid (∃ eo, ev = .iface 63 (.pointer (some eo))) := hev
  clear hc hE hev hlen hxs hnil
  go_enter Tryd.func3, Tryd.ntmps3
  go_wp2_with (first | (go_at_call 9; refine (zz9_yes _ _ _ _ _ _ a3).mono ?_; rintro e w' ⟨rfl, rfl⟩) | (go_at_call 10; refine HClone.out.mono ?_; rintro e w1 ⟨p1, c1, rfl, HB1⟩) | (go_at_call 11; refine (zzNew_some p1 n c1 xs HN.out s ev w1 HB1.out.1 HEV.out (by rw [HB1.out.2.cell h0]; exact HE.out)).mono ?_; rintro e w2 ⟨C, rfl, d0, HR⟩) | (go_at_call 12; refine (zzOffset_any _ _ _ d0).mono ?_; rintro e w' ⟨rfl, rfl⟩))
  obtain ⟨ok, rfl, rfl, rfl, hown, hS, hB2⟩ := HR.out
  have hB1 := HB1.out.2
  have HOwn : Hid (∀ k ∈ C.own, w.heap.size ≤ k) := fun k hk => Nat.le_trans hB1.size (hown k hk)
  have HB2 : Hid (Below w.heap.size w w2) := hB1.trans (hB2.mono hB1.size)
  have HS : Hid (C.Sc 0 w2) := hS
  have OK : Hid C.Ok := ok
  clear HR HClone HB1 HE HEV d0 hown hS hB2 hB1 ok
  go_loopg [8] n (fun g i wr => ∃ k : Nat, k ≤ n ∧ g = n - k ∧ i = .int .i64 k ∧ C.Sc k wr ∧ Below w.heap.size w wr)
  case atStart => exact ⟨0, Nat.zero_le _, rfl, rfl, HS.out, HB2.out⟩
  case round =>
    obtain ⟨k, hk, rfl, rfl, hSk, hBk⟩ := hrel
    have HSk : Hid (C.Sc k wr) := hSk
    have HBk : Hid (Below w.heap.size w wr) := hBk
    clear hSk hBk
    by_cases hlt : k < n
    · have hltI : (k : Int) < (n : Int) := by omega
      have hk0 : (0 : Int) ≤ (k : Int) := by omega
      have hkx : k < C.xs.length := by have := HN.out; omega
      have HC : Hid (Calls Tryd.prog 13 #[.pointer (some ⟨C.sb, 0, none⟩)] wr fun e w' => e = .returned (out3 (C.xs[k]'hkx) false false) ∧
          w'.cell? ⟨C.sb, 1, none⟩ = some (.int .i64 ((k : Int) + 1)) ∧ (∃ B, C.p = some ⟨B, 0, none⟩ ∧ w'.cell? ⟨B, k, none⟩ = some (.int .u8 (C.xs[k]'hkx))) ∧ Hid (C.Sc (k + 1) w' ∧ Turned C.own wr w')) :=
        (zzByte_some C OK.out k hkx wr HSk.out).mono fun e w' h => ⟨h.1, by have := h.2.1.off; simpa using this, h.2.1.byte k hkx OK.out, h.2⟩
      go_wp2_with (first | (go_at_call 13; refine HC.out.mono ?_; rintro e w3 ⟨rfl, d1, ⟨B, hpB, d2⟩, HR⟩; rw [hpB]) | (go_at_call 12; refine (zzOffset_any _ _ _ d1).mono ?_; rintro e w' ⟨rfl, rfl⟩))
      rw [← hpB]
      go_roundg (n - (k + 1))
      case rel => exact ⟨k + 1, hlt, rfl, by go_num, HR.out.1, HBk.out.trans (HR.out.2.below HOwn.out)⟩
      case measure => omega
    · have hnl : ¬ (k : Int) < (n : Int) := by omega
      have hkn : k = C.xs.length := by have := HN.out; omega
      have HSn : Hid (C.Sc C.xs.length wr) := by have := HSk.out; rw [hkn] at this; exact this
      clear hkn HS HB2 HSk
      go_wp2
      go_loopg [12] (x.toNat + 1) (fun g i wz => ∃ j : Nat, j ≤ x.toNat + 1 ∧ g = x.toNat + 1 - j ∧ i = .int .i64 j ∧ C.Sc C.xs.length wz ∧ Below w.heap.size w wz)
      case atStart => exact ⟨0, Nat.zero_le _, rfl, rfl, HSn.out, HBk.out⟩
      case round =>
        obtain ⟨j, hj, rfl, rfl, hSj, hBj⟩ := hrel
        have HBj : Hid (Below w.heap.size w wr) := hBj
        have HC : Hid (Calls Tryd.prog 13 #[.pointer (some ⟨C.sb, 0, none⟩)] wr fun e w' => e = .returned (out3 0 true true) ∧
            w'.cell? ⟨C.sb, 1, none⟩ = some (.int .i64 (n : Int)) ∧ Hid (C.Sc C.xs.length w' ∧ Turned C.own wr w')) :=
          (zzByte_end C OK.out wr hSj).mono fun e w' h => ⟨h.1, by have := h.2.1.off; rw [HN.out] at this; exact this, h.2⟩
        clear hSj hBj HSn HBk
        obtain ⟨hx0, hx1⟩ := hx
        by_cases hle : (j : Int) ≤ x
        · go_wp2_with (first | (go_at_call 13; refine HC.out.mono ?_; rintro e w3 ⟨rfl, d1, HR⟩) | (go_at_call 12; refine (zzOffset_any _ _ _ d1).mono ?_; rintro e w' ⟨rfl, rfl⟩))
          go_roundg (x.toNat + 1 - (j + 1))
          case rel => exact ⟨j + 1, by omega, rfl, by go_num, HR.out.1, HBj.out.trans (HR.out.2.below HOwn.out)⟩
          case measure => omega
        · go_wp2
          go_ret
          exact ⟨rfl, HBj.out⟩

/-- THE LAW: whatever the input, it returns true, and nothing that was there has turned. -/
theorem lawA_any (p : Option Addr) (n cap : Nat) (xs : List Int) (s : ByteArray) (x : Int) (ev : Value) (w : World) (hx : 0 ≤ x ∧ x ≤ 255)
    (hlen : xs.length = n) (hnil : p = none → n = 0 ∧ cap = 0) (hxs : ∀ v ∈ xs, 0 ≤ v ∧ v ≤ 255) (hc : Came w p xs) (hev : ∃ eo, ev = .iface 63 (.pointer (some eo))) (hE : w.cell? ⟨0, 0, none⟩ = some ev) :
    Calls Tryd.prog 3 #[.slice p n cap, .string s, .int .u8 x] w fun e w' => e = .returned (.bool true) ∧ Below w.heap.size w w' := by
  by_cases h1 : n + s.size ≤ 1048576
  · by_cases h2 : 65536 < n ∨ 65536 < s.size
    · exact lawA_big p n cap s x w h1 h2
    · exact lawA_main p n cap xs s x ev w (by omega) (by omega) hx hlen hnil hxs hc hev hE
  · exact lawA_far p n cap s x w (by omega)
end Go.Proofs.Qxb6609137aDoor
