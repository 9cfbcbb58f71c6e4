/-
  zzSame, at two equal lists; a row's places.
-/
import Derived.Test.Qxb6614989aZZ
namespace Go.Proofs.Qxb6614989a
open Go.RowKit Go.WideMaps Go.Maps

theorem Try.size9 : (Try.prog.info? 9).map (·.size) = some 1 := by kernel_rfl
theorem Try.size33 : (Try.prog.info? 33).map (·.size) = some 1 := by kernel_rfl

theorem ix27_any (b off n c k : Nat) (hk : k < n) (w : World) : (Instr.indexAt 27 (.slice (some ⟨b, off, none⟩) n c) (.int .i64 k)).run Try.prog w = .ok (.pointer (some ⟨b, off + k, none⟩)) w := by
  have h1 : (k : Int) < (n : Int) := by omega
  have h0 : (0 : Int) ≤ (k : Int) := by omega
  have hu := Try.underlying27
  obtain ⟨i, hi, hs⟩ := Option.map_eq_some_iff.1 Try.size9
  go_simp
theorem ix28_any (b off n c k : Nat) (hk : k < n) (w : World) : (Instr.indexAt 28 (.slice (some ⟨b, off, none⟩) n c) (.int .i64 k)).run Try.prog w = .ok (.pointer (some ⟨b, off + k, none⟩)) w := by
  have h1 : (k : Int) < (n : Int) := by omega
  have h0 : (0 : Int) ≤ (k : Int) := by omega
  have hu := Try.underlying28
  obtain ⟨i, hi, hs⟩ := Option.map_eq_some_iff.1 Try.size33
  go_simp

theorem CameV.ixK {w : World} {p : Option Addr} {L : List (Key × Int)} (h : CameV w p (L.map kOf)) (n c j : Nat) (hn : L.length = n) (hj : j < L.length) :
    ∃ b off, (∀ w', (Instr.indexAt 27 (.slice p n c) (.int .i64 j)).run Try.prog w' = .ok (.pointer (some ⟨b, off + j, none⟩)) w') ∧ w.cell? ⟨b, off + j, none⟩ = some (encStr (L[j]'hj).1) := by
  rcases h with h0 | ⟨b, off, hp, hc⟩
  · simp at h0; subst h0; simp at hj
  · exact ⟨b, off, fun w' => by rw [hp]; exact ix27_any b off n c j (by omega) w', hc j _ (by simp [hj, kOf])⟩
theorem CameV.ixN {w : World} {p : Option Addr} {L : List (Key × Int)} (h : CameV w p (L.map nOf)) (n c j : Nat) (hn : L.length = n) (hj : j < L.length) :
    ∃ b off, (∀ w', (Instr.indexAt 28 (.slice p n c) (.int .i64 j)).run Try.prog w' = .ok (.pointer (some ⟨b, off + j, none⟩)) w') ∧ w.cell? ⟨b, off + j, none⟩ = some (.int .u64 (L[j]'hj).2) := by
  rcases h with h0 | ⟨b, off, hp, hc⟩
  · simp at h0; subst h0; simp at hj
  · exact ⟨b, off, fun w' => by rw [hp]; exact ix28_any b off n c j (by omega) w', hc j _ (by simp [hj, nOf])⟩

set_option maxHeartbeats 2000000 in
theorem zzSame_any (p1 p2 p3 p4 : Option Addr) (n c1 c2 c3 c4 : Nat) (L : List (Key × Int)) (hn : L.length = n) (h63 : n ≤ 1000001) (w : World) (h1 : CameV w p1 (L.map kOf)) (h2 : CameV w p2 (L.map nOf)) (h3 : CameV w p3 (L.map kOf)) (h4 : CameV w p4 (L.map nOf)) :
    Calls Try.prog 10 #[.slice p1 n c1, .slice p2 n c2, .slice p3 n c3, .slice p4 n c4] w fun e w' => e = .returned (.bool true) ∧ Below w.heap.size w w' := by
  have HN : Hid (L.length = n) := hn
  have HC : Hid (CameV w p1 (L.map kOf) ∧ CameV w p2 (L.map nOf) ∧ CameV w p3 (L.map kOf) ∧ CameV w p4 (L.map nOf)) := ⟨h1, h2, h3, h4⟩
  clear hn h1 h2 h3 h4
  go_enter Try.func10, Try.ntmps10
  go_wp2
  go_loopg [9] n (fun g i wr => ∃ k : Nat, k ≤ n ∧ g = n - k ∧ i = .int .i64 k ∧ Below w.heap.size w wr)
  case atStart => exact ⟨0, Nat.zero_le _, rfl, rfl, Below.refl _ _⟩
  case round =>
    obtain ⟨k, hk, rfl, rfl, hB⟩ := hrel
    have HB : Hid (Below w.heap.size w wr) := hB
    clear hB
    have hk0 : (0 : Int) ≤ (k : Int) := by omega
    by_cases hlt : k < n
    · have hltI : (k : Int) < (n : Int) := by omega
      have hkx : k < L.length := by have := HN.out; omega
      obtain ⟨b1, o1, ix1, g1⟩ := HC.out.1.ixK n c1 k HN.out hkx
      obtain ⟨b2, o2, ix2, g2⟩ := HC.out.2.1.ixN n c2 k HN.out hkx
      obtain ⟨b3, o3, ix3, g3⟩ := HC.out.2.2.1.ixK n c3 k HN.out hkx
      obtain ⟨b4, o4, ix4, g4⟩ := HC.out.2.2.2.ixN n c4 k HN.out hkx
      have d1 := (HB.out.cell (World.block_lt_of_cell? w _ g1)).trans g1
      have d2 := (HB.out.cell (World.block_lt_of_cell? w _ g2)).trans g2
      have d3 := (HB.out.cell (World.block_lt_of_cell? w _ g3)).trans g3
      have d4 := (HB.out.cell (World.block_lt_of_cell? w _ g4)).trans g4
      clear g1 g2 g3 g4
      generalize (L[k]'hkx).1 = key at *
      generalize (L[k]'hkx).2 = num at *
      go_wp2
      go_quiet (fail)
      go_wp2
      go_roundg (n - (k + 1))
      case rel => exact ⟨k + 1, hlt, rfl, by go_num, ⟨HB.out.os, HB.out.tape, HB.out.output, HB.out.size, HB.out.block⟩⟩
      case measure => omega
    · have hnl : ¬ (k : Int) < (n : Int) := by omega
      go_wp2
      go_ret
      exact ⟨rfl, HB.out⟩
end Go.Proofs.Qxb6614989a
