/-
  The entries that came in; zzMin; the bounds that each law asks first.
-/
import Derived.Test.Qxb6614989aRows
import Derived.WalkKit
import Derived.WalkSpells
import Derived.WalkLawsBesides
import Derived.Deep.QuietTactic
import Derived.BigQuiet
import Derived.Deep.RegionHeld3
import Derived.Deep.LoopGhost
import Derived.Sort.EncStr
namespace Go.Proofs.Qxb6614989a
open Go.RowKit

abbrev Key := List UInt8

/-- Entries that came in: their cells. -/
def CameE (w : World) (p : Option Addr) (es : List (Key × Int)) : Prop :=
  es = [] ∨ ∃ b off, p = some ⟨b, off, none⟩ ∧ ∀ j t, es[j]? = some t → w.cell? ⟨b, off + j * 2, none⟩ = some (encStr t.1) ∧ w.cell? ⟨b, off + j * 2 + 1, none⟩ = some (.int .u64 t.2)

theorem Try.size38 : (Try.prog.info? 38).map (·.size) = some 2 := by kernel_rfl
theorem Try.elem22 : Try.prog.underlying 22 = some (.slice 38) := by kernel_rfl

theorem ixE_any (b off n c k : Nat) (hk : k < n) (w : World) : (Instr.indexAt 22 (.slice (some ⟨b, off, none⟩) n c) (.int .i64 k)).run Try.prog w = .ok (.pointer (some ⟨b, off + k * 2, none⟩)) w := by
  have h1 : (k : Int) < (n : Int) := by omega
  have h0 : (0 : Int) ≤ (k : Int) := by omega
  have hu := Try.underlying22
  obtain ⟨i, hi, hs⟩ := Option.map_eq_some_iff.1 Try.size38
  go_simp

theorem CameE.ix {w : World} {p : Option Addr} {es : List (Key × Int)} (h : CameE w p es) (n c j : Nat) (hn : es.length = n) (hj : j < es.length) :
    ∃ b off, (∀ w', (Instr.indexAt 22 (.slice p n c) (.int .i64 j)).run Try.prog w' = .ok (.pointer (some ⟨b, off + j * 2, none⟩)) w') ∧ w.cell? ⟨b, off + j * 2, none⟩ = some (encStr (es[j]'hj).1) ∧ w.cell? ⟨b, off + j * 2 + 1, none⟩ = some (.int .u64 (es[j]'hj).2) := by
  rcases h with h0 | ⟨b, off, hp, hc⟩
  · subst h0; simp at hj
  · obtain ⟨h1, h2⟩ := hc j _ (List.getElem?_eq_getElem hj)
    exact ⟨b, off, fun w' => by rw [hp]; exact ixE_any b off n c j (by omega) w', h1, h2⟩

/-- It returned some bool | some int (which one is not asked). -/
def RetBool (e : Ending) : Prop := ∃ t, e = .returned (.bool t)
def RetInt (e : Ending) : Prop := ∃ t, e = .returned (.int .i64 t)

set_option maxHeartbeats 400000 in
theorem zzMin_any (x y : Int) (w : World) : Calls Try.prog 13 #[.int .u64 x, .int .u64 y] w fun e w' => e = .returned (.int .u64 (min x y)) ∧ w = w' := by
  by_cases h : y < x
  · rw [Int.min_eq_right (by omega)]
    go_enter Try.func13, Try.ntmps13
    go_wp2
    go_ret
    exact ⟨rfl, rfl⟩
  · rw [Int.min_eq_left (by omega)]
    go_enter Try.func13, Try.ntmps13
    go_wp2
    go_ret
    exact ⟨rfl, rfl⟩

set_option maxHeartbeats 400000 in
theorem zzBytes_any (t0 : Int) (p : Option Addr) (n c : Nat) (es : List (Key × Int)) (hn : es.length = n) (h63 : n ≤ 9223372036854775000) (w : World) (hc : CameE w p es) :
    Calls Try.prog 6 #[.int .i64 t0, .slice p n c] w fun e w' => RetInt e ∧ w = w' := by
  have HN : Hid (es.length = n) := hn
  have HC : Hid (CameE w p es) := hc
  clear hn hc
  go_enter Try.func6, Try.ntmps6
  go_wp2
  go_loopg [0, 5] n (fun g a i wr => w = wr ∧ ∃ (t : Int) (k : Nat), k ≤ n ∧ g = n - k ∧ a = .int .i64 t ∧ i = .int .i64 k)
  case atStart => exact ⟨rfl, t0, 0, Nat.zero_le _, rfl, rfl, rfl⟩
  case round =>
    obtain ⟨rfl, t, k, hk, rfl, rfl, rfl⟩ := hrel
    have hk0 : (0 : Int) ≤ (k : Int) := by omega
    by_cases hlt : k < n
    · have hltI : (k : Int) < (n : Int) := by omega
      have hkx : k < es.length := by have := HN.out; omega
      obtain ⟨b, off, hix, g0, _⟩ := HC.out.ix n c k HN.out hkx
      generalize (es[k]'hkx).1 = key at *
      go_wp2
      · go_ret
        exact ⟨⟨_, rfl⟩, rfl⟩
      · go_ret
        exact ⟨⟨_, rfl⟩, rfl⟩
      · go_roundg (n - (k + 1))
        case rel => exact ⟨rfl, _, k + 1, hlt, rfl, rfl, by go_num⟩
        case measure => omega
    · have hnl : ¬ (k : Int) < (n : Int) := by omega
      go_wp2
      go_ret
      exact ⟨⟨_, rfl⟩, rfl⟩

set_option maxHeartbeats 1000000 in
theorem zzB5_any (p p2 : Option Addr) (n c n2 c2 : Nat) (es es2 : List (Key × Int)) (hn : es.length = n) (hn2 : es2.length = n2) (w : World) (hc : CameE w p es) (hc2 : CameE w p2 es2) :
    Calls Try.prog 5 #[.slice p n c, .slice p2 n2 c2] w fun e w' => RetBool e ∧ w = w' := by
  have HN : Hid (es.length = n ∧ es2.length = n2) := ⟨hn, hn2⟩
  have HC : Hid (CameE w p es ∧ CameE w p2 es2) := ⟨hc, hc2⟩
  clear hn hc hn2 hc2
  by_cases hbig : (1048576 : Int) < (n : Int)
  · go_enter Try.func5, Try.ntmps5
    go_wp2
    go_ret
    exact ⟨⟨_, rfl⟩, rfl⟩
  have hnZ : (0 : Int) ≤ (n : Int) := by omega
  go_enter Try.func5, Try.ntmps5
  go_wp2
  go_loopg [5, 6] n (fun g a i wr => w = wr ∧ ∃ (t : Int) (k : Nat), k ≤ n ∧ g = n - k ∧ a = .int .i64 t ∧ i = .int .i64 k)
  case atStart => exact ⟨rfl, _, 0, Nat.zero_le _, rfl, rfl, rfl⟩
  case round =>
    obtain ⟨rfl, t, k, hk, rfl, rfl, rfl⟩ := hrel
    have hk0 : (0 : Int) ≤ (k : Int) := by omega
    by_cases hlt : k < n
    · have hltI : (k : Int) < (n : Int) := by omega
      have hkx : k < es.length := by have := HN.out.1; omega
      obtain ⟨b, off, hix, g0, _⟩ := HC.out.1.ix n c k HN.out.1 hkx
      generalize (es[k]'hkx).1 = key at *
      go_wp2
      · go_ret
        exact ⟨⟨_, rfl⟩, rfl⟩
      · go_ret
        exact ⟨⟨_, rfl⟩, rfl⟩
      · go_roundg (n - (k + 1))
        case rel => exact ⟨rfl, _, k + 1, hlt, rfl, rfl, by go_num⟩
        case measure => omega
    · have hnl : ¬ (k : Int) < (n : Int) := by omega
      by_cases hbig2 : (1048576 : Int) < (n2 : Int)
      · go_wp2
        go_ret
        exact ⟨⟨_, rfl⟩, rfl⟩
      go_wp2
      · go_ret
        exact ⟨⟨_, rfl⟩, rfl⟩
      go_loopg [5, 7] n2 (fun g a i wz => w = wz ∧ ∃ (t : Int) (j : Nat), j ≤ n2 ∧ g = n2 - j ∧ a = .int .i64 t ∧ i = .int .i64 j)
      case atStart => exact ⟨rfl, _, 0, Nat.zero_le _, rfl, rfl, rfl⟩
      case round =>
        obtain ⟨rfl, t2, j, hj, rfl, rfl, rfl⟩ := hrel
        have hj0 : (0 : Int) ≤ (j : Int) := by omega
        by_cases hlt2 : j < n2
        · have hltI : (j : Int) < (n2 : Int) := by omega
          have hkx : j < es2.length := by have := HN.out.2; omega
          obtain ⟨b, off, hix, g0, _⟩ := HC.out.2.ix n2 c2 j HN.out.2 hkx
          generalize (es2[j]'hkx).1 = key at *
          go_wp2
          · go_ret
            exact ⟨⟨_, rfl⟩, rfl⟩
          · go_ret
            exact ⟨⟨_, rfl⟩, rfl⟩
          · go_roundg (n2 - (j + 1))
            case rel => exact ⟨rfl, _, j + 1, hlt2, rfl, rfl, by go_num⟩
            case measure => omega
        · have hnl2 : ¬ (j : Int) < (n2 : Int) := by omega
          go_wp2
          go_ret
          exact ⟨⟨_, rfl⟩, rfl⟩
set_option maxHeartbeats 1000000 in
theorem zzB11_any (p p2 : Option Addr) (n c n2 c2 : Nat) (es es2 : List (Key × Int)) (key0 : ByteArray) (x y : Int) (hn : es.length = n) (hn2 : es2.length = n2) (w : World) (hc : CameE w p es) (hc2 : CameE w p2 es2) :
    Calls Try.prog 11 #[.slice p n c, .slice p2 n2 c2, .string key0, .int .u64 x, .int .u64 y] w fun e w' => RetBool e ∧ w = w' := by
  have HN : Hid (es.length = n ∧ es2.length = n2) := ⟨hn, hn2⟩
  have HC : Hid (CameE w p es ∧ CameE w p2 es2) := ⟨hc, hc2⟩
  clear hn hc hn2 hc2
  by_cases hbig : (1048576 : Int) < (n : Int)
  · go_enter Try.func11, Try.ntmps11
    go_wp2
    go_ret
    exact ⟨⟨_, rfl⟩, rfl⟩
  have hnZ : (0 : Int) ≤ (n : Int) := by omega
  go_enter Try.func11, Try.ntmps11
  go_wp2
  go_loopg [11, 12] n (fun g a i wr => w = wr ∧ ∃ (t : Int) (k : Nat), k ≤ n ∧ g = n - k ∧ a = .int .i64 t ∧ i = .int .i64 k)
  case atStart => exact ⟨rfl, _, 0, Nat.zero_le _, rfl, rfl, rfl⟩
  case round =>
    obtain ⟨rfl, t, k, hk, rfl, rfl, rfl⟩ := hrel
    have hk0 : (0 : Int) ≤ (k : Int) := by omega
    by_cases hlt : k < n
    · have hltI : (k : Int) < (n : Int) := by omega
      have hkx : k < es.length := by have := HN.out.1; omega
      obtain ⟨b, off, hix, g0, _⟩ := HC.out.1.ix n c k HN.out.1 hkx
      generalize (es[k]'hkx).1 = key at *
      go_wp2
      · go_ret
        exact ⟨⟨_, rfl⟩, rfl⟩
      · go_ret
        exact ⟨⟨_, rfl⟩, rfl⟩
      · go_roundg (n - (k + 1))
        case rel => exact ⟨rfl, _, k + 1, hlt, rfl, rfl, by go_num⟩
        case measure => omega
    · have hnl : ¬ (k : Int) < (n : Int) := by omega
      by_cases hbig2 : (1048576 : Int) < (n2 : Int)
      · go_wp2
        go_ret
        exact ⟨⟨_, rfl⟩, rfl⟩
      go_wp2
      · go_ret
        exact ⟨⟨_, rfl⟩, rfl⟩
      go_loopg [11, 13] n2 (fun g a i wz => w = wz ∧ ∃ (t : Int) (j : Nat), j ≤ n2 ∧ g = n2 - j ∧ a = .int .i64 t ∧ i = .int .i64 j)
      case atStart => exact ⟨rfl, _, 0, Nat.zero_le _, rfl, rfl, rfl⟩
      case round =>
        obtain ⟨rfl, t2, j, hj, rfl, rfl, rfl⟩ := hrel
        have hj0 : (0 : Int) ≤ (j : Int) := by omega
        by_cases hlt2 : j < n2
        · have hltI : (j : Int) < (n2 : Int) := by omega
          have hkx : j < es2.length := by have := HN.out.2; omega
          obtain ⟨b, off, hix, g0, _⟩ := HC.out.2.ix n2 c2 j HN.out.2 hkx
          generalize (es2[j]'hkx).1 = key at *
          go_wp2
          · go_ret
            exact ⟨⟨_, rfl⟩, rfl⟩
          · go_ret
            exact ⟨⟨_, rfl⟩, rfl⟩
          · go_roundg (n2 - (j + 1))
            case rel => exact ⟨rfl, _, j + 1, hlt2, rfl, rfl, by go_num⟩
            case measure => omega
        · have hnl2 : ¬ (j : Int) < (n2 : Int) := by omega
          go_wp2
          all_goals go_ret
          all_goals exact ⟨⟨_, rfl⟩, rfl⟩
end Go.Proofs.Qxb6614989a
