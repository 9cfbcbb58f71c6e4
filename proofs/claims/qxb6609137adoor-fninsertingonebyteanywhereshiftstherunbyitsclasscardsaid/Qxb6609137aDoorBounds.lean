/-
  The bounds that each law asks first (zzBytes_..), and cloneBytes as one contract.
-/
import Derived.Test.Qxb6609137aDoorClone
namespace Go.Proofs.Qxb6609137aDoor
open Go.RowKit

theorem clone_any (p : Option Addr) (n cap : Nat) (xs : List Int) (hn : xs.length = n) (h63 : n ≤ 1000000) (hnil : p = none → n = 0 ∧ cap = 0) (hx : ∀ v ∈ xs, 0 ≤ v ∧ v ≤ 255) (w : World) (hc : Came w p xs) :
    Calls Tryd.prog 10 #[.slice p n cap] w fun e w' => ∃ p' c', e = .returned (.slice p' n c') ∧ Body w' p' c' xs ∧ Below w.heap.size w w' := by
  cases p with
  | none =>
    obtain ⟨rfl, rfl⟩ := hnil rfl
    refine (clone_nil w).mono ?_
    rintro e w' ⟨rfl, rfl⟩
    obtain rfl : xs = [] := List.eq_nil_of_length_eq_zero hn
    exact ⟨none, 0, rfl, ⟨Or.inl rfl, by simp, by simp, by simp⟩, Below.refl _ _⟩
  | some a =>
    refine (clone_some a cap n xs hn h63 w hc).mono ?_
    rintro e w' ⟨rfl, hrow, hB, hsz⟩
    refine ⟨_, _, rfl, ⟨Or.inr ⟨w.heap.size, rfl, by omega, ?_⟩, by omega, by omega, hx⟩, hB⟩
    intro j v hv
    rw [blk_cell hrow]
    simp [u8s, hv]

set_option maxHeartbeats 400000 in
theorem zz9_yes (p : Option Addr) (n cap : Nat) (s : ByteArray) (x : Int) (w : World) (h : n + s.size ≤ 1048576) :
    Calls Tryd.prog 9 #[.slice p n cap, .string s, .int .u8 x] w fun e w' => e = .returned (.bool true) ∧ w = w' := by
  have h1 : ¬ (1048576 : Int) < (n : Int) := by omega
  have h2 : ¬ (1048576 : Int) < (s.size : Int) := by omega
  have h3 : ¬ (1048576 : Int) < (n : Int) + (s.size : Int) := by omega
  have h4 : (0 : Int) ≤ (n : Int) := by omega
  have h5 : (0 : Int) ≤ (s.size : Int) := by omega
  go_enter Tryd.func9, Tryd.ntmps9
  go_wp2
  go_ret
  exact ⟨rfl, rfl⟩

set_option maxHeartbeats 400000 in
theorem zz9_no (p : Option Addr) (n cap : Nat) (s : ByteArray) (x : Int) (w : World) (h : 1048576 < n + s.size) :
    Calls Tryd.prog 9 #[.slice p n cap, .string s, .int .u8 x] w fun e w' => e = .returned (.bool false) ∧ w = w' := by
  by_cases h1 : (1048576 : Int) < (n : Int)
  · go_enter Tryd.func9, Tryd.ntmps9
    go_wp2
    go_ret
    exact ⟨rfl, rfl⟩
  · have h4 : (0 : Int) ≤ (n : Int) := by omega
    by_cases h2 : (1048576 : Int) < (s.size : Int)
    · go_enter Tryd.func9, Tryd.ntmps9
      go_wp2
      go_ret
      exact ⟨rfl, rfl⟩
    · have h3 : (1048576 : Int) < (n : Int) + (s.size : Int) := by omega
      have h5 : (0 : Int) ≤ (s.size : Int) := by omega
      go_enter Tryd.func9, Tryd.ntmps9
      go_wp2
      go_ret
      exact ⟨rfl, rfl⟩
end Go.Proofs.Qxb6609137aDoor
