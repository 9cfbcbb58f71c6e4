/-
  THE PLAIN LAW OF A RUN: the bytes that are no whitespace, each with the place just past it. No Go in sight.
-/
import Derived.Test.Qxb6609137aDoorSkip
namespace Go.Proofs.Qxb6609137aDoor

/-- The run of a body that is read from place o on. -/
def runFrom (o : Nat) : List Int → List (Int × Nat)
  | [] => []
  | x :: r => if wsB x = true then runFrom (o + 1) r else (x, o + 1) :: runFrom (o + 1) r

theorem runFrom_append (a b : List Int) : ∀ o, runFrom o (a ++ b) = runFrom o a ++ runFrom (o + a.length) b := by
  induction a with
  | nil => intro o; simp [runFrom]
  | cons x r ih =>
    intro o
    simp only [List.cons_append, runFrom, ih (o + 1), List.length_cons]
    have e : o + 1 + r.length = o + (r.length + 1) := by omega
    rw [e]
    split <;> simp

theorem runFrom_shift (b : List Int) : ∀ o d, runFrom (o + d) b = (runFrom o b).map fun t => (t.1, t.2 + d) := by
  induction b with
  | nil => intro o d; simp [runFrom]
  | cons x r ih =>
    intro o d
    simp only [runFrom]
    have e : o + d + 1 = o + 1 + d := by omega
    rw [e, ih (o + 1) d]
    split <;> simp

theorem runFrom_length (b : List Int) : ∀ o, (runFrom o b).length ≤ b.length := by
  induction b with
  | nil => intro o; simp [runFrom]
  | cons x r ih =>
    intro o
    have := ih (o + 1)
    simp only [runFrom]
    split <;> simp <;> omega

theorem runFrom_not (b : List Int) : ∀ o t, t ∈ runFrom o b → wsB t.1 = false := by
  induction b with
  | nil => intro o t ht; simp [runFrom] at ht
  | cons x r ih =>
    intro o t ht
    simp only [runFrom] at ht
    split at ht
    · exact ih _ _ ht
    · rename_i hx
      rcases List.mem_cons.1 ht with h | h
      · rw [h]; simpa using hx
      · exact ih _ _ h

theorem runFrom_bytes (b : List Int) (hb : ∀ v ∈ b, 0 ≤ v ∧ v ≤ 255) : ∀ o t, t ∈ runFrom o b → 0 ≤ t.1 ∧ t.1 ≤ 255 := by
  induction b with
  | nil => intro o t ht; simp [runFrom] at ht
  | cons x r ih =>
    intro o t ht
    simp only [runFrom] at ht
    split at ht
    · exact ih (fun v hv => hb v (List.mem_cons_of_mem _ hv)) _ _ ht
    · rcases List.mem_cons.1 ht with h | h
      · rw [h]; exact hb x List.mem_cons_self
      · exact ih (fun v hv => hb v (List.mem_cons_of_mem _ hv)) _ _ h

theorem runFrom_places (b : List Int) : ∀ o t, t ∈ runFrom o b → o < t.2 ∧ t.2 ≤ o + b.length := by
  induction b with
  | nil => intro o t ht; simp [runFrom] at ht
  | cons x r ih =>
    intro o t ht
    simp only [runFrom] at ht
    split at ht
    · have := ih _ _ ht; simp; omega
    · rcases List.mem_cons.1 ht with h | h
      · rw [h]; simp
      · have := ih _ _ h; simp; omega

/-- The run of the whole body. -/
def runOf (xs : List Int) : List (Int × Nat) := runFrom 0 xs

theorem runOf_ws {xs : List Int} {k : Nat} (h : k < xs.length) (hw : wsB xs[k] = true) : runOf (xs.take (k + 1)) = runOf (xs.take k) := by
  unfold runOf
  rw [List.take_succ_eq_append_getElem h, runFrom_append]
  simp [runFrom, hw]
theorem runOf_not {xs : List Int} {k : Nat} (h : k < xs.length) (hw : wsB xs[k] = false) : runOf (xs.take (k + 1)) = runOf (xs.take k) ++ [(xs[k], k + 1)] := by
  unfold runOf
  rw [List.take_succ_eq_append_getElem h, runFrom_append]
  simp [runFrom, hw]
  omega

/-- Up to the next byte that is none: one more in the run. -/
theorem runOf_skip : ∀ (d : Nat) (xs : List Int) (k : Nat), xs.length - k = d → (h : skipAt xs k < xs.length) → runOf (xs.take (skipAt xs k + 1)) = runOf (xs.take k) ++ [(xs[skipAt xs k]'h, skipAt xs k + 1)] := by
  intro d
  induction d with
  | zero => intro xs k hd h; have := le_skipAt xs k; omega
  | succ d ih =>
    intro xs k hd h
    have hk : k < xs.length := by omega
    cases hw : wsB xs[k] with
    | true =>
      have e := skipAt_ws hk hw
      have := ih xs (k + 1) (by omega) (by rw [← e]; exact h)
      simp only [← e] at this
      rw [this, runOf_ws hk hw]
    | false =>
      have e := skipAt_not hk hw
      simp only [e]
      exact runOf_not hk hw

/-- No more such byte: the run is whole. -/
theorem runOf_end : ∀ (d : Nat) (xs : List Int) (k : Nat), xs.length - k = d → k ≤ xs.length → skipAt xs k = xs.length → runOf (xs.take k) = runOf xs := by
  intro d
  induction d with
  | zero => intro xs k hd hk _; rw [List.take_of_length_le (by omega)]
  | succ d ih =>
    intro xs k hd hk h
    have hk' : k < xs.length := by omega
    cases hw : wsB xs[k] with
    | true =>
      have e := skipAt_ws hk' hw
      rw [← runOf_ws hk' hw]
      exact ih xs (k + 1) (by omega) (by omega) (by omega)
    | false => have := skipAt_not hk' hw; omega

theorem runOf_take_length (xs : List Int) (k : Nat) : (runOf (xs.take k)).length ≤ k := by
  have := runFrom_length (xs.take k) 0
  have h2 := List.length_take_le k xs
  unfold runOf; omega
end Go.Proofs.Qxb6609137aDoor
