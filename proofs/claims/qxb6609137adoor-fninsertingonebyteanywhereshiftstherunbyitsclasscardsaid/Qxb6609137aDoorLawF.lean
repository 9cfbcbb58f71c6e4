/-
  The walk of FnInsertingOneByteAnywhereShiftsTheRunByItsClass.
-/
import Derived.Test.Qxb6609137aDoorLawD
namespace Go.Proofs.Qxb6609137aDoor
open Go.RowKit

/-- cloneBytes, the form of what it gives. -/
theorem clone_form (p : Option Addr) (n cap : Nat) (xs : List Int) (hn : xs.length = n) (h63 : n ≤ 1000000) (hnil : p = none → n = 0 ∧ cap = 0) (hx : ∀ v ∈ xs, 0 ≤ v ∧ v ≤ 255) (w : World) (hc : Came w p xs) :
    Calls Tryd.prog 10 #[.slice p n cap] w fun e w' => ∃ p' c', e = .returned (.slice p' n c') ∧ Hid (Body w' p' c' xs ∧ Below w.heap.size w w' ∧ ((p' = none ∧ n = 0 ∧ c' = 0) ∨ ∃ B, p' = some ⟨B, 0, none⟩ ∧ c' = n)) := by
  cases p with
  | none =>
    obtain ⟨rfl, rfl⟩ := hnil rfl
    refine (clone_nil w).mono ?_
    rintro e w' ⟨rfl, rfl⟩
    obtain rfl : xs = [] := List.eq_nil_of_length_eq_zero hn
    exact ⟨none, 0, rfl, ⟨Or.inl rfl, by simp, by simp, by simp⟩, Below.refl _ _, Or.inl ⟨rfl, rfl, rfl⟩⟩
  | some a =>
    refine (clone_some a cap n xs hn h63 w hc).mono ?_
    rintro e w' ⟨rfl, hrow, hB, hsz⟩
    refine ⟨_, _, rfl, ⟨Or.inr ⟨w.heap.size, rfl, by omega, ?_⟩, by omega, by omega, hx⟩, hB, Or.inr ⟨_, rfl, rfl⟩⟩
    intro j v hv
    rw [blk_cell hrow]
    simp [u8s, hv]

theorem sl_lo (p : Option Addr) (n c k : Nat) (hk : k ≤ c) (w : World) : (Instr.sliceAt 22 (.slice p n c) none (some (.int .i64 k)) none).run Tryd.prog w = .ok (.slice p k c) w := by
  have h1 : (k : Int) ≤ (c : Int) := by omega
  have h0 : (0 : Int) ≤ (k : Int) := by omega
  have hu := Tryd.underlying22
  obtain ⟨i, hi, hs⟩ := Option.map_eq_some_iff.1 Tryd.size5
  cases p <;> go_simp
theorem sl_hi (B n c k : Nat) (hk : k ≤ n) (hc : n ≤ c) (w : World) : (Instr.sliceAt 22 (.slice (some ⟨B, 0, none⟩) n c) (some (.int .i64 k)) none none).run Tryd.prog w = .ok (.slice (some (if c = k then ⟨B, 0, none⟩ else ⟨B, k, none⟩)) (n - k) (c - k)) w := by
  have h1 : (k : Int) ≤ (n : Int) := by omega
  have h0 : (0 : Int) ≤ (k : Int) := by omega
  have hu := Tryd.underlying22
  obtain ⟨i, hi, hs⟩ := Option.map_eq_some_iff.1 Tryd.size5
  by_cases h : c = k
  · subst h; go_simp
  · go_simp
theorem sl_nil (w : World) : (Instr.sliceAt 22 (.slice none 0 0) (some (.int .i64 0)) none none).run Tryd.prog w = .ok (.slice none 0 0) w := by
  have hu := Tryd.underlying22
  obtain ⟨i, hi, hs⟩ := Option.map_eq_some_iff.1 Tryd.size5
  go_simp

/-- The two cuts of a clone at a place: what they are, and that their cells are the body's. -/
theorem cuts {p : Option Addr} {n c k : Nat} {xs : List Int} (hk : k ≤ n) (hn : xs.length = n) (hf : (p = none ∧ n = 0 ∧ c = 0) ∨ ∃ B, p = some ⟨B, 0, none⟩ ∧ c = n) :
    ∃ (q : Option Addr) (c2 : Nat), (∀ w, (Instr.sliceAt 22 (.slice p n c) none (some (.int .i64 k)) none).run Tryd.prog w = .ok (.slice p k c) w) ∧
      (∀ w, (Instr.sliceAt 22 (.slice p n c) (some (.int .i64 k)) none none).run Tryd.prog w = .ok (.slice q (n - k) c2) w) ∧
      (p = none → k = 0 ∧ c = 0) ∧ (q = none → n - k = 0 ∧ c2 = 0) ∧
      (∀ w, Body w p c xs → ∀ ad, p = some ad → ∀ j u, (u8s (xs.take k))[j]? = some u → w.cell? (ad.add j) = some u) ∧
      (∀ w, Body w p c xs → ∀ ad, q = some ad → ∀ j u, (u8s (xs.drop k))[j]? = some u → w.cell? (ad.add j) = some u) := by
  rcases hf with ⟨rfl, rfl, rfl⟩ | ⟨B, rfl, rfl⟩
  · obtain rfl : k = 0 := by omega
    exact ⟨none, 0, sl_lo none 0 0 0 (Nat.le_refl _), sl_nil, fun _ => ⟨rfl, rfl⟩, fun _ => ⟨rfl, rfl⟩, (fun _ _ ad e => by cases e), (fun _ _ ad e => by cases e)⟩
  · refine ⟨_, _, sl_lo _ c c k hk, fun w => sl_hi B c c k hk (Nat.le_refl _) w, (fun e => by cases e), (fun e => by cases e), ?_, ?_⟩
    · intro w hb ad e j u hu
      cases e
      simp only [u8s, List.getElem?_map, Option.map_eq_some_iff] at hu
      obtain ⟨v, hv, rfl⟩ := hu
      have hv' : xs[j]? = some v := by
        rw [List.getElem?_take] at hv; split at hv; exact hv; cases hv
      refine hb.news _ rfl j _ ?_
      simp [u8s, hv']
    · intro w hb ad e j u hu
      simp only [u8s, List.getElem?_map, Option.map_eq_some_iff, List.getElem?_drop] at hu
      obtain ⟨v, hv, rfl⟩ := hu
      have hlt : k + j < c := by have := (List.getElem?_eq_some_iff.1 hv).1; omega
      rw [if_neg (by omega)] at e
      cases e
      have e2 : (Addr.add ⟨B, k, none⟩ j) = (Addr.add ⟨B, 0, none⟩ (k + j)) := by
        simp only [Addr.add]; split <;> split <;> simp <;> omega
      rw [e2]
      refine hb.news _ rfl (k + j) _ ?_
      simp [u8s, hv]

/-! ### THE PLAIN LAW -/
theorem runOf_cut (xs : List Int) (k : Nat) (hk : k ≤ xs.length) : runOf xs = runOf (xs.take k) ++ runFrom k (xs.drop k) := by
  have h := runFrom_append (xs.take k) (xs.drop k) 0
  rw [List.take_append_drop] at h
  unfold runOf
  rw [h, List.length_take, Nat.min_eq_left hk, Nat.zero_add]
theorem runOf_ins (xs : List Int) (k : Nat) (b : Int) (hk : k ≤ xs.length) :
    runOf (xs.take k ++ [b] ++ xs.drop k) = runOf (xs.take k) ++ (if wsB b = true then [] else [(b, k + 1)]) ++ (runFrom k (xs.drop k)).map fun t => (t.1, t.2 + 1) := by
  unfold runOf
  rw [runFrom_append, runFrom_append]
  have e : (xs.take k).length = k := by simp; omega
  rw [e, List.length_append, e, List.length_singleton]
  rw [show 0 + (k + 1) = k + 1 by omega, runFrom_shift _ k 1, Nat.zero_add]
  simp only [runFrom]
theorem runOf_pre {xs : List Int} {k i : Nat} (hk : k ≤ xs.length) (hi : i < (runOf (xs.take k)).length) (h : i < (runOf xs).length) : ((runOf xs)[i]'h).2 ≤ k := by
  have e := runOf_cut xs k hk
  have h2 : (runOf xs)[i]'h = (runOf (xs.take k))[i]'hi := by
    have : (runOf xs)[i]? = (runOf (xs.take k))[i]? := by rw [e, List.getElem?_append_left hi]
    rw [List.getElem?_eq_getElem h, List.getElem?_eq_getElem hi] at this
    exact Option.some.inj this
  rw [h2]
  have := runFrom_places (xs.take k) 0 _ (List.getElem_mem hi)
  have h3 : (xs.take k).length ≤ k := List.length_take_le _ _
  have h4 : ((runOf (xs.take k))[i]'hi).2 ≤ 0 + (xs.take k).length := this.2
  omega
theorem runOf_post {xs : List Int} {k i : Nat} (hk : k ≤ xs.length) (hi : (runOf (xs.take k)).length ≤ i) (h : i < (runOf xs).length) : k < ((runOf xs)[i]'h).2 := by
  have e := runOf_cut xs k hk
  have h1 : i - (runOf (xs.take k)).length < (runFrom k (xs.drop k)).length := by rw [e, List.length_append] at h; omega
  have h2 : (runOf xs)[i]'h = (runFrom k (xs.drop k))[i - (runOf (xs.take k)).length]'h1 := by
    have : (runOf xs)[i]? = (runFrom k (xs.drop k))[i - (runOf (xs.take k)).length]? := by rw [e, List.getElem?_append_right hi]
    rw [List.getElem?_eq_getElem h, List.getElem?_eq_getElem h1] at this
    exact Option.some.inj this
  rw [h2]
  exact (runFrom_places (xs.drop k) k _ (List.getElem_mem h1)).1

/-- The run of the body with b put in at k, place by place. -/
theorem ins_ws {xs : List Int} {k : Nat} {b : Int} (hk : k ≤ xs.length) (hw : wsB b = true) :
    (runOf (xs.take k ++ [b] ++ xs.drop k)).length = (runOf xs).length ∧
    ∀ i (h : i < (runOf xs).length), (runOf (xs.take k ++ [b] ++ xs.drop k))[i]? = some (((runOf xs)[i]'h).1, ((runOf xs)[i]'h).2 + (if (runOf (xs.take k)).length ≤ i then 1 else 0)) := by
  have e := runOf_cut xs k hk
  have e2 := runOf_ins xs k b hk
  rw [if_pos hw, List.append_nil] at e2
  refine ⟨by rw [e2, e]; simp, ?_⟩
  intro i h
  rw [e2]
  by_cases hi : (runOf (xs.take k)).length ≤ i
  · rw [if_pos hi, List.getElem?_append_right hi, List.getElem?_map]
    have : (runOf xs)[i]? = (runFrom k (xs.drop k))[i - (runOf (xs.take k)).length]? := by rw [e, List.getElem?_append_right hi]
    rw [← this, List.getElem?_eq_getElem h]; rfl
  · rw [if_neg hi, List.getElem?_append_left (by omega)]
    have : (runOf xs)[i]? = (runOf (xs.take k))[i]? := by rw [e, List.getElem?_append_left (by omega)]
    rw [← this, List.getElem?_eq_getElem h]; rfl
theorem ins_not {xs : List Int} {k : Nat} {b : Int} (hk : k ≤ xs.length) (hw : wsB b = false) :
    (runOf (xs.take k ++ [b] ++ xs.drop k)).length = (runOf xs).length + 1 ∧
    (∀ i, i < (runOf (xs.take k)).length → (runOf (xs.take k ++ [b] ++ xs.drop k))[i]? = (runOf xs)[i]?) ∧
    (runOf (xs.take k ++ [b] ++ xs.drop k))[(runOf (xs.take k)).length]? = some (b, k + 1) ∧
    (∀ i, (runOf (xs.take k)).length ≤ i → (runOf (xs.take k ++ [b] ++ xs.drop k))[i + 1]? = ((runOf xs)[i]?).map fun t => (t.1, t.2 + 1)) := by
  have e := runOf_cut xs k hk
  have e2 := runOf_ins xs k b hk
  rw [if_neg (by simp [hw])] at e2
  refine ⟨by rw [e2, e]; simp; omega, ?_, ?_, ?_⟩
  · intro i hi
    rw [e2, e, List.append_assoc, List.getElem?_append_left hi, List.getElem?_append_left hi]
  · rw [e2, List.append_assoc, List.getElem?_append_right (Nat.le_refl _)]; simp
  · intro i hi
    rw [e2, List.append_assoc, List.getElem?_append_right (by omega), e, List.getElem?_append_right hi]
    rw [show i + 1 - (runOf (xs.take k)).length = (i - (runOf (xs.take k)).length) + 1 by omega]
    simp

set_option maxHeartbeats 400000 in
theorem zz23_yes (p : Option Addr) (n cap : Nat) (at_ b : Int) (s : ByteArray) (w : World) (h : n + s.size ≤ 1048576) :
    Calls Tryd.prog 23 #[.slice p n cap, .int .i64 at_, .int .u8 b, .string s] w fun e w' => e = .returned (.bool true) ∧ w = w' := by
  have h1 : ¬ (1048576 : Int) < (n : Int) := by omega
  have h2 : ¬ (1048576 : Int) < (s.size : Int) := by omega
  have h3 : ¬ (1048576 : Int) < (n : Int) + (s.size : Int) := by omega
  have h4 : (0 : Int) ≤ (n : Int) := by omega
  have h5 : (0 : Int) ≤ (s.size : Int) := by omega
  go_enter Tryd.func23, Tryd.ntmps23
  go_wp2
  go_ret
  exact ⟨rfl, rfl⟩

set_option maxHeartbeats 400000 in
theorem zz23_no (p : Option Addr) (n cap : Nat) (at_ b : Int) (s : ByteArray) (w : World) (h : 1048576 < n + s.size) :
    Calls Tryd.prog 23 #[.slice p n cap, .int .i64 at_, .int .u8 b, .string s] w fun e w' => e = .returned (.bool false) ∧ w = w' := by
  by_cases h1 : (1048576 : Int) < (n : Int)
  · go_enter Tryd.func23, Tryd.ntmps23
    go_wp2
    go_ret
    exact ⟨rfl, rfl⟩
  · have h4 : (0 : Int) ≤ (n : Int) := by omega
    by_cases h2 : (1048576 : Int) < (s.size : Int)
    · go_enter Tryd.func23, Tryd.ntmps23
      go_wp2
      go_ret
      exact ⟨rfl, rfl⟩
    · have h3 : (1048576 : Int) < (n : Int) + (s.size : Int) := by omega
      have h5 : (0 : Int) ≤ (s.size : Int) := by omega
      go_enter Tryd.func23, Tryd.ntmps23
      go_wp2
      go_ret
      exact ⟨rfl, rfl⟩

set_option maxRecDepth 100000 in
set_option maxHeartbeats 400000 in
theorem lawF_far (p : Option Addr) (n cap : Nat) (at_ b : Int) (s : ByteArray) (w : World) (h : 1048576 < n + s.size) :
    Calls Tryd.prog 8 #[.slice p n cap, .int .i64 at_, .int .u8 b, .string s] w fun e w' => e = .returned (.bool true) ∧ Below w.heap.size w w' := by
  go_enter Tryd.func8, Tryd.ntmps8
  go_wp2_with (go_at_call 23; refine (zz23_no _ _ _ _ _ _ _ h).mono ?_; rintro e w' ⟨rfl, rfl⟩)
  go_ret
  exact ⟨rfl, Below.refl _ _⟩

set_option maxRecDepth 100000 in
set_option maxHeartbeats 400000 in
theorem lawF_big (p : Option Addr) (n cap : Nat) (at_ b : Int) (s : ByteArray) (w : World) (h : n + s.size ≤ 1048576) (hb : 65536 < n ∨ 65536 < s.size) :
    Calls Tryd.prog 8 #[.slice p n cap, .int .i64 at_, .int .u8 b, .string s] w fun e w' => e = .returned (.bool true) ∧ Below w.heap.size w w' := by
  by_cases h1 : (65536 : Int) < (n : Int)
  · go_enter Tryd.func8, Tryd.ntmps8
    go_wp2_with (go_at_call 23; refine (zz23_yes _ _ _ _ _ _ _ h).mono ?_; rintro e w' ⟨rfl, rfl⟩)
    go_ret
    exact ⟨rfl, Below.refl _ _⟩
  · have h2 : (65536 : Int) < (s.size : Int) := by omega
    go_enter Tryd.func8, Tryd.ntmps8
    go_wp2_with (go_at_call 23; refine (zz23_yes _ _ _ _ _ _ _ h).mono ?_; rintro e w' ⟨rfl, rfl⟩)
    go_ret
    exact ⟨rfl, Below.refl _ _⟩

set_option maxRecDepth 100000 in
set_option maxHeartbeats 400000 in
theorem lawF_out (p : Option Addr) (n cap : Nat) (at_ b : Int) (s : ByteArray) (w : World) (hn : n ≤ 65536) (hs : s.size ≤ 65536) (ha : at_ < 0 ∨ (n : Int) < at_) :
    Calls Tryd.prog 8 #[.slice p n cap, .int .i64 at_, .int .u8 b, .string s] w fun e w' => e = .returned (.bool true) ∧ Below w.heap.size w w' := by
  have a1 : ¬ (65536 : Int) < (n : Int) := by omega
  have a2 : ¬ (65536 : Int) < (s.size : Int) := by omega
  have a3 : n + s.size ≤ 1048576 := by omega
  by_cases h1 : at_ < 0
  · go_enter Tryd.func8, Tryd.ntmps8
    go_wp2_with (go_at_call 23; refine (zz23_yes _ _ _ _ _ _ _ a3).mono ?_; rintro e w' ⟨rfl, rfl⟩)
    go_ret
    exact ⟨rfl, Below.refl _ _⟩
  · have h2 : (n : Int) < at_ := by omega
    clear ha
    go_enter Tryd.func8, Tryd.ntmps8
    go_wp2_with (go_at_call 23; refine (zz23_yes _ _ _ _ _ _ _ a3).mono ?_; rintro e w' ⟨rfl, rfl⟩)
    go_ret
    exact ⟨rfl, Below.refl _ _⟩

theorem grown_below4 {w w3 w' : World} {o : Obj} (h : Below w.heap.size w w3) (hg : (w3.alloc o).grownBy w' (some w.heap.size)) : Below w.heap.size w w' :=
  (h.alloc h.size _).grown hg (by have := h.size; simp; omega) (by intro k e; cases e; exact Nat.le_refl _)

set_option maxRecDepth 100000 in
set_option maxHeartbeats 4000000 in
theorem lawF_main (p : Option Addr) (n cap k : Nat) (b : Int) (xs : List Int) (s : ByteArray) (ev : Value) (w : World) (hn : n ≤ 65536) (hs : s.size ≤ 65536) (hk : k ≤ n) (hbb : 0 ≤ b ∧ b ≤ 255)
    (hlen : xs.length = n) (hnil : p = none → n = 0 ∧ cap = 0) (hxs : ∀ v ∈ xs, 0 ≤ v ∧ v ≤ 255) (hc : Came w p xs) (hev : ∃ eo, ev = .iface 63 (.pointer (some eo))) (hE : w.cell? ⟨0, 0, none⟩ = some ev) :
    Calls Tryd.prog 8 #[.slice p n cap, .int .i64 k, .int .u8 b, .string s] w fun e w' => e = .returned (.bool true) ∧ Below w.heap.size w w' := by
  have h0 : 0 < w.heap.size := World.block_lt_of_cell? w _ hE
  have a1 : ¬ (65536 : Int) < (n : Int) := by omega
  have a2 : ¬ (65536 : Int) < (s.size : Int) := by omega
  have a3 : n + s.size ≤ 1048576 := by omega
  have a5 : (0 : Int) ≤ (n : Int) := by omega
  have k0 : ¬ (k : Int) < 0 := by omega
  have k1 : ¬ (n : Int) < (k : Int) := by omega
  obtain ⟨M, hM, hmk⟩ := mk8 (n + 1) (by omega)
  have hmk' : ∀ w, (Instr.makeSlice 22 (.int .i64 0) (.int .i64 ((n : Int) + 1))).run Tryd.prog w = .ok (.slice (some ⟨w.heap.size, 0, none⟩) 0 (n + 1)) (w.alloc (.cells M 5)) := by
    intro w; have := hmk w; rw [show ((n + 1 : Nat) : Int) = (n : Int) + 1 by omega] at this; exact this
  clear hmk
  obtain ⟨i5, hi5, hs5⟩ := Option.map_eq_some_iff.1 Tryd.size5
  have HClone : Hid (Calls Tryd.prog 10 #[.slice p n cap] w fun e w' => ∃ p' c', e = .returned (.slice p' n c') ∧ Hid (Body w' p' c' xs ∧ Below w.heap.size w w' ∧ ((p' = none ∧ n = 0 ∧ c' = 0) ∨ ∃ B, p' = some ⟨B, 0, none⟩ ∧ c' = n))) :=
    clone_form p n cap xs hlen (by omega) hnil hxs w hc
  have HX : Hid (xs.length = n ∧ M.size = n + 1 ∧ ∀ v ∈ xs, 0 ≤ v ∧ v ≤ 255) := ⟨hlen, hM, hxs⟩
  have HE : Hid (∀ w1, Below w.heap.size w w1 → w1.cell? ⟨0, 0, none⟩ = some ev) := fun w1 hb => by rw [hb.cell h0]; exact hE
  have HEV : Hid (∃ eo, ev = .iface 63 (.pointer (some eo))) := hev
  have H1 : Hid ((∀ u ∈ [Value.int .u8 b], u.oneCell' = true) ∧ (∀ u ∈ u8s (xs.take k), u.oneCell' = true) ∧ (∀ u ∈ u8s (xs.drop k), u.oneCell' = true)) := ⟨by intro u hu; simp at hu; subst hu; rfl, u8s_one _, u8s_one _⟩
  have HL : Hid ((u8s (xs.take k)).length = k * 1 ∧ (u8s (xs.drop k)).length = (n - k) * 1) := ⟨by simp [hlen]; omega, by simp [hlen]⟩
  have HBY : Hid (0 ≤ b ∧ b ≤ 255) := hbb
  clear hlen hM hxs hnil hc hev hE h0 hbb
  have hmx : n + 1 ≤ maxLen := by unfold maxLen; omega
  go_enter Tryd.func8, Tryd.ntmps8
  go_wp2_with (first
    | (go_at_call 23; refine (zz23_yes _ _ _ _ _ _ _ a3).mono ?_; rintro e w' ⟨rfl, rfl⟩)
    | (go_at_call 10; refine HClone.out.mono ?_; rintro e w1 ⟨p1, c1, rfl, HB1⟩; obtain ⟨q2, c2, hsl1, hsl2, hno1, hno2, hn1, hn2⟩ := cuts (k := k) hk HX.out.1 HB1.out.2.2; have HNO : Hid ((p1 = none → k = 0 ∧ c1 = 0) ∧ (q2 = none → n - k = 0 ∧ c2 = 0)) := ⟨hno1, hno2⟩; have HNW : Hid ((∀ w, Body w p1 c1 xs → ∀ ad, p1 = some ad → ∀ j u, (u8s (xs.take k))[j]? = some u → w.cell? (ad.add j) = some u) ∧ (∀ w, Body w p1 c1 xs → ∀ ad, q2 = some ad → ∀ j u, (u8s (xs.drop k))[j]? = some u → w.cell? (ad.add j) = some u)) := ⟨hn1, hn2⟩; clear hno1 hno2 hn1 hn2)
    | (at_builtin; refine wpList_append_fits_any _ rfl (.tmp 51) (.tmp 54) 22 rfl 0 5 i5 1 Tryd.underlying22 hi5 hs5 w1.heap.size 0 (n + 1) [] rfl (rowIs_new w1 5 M (n + 1) HX.out.2.1 hmx) p1 k c1 (u8s (xs.take k)) rfl HL.out.1 HNO.out.1 (HNW.out.1 _ (HB1.out.1.mono ((Below.refl _ _).alloc (Nat.le_refl _) _))) H1.out.2.1 (by omega) ?_; intro w3 hown3 hgrow3)
    | (at_builtin; refine wpList_append_fits_any _ rfl (.tmp 56) (.tmp 58) 22 rfl 0 5 i5 1 Tryd.underlying22 hi5 hs5 w1.heap.size k (n + 1) _ rfl (World.ownsRow.alloc (row_zero hown3) _) (some ⟨w3.heap.size, 0, none⟩) 1 1 [.int .u8 b] rfl rfl (by intro h; cases h) one_new H1.out.1 (by omega) ?_; intro w4 hown4 hgrow4)
    | (at_builtin; refine wpList_append_fits_any _ rfl (.tmp 60) (.tmp 63) 22 rfl 0 5 i5 1 Tryd.underlying22 hi5 hs5 w1.heap.size (k + 1) (n + 1) _ rfl hown4 q2 (n - k) c2 (u8s (xs.drop k)) rfl HL.out.2 HNO.out.2 (HNW.out.2 _ (HB1.out.1.mono (grown_below4 (grown_below hgrow3) hgrow4))) H1.out.2.2 (by omega) ?_; intro w5 hown5 hgrow5)
    | (go_at_call 22; refine (zzIsSpace_any _ _).mono ?_; rintro e w' ⟨rfl, rfl⟩)
    | (go_at_call 16; refine (jsonWs_any _ _).mono ?_; rintro e w' ⟨rfl, rfl⟩))
  have hb01 := HB1.out.2.1
  have hb15 : Below w1.heap.size w1 w5 := grown_below2 (grown_below4 (grown_below hgrow3) hgrow4) hgrow5
  have B5 : Hid (Below w.heap.size w w5) := hb01.trans (hb15.mono hb01.size)
  have hN : k + 1 + (n - k) = n + 1 := by omega
  have HJ : Hid (Body w5 (some ⟨w1.heap.size, 0, none⟩) (n + 1) (xs.take k ++ [b] ++ xs.drop k)) := by
    have h : RowIs w5 w1.heap.size 5 (k + 1 + (n - k)) (n + 1) (u8s (xs.take k) ++ [.int .u8 b] ++ u8s (xs.drop k)) := hown5
    have e : u8s (xs.take k) ++ [.int .u8 b] ++ u8s (xs.drop k) = u8s (xs.take k ++ [b] ++ xs.drop k) := by simp [u8s]
    rw [e] at h
    refine h.body2 (by omega) (by omega) ?_
    intro v hv
    simp only [List.mem_append, List.mem_singleton] at hv
    rcases hv with (hv | hv) | hv
    · exact HX.out.2.2 v (List.mem_of_mem_take hv)
    · rw [hv]; exact HBY.out
    · exact HX.out.2.2 v (List.mem_of_mem_drop hv)
  have HBa : Hid (Body w5 p1 c1 xs) := HB1.out.1.mono hb15
  clear HClone HB1 hown3 hgrow3 hown4 hgrow4 hown5 hgrow5 hb01 hb15 H1 HL hmk' hi5 hs5 hmx hsl1 hsl2 HNO HNW
  generalize w1.heap.size = J at *
  clear w4 w1
  refine (skipRun_hid p1 n c1 xs s ev w5 HX.out.1 (by omega) HBa.out HEV.out (HE.out _ B5.out)).mono ?_
  rintro e w6 ⟨T1, O1, m, rfl, H6⟩
  have B6 : Hid (Below w5.heap.size w5 w6) := H6.out.2.2.2.2.2
  go_wp2_with fail
  refine (skipRun_hid (some ⟨J, 0, none⟩) (n + 1) (n + 1) (xs.take k ++ [b] ++ xs.drop k) s ev w6 (by simp [HX.out.1]; omega) (by omega) (HJ.out.mono B6.out) HEV.out (HE.out _ (B5.out.trans (B6.out.mono B5.out.size)))).mono ?_
  rintro e w8 ⟨T3, O3, m3, rfl, H8⟩
  clear hN
  have B8 : Hid (Below w6.heap.size w6 w8) := H8.out.2.2.2.2.2
  have R1 : Hid (RowIs w8 T1 5 m n (tokV (runOf xs)) ∧ RowIs w8 O1 2 m n (offV (runOf xs))) :=
    ⟨H6.out.2.2.2.1.same (B8.out.block _ H6.out.2.2.2.1.lt), H6.out.2.2.2.2.1.same (B8.out.block _ H6.out.2.2.2.2.1.lt)⟩
  have R3 : Hid (RowIs w8 T3 5 m3 (n + 1) (tokV (runOf (xs.take k ++ [b] ++ xs.drop k))) ∧ RowIs w8 O3 2 m3 (n + 1) (offV (runOf (xs.take k ++ [b] ++ xs.drop k)))) := ⟨H8.out.2.2.2.1, H8.out.2.2.2.2.1⟩
  have BB : Hid (Below w.heap.size w w8) := by
    have b6 := B5.out.trans (B6.out.mono B5.out.size)
    exact b6.trans (B8.out.mono b6.size)
  have HM : Hid (m = (runOf xs).length ∧ m3 = (runOf (xs.take k ++ [b] ++ xs.drop k)).length) := ⟨H6.out.1, H8.out.1⟩
  have hm : m ≤ n := by rw [H6.out.1]; have := runOf_length xs; have := HX.out.1; omega
  have hkx : k ≤ xs.length := by have := HX.out.1; omega
  clear B5 B6 B8 H6 H8 HBa HJ HE HEV
  have hmI : (m : Int) ≤ 65536 := by omega
  have hka : (runOf (xs.take k)).length ≤ m := by rw [HM.out.1, runOf_cut xs k hkx]; simp
  have HKA : Hid (∀ i (h : i < (runOf xs).length), (i < (runOf (xs.take k)).length → ((runOf xs)[i]'h).2 ≤ k) ∧ ((runOf (xs.take k)).length ≤ i → k < ((runOf xs)[i]'h).2)) := fun i h => ⟨fun hi => runOf_pre hkx hi h, fun hi => runOf_post hkx hi h⟩
  have HCell : Hid (∀ i (h : i < (runOf xs).length), w8.cell? ⟨T1, i, none⟩ = some (.int .u8 ((runOf xs)[i]'h).1) ∧ w8.cell? ⟨O1, i, none⟩ = some (.int .i64 (((runOf xs)[i]'h).2 : Nat)) ∧ ((runOf xs)[i]'h).2 ≤ n ∧ wsB ((runOf xs)[i]'h).1 = false) := by
    intro i h
    have hm' := HM.out.1
    refine ⟨by rw [R1.out.1.cell i (by omega)]; simp [tokV, h], by rw [R1.out.2.cell i (by omega)]; simp [offV, h], ?_, ?_⟩
    · have h1 : ((runOf xs)[i]'h).2 ≤ 0 + xs.length := (runFrom_places xs 0 _ (List.getElem_mem h)).2
      have h2 := HX.out.1
      omega
    · exact runFrom_not xs 0 _ (List.getElem_mem h)
  generalize hka' : (runOf (xs.take k)).length = ka at *
  clear R1
  go_wp2
  go_loopg [16] m (fun g i wi => w8 = wi ∧ ∃ j : Nat, j ≤ m ∧ g = m - j ∧ i = .int .i64 j)
  case atStart => exact ⟨rfl, 0, Nat.zero_le _, rfl, rfl⟩
  case round =>
    obtain ⟨rfl, j, hj, rfl, rfl⟩ := hrel
    have hjZ : (0 : Int) ≤ (j : Int) := by omega
    by_cases hlt : j < m
    · have hltI : (j : Int) < (m : Int) := by omega
      have hjr : j < (runOf xs).length := by have := HM.out.1; omega
      obtain ⟨g1, _, _, hw⟩ := HCell.out j hjr
      generalize ((runOf xs)[j]'hjr).1 = tv at *
      go_wp2_with (first | (go_at_call 16; refine (jsonWs_any _ _).mono ?_; rintro e w' ⟨rfl, rfl⟩; rw [hw]))
      go_roundg (m - (j + 1))
      case rel => exact ⟨rfl, j + 1, hlt, rfl, by go_num⟩
      case measure => omega
    · have hnl : ¬ (j : Int) < (m : Int) := by omega
      go_wp2
      go_loopg [17] ka (fun g i wi => w8 = wi ∧ ∃ q : Nat, q ≤ ka ∧ g = ka - q ∧ i = .int .i64 q)
      case atStart => exact ⟨rfl, 0, Nat.zero_le _, rfl, rfl⟩
      case round =>
        obtain ⟨rfl, q, hq, rfl, rfl⟩ := hrel
        have hqZ : (0 : Int) ≤ (q : Int) := by omega
        by_cases hlt2 : q < ka
        · have hqm : (q : Int) < (m : Int) := by omega
          have hqr : q < (runOf xs).length := by have := HM.out.1; omega
          obtain ⟨_, g2, _, _⟩ := HCell.out q hqr
          have hle : ((((runOf xs)[q]'hqr).2 : Nat) : Int) ≤ (k : Int) := by have := (HKA.out q hqr).1 hlt2; omega
          generalize ((runOf xs)[q]'hqr).2 = ov at *
          go_wp2
          go_roundg (ka - (q + 1))
          case rel => exact ⟨rfl, q + 1, hlt2, rfl, by go_num⟩
          case measure => omega
        · obtain rfl : q = ka := by omega
          clear hlt2
          have HTest : Hid (q < m → ∃ hqr : q < (runOf xs).length, w8.cell? ⟨O1, q, none⟩ = some (.int .i64 (((runOf xs)[q]'hqr).2 : Nat)) ∧ ¬ ((((runOf xs)[q]'hqr).2 : Nat) : Int) ≤ (k : Int)) := by
            intro hqm
            have hqr : q < (runOf xs).length := by have := HM.out.1; omega
            exact ⟨hqr, (HCell.out q hqr).2.1, by have := (HKA.out q hqr).2 (Nat.le_refl _); omega⟩
          cases hw : wsB b with
          | true =>
            obtain ⟨hl3, hins⟩ := ins_ws hkx hw
            have hm3 : m3 = m := by rw [HM.out.2, HM.out.1]; exact hl3
            subst hm3
            have HIns : Hid (∀ i (h : i < (runOf xs).length), w8.cell? ⟨T3, i, none⟩ = some (.int .u8 ((runOf xs)[i]'h).1) ∧ w8.cell? ⟨O3, i, none⟩ = some (.int .i64 ((((runOf xs)[i]'h).2 : Int) + (if q ≤ i then 1 else 0)))) := by
              intro i h
              have hm' := HM.out.1
              have e := hins i h
              rw [hka'] at e
              refine ⟨by rw [R3.out.1.cell i (by omega)]; simp only [tokV, List.getElem?_map, e]; rfl, ?_⟩
              rw [R3.out.2.cell i (by omega)]; simp only [offV, List.getElem?_map, e]
              simp only [Option.map_some]
              congr 2
              split <;> simp
            clear hins hl3 hka'
            by_cases hqm : q < m3
            · have hqmI : (q : Int) < (m3 : Int) := by omega
              obtain ⟨hqr, g2, hle⟩ := HTest.out hqm
              generalize ((runOf xs)[q]'hqr).2 = ov at *
              go_wp2_with (first | (go_at_call 16; refine (jsonWs_any _ _).mono ?_; rintro e w' ⟨rfl, rfl⟩; rw [hw]))
              clear g2 hle
              go_loopg [18] m3 (fun g i wi => ∃ t : Nat, t ≤ m3 ∧ g = m3 - t ∧ i = .int .i64 t ∧ ∃ d, wi = w8.drewN d)
              case atStart => exact ⟨0, Nat.zero_le _, rfl, rfl, 0, rfl⟩
              case round =>
                obtain ⟨t, ht, rfl, rfl, d, rfl⟩ := hrel
                have htZ : (0 : Int) ≤ (t : Int) := by omega
                by_cases htm : t < m3
                · have htI : (t : Int) < (m3 : Int) := by omega
                  have htr : t < (runOf xs).length := by have := HM.out.1; omega
                  obtain ⟨g1, g2', hon, _⟩ := HCell.out t htr
                  obtain ⟨g3, g4⟩ := HIns.out t htr
                  generalize ((runOf xs)[t]'htr).1 = tv at *
                  generalize ((runOf xs)[t]'htr).2 = oo at *
                  have hoZ : (0 : Int) ≤ (oo : Int) := by omega
                  have hoI : (oo : Int) ≤ 65536 := by omega
                  by_cases hqt : q ≤ t
                  · have hqtI : (q : Int) ≤ (t : Int) := by omega
                    rw [if_pos hqt] at g4
                    go_wp2
                    go_quiet (fail)
                    go_wp2
                    go_roundg (m3 - (t + 1))
                    case rel => exact ⟨t + 1, htm, rfl, by go_num, _, rfl⟩
                    case measure => omega
                  · have hqtI : ¬ (q : Int) ≤ (t : Int) := by omega
                    rw [if_neg hqt, Int.add_zero] at g4
                    go_wp2
                    go_quiet (fail)
                    go_wp2
                    go_roundg (m3 - (t + 1))
                    case rel => exact ⟨t + 1, htm, rfl, by go_num, _, rfl⟩
                    case measure => omega
                · have htI : ¬ (t : Int) < (m3 : Int) := by omega
                  go_wp2
                  go_ret
                  exact ⟨rfl, below_drewN BB.out _⟩
            · have hqmI : ¬ (q : Int) < (m3 : Int) := by omega
              go_wp2_with (first | (go_at_call 16; refine (jsonWs_any _ _).mono ?_; rintro e w' ⟨rfl, rfl⟩; rw [hw]))
              go_loopg [18] m3 (fun g i wi => ∃ t : Nat, t ≤ m3 ∧ g = m3 - t ∧ i = .int .i64 t ∧ ∃ d, wi = w8.drewN d)
              case atStart => exact ⟨0, Nat.zero_le _, rfl, rfl, 0, rfl⟩
              case round =>
                obtain ⟨t, ht, rfl, rfl, d, rfl⟩ := hrel
                have htZ : (0 : Int) ≤ (t : Int) := by omega
                by_cases htm : t < m3
                · have htI : (t : Int) < (m3 : Int) := by omega
                  have htr : t < (runOf xs).length := by have := HM.out.1; omega
                  obtain ⟨g1, g2', hon, _⟩ := HCell.out t htr
                  obtain ⟨g3, g4⟩ := HIns.out t htr
                  generalize ((runOf xs)[t]'htr).1 = tv at *
                  generalize ((runOf xs)[t]'htr).2 = oo at *
                  have hoZ : (0 : Int) ≤ (oo : Int) := by omega
                  have hoI : (oo : Int) ≤ 65536 := by omega
                  by_cases hqt : q ≤ t
                  · have hqtI : (q : Int) ≤ (t : Int) := by omega
                    rw [if_pos hqt] at g4
                    go_wp2
                    go_quiet (fail)
                    go_wp2
                    go_roundg (m3 - (t + 1))
                    case rel => exact ⟨t + 1, htm, rfl, by go_num, _, rfl⟩
                    case measure => omega
                  · have hqtI : ¬ (q : Int) ≤ (t : Int) := by omega
                    rw [if_neg hqt, Int.add_zero] at g4
                    go_wp2
                    go_quiet (fail)
                    go_wp2
                    go_roundg (m3 - (t + 1))
                    case rel => exact ⟨t + 1, htm, rfl, by go_num, _, rfl⟩
                    case measure => omega
                · have htI : ¬ (t : Int) < (m3 : Int) := by omega
                  go_wp2
                  go_ret
                  exact ⟨rfl, below_drewN BB.out _⟩
          | false =>
            obtain ⟨hl3, hpre, hmid, hpost⟩ := ins_not hkx hw
            have hm3 : m3 = m + 1 := by rw [HM.out.2, HM.out.1]; exact hl3
            subst hm3
            rw [hka'] at hpre hmid hpost
            have HPre : Hid (∀ i (h : i < (runOf xs).length), i < q → w8.cell? ⟨T3, i, none⟩ = some (.int .u8 ((runOf xs)[i]'h).1) ∧ w8.cell? ⟨O3, i, none⟩ = some (.int .i64 (((runOf xs)[i]'h).2 : Nat))) := by
              intro i h hi
              have hm' := HM.out.1
              have e := hpre i hi
              rw [List.getElem?_eq_getElem h] at e
              exact ⟨by rw [R3.out.1.cell i (by omega)]; simp only [tokV, List.getElem?_map, e]; rfl, by rw [R3.out.2.cell i (by omega)]; simp only [offV, List.getElem?_map, e]; rfl⟩
            have HMid : Hid (w8.cell? ⟨T3, q, none⟩ = some (.int .u8 b) ∧ w8.cell? ⟨O3, q, none⟩ = some (.int .i64 ((k : Int) + 1))) :=
              ⟨by rw [R3.out.1.cell q (by omega)]; simp only [tokV, List.getElem?_map, hmid]; rfl, by rw [R3.out.2.cell q (by omega)]; simp only [offV, List.getElem?_map, hmid]; rfl⟩
            have HPost : Hid (∀ i (h : i < (runOf xs).length), q ≤ i → w8.cell? ⟨T3, i + 1, none⟩ = some (.int .u8 ((runOf xs)[i]'h).1) ∧ w8.cell? ⟨O3, i + 1, none⟩ = some (.int .i64 ((((runOf xs)[i]'h).2 : Int) + 1))) := by
              intro i h hi
              have hm' := HM.out.1
              have e := hpost i hi
              rw [List.getElem?_eq_getElem h] at e
              exact ⟨by rw [R3.out.1.cell (i + 1) (by omega)]; simp only [tokV, List.getElem?_map, e]; rfl, by rw [R3.out.2.cell (i + 1) (by omega)]; simp only [offV, List.getElem?_map, e]; rfl⟩
            clear hpre hmid hpost hl3 hka'
            by_cases hqm : q < m
            · have hqmI : (q : Int) < (m : Int) := by omega
              obtain ⟨hqr, g2, hle⟩ := HTest.out hqm
              generalize ((runOf xs)[q]'hqr).2 = ov at *
              go_wp2_with (first | (go_at_call 16; refine (jsonWs_any _ _).mono ?_; rintro e w' ⟨rfl, rfl⟩; rw [hw]))
              clear g2 hle
              go_loopg [20] (m + 1) (fun g i wi => w8 = wi ∧ ∃ t : Nat, t ≤ m + 1 ∧ g = m + 1 - t ∧ i = .int .i64 t)
              case atStart => exact ⟨rfl, 0, Nat.zero_le _, rfl, rfl⟩
              case round =>
                obtain ⟨rfl, t, ht, rfl, rfl⟩ := hrel
                have htZ : (0 : Int) ≤ (t : Int) := by omega
                by_cases htm : t < m + 1
                · have htI : (t : Int) < (m : Int) + 1 := by omega
                  rcases Nat.lt_trichotomy t q with htq | htq | htq
                  · have htqI : (t : Int) < (q : Int) := by omega
                    have htmI : (t : Int) < (m : Int) := by omega
                    have htr : t < (runOf xs).length := by have := HM.out.1; omega
                    obtain ⟨g1, g2', hon, _⟩ := HCell.out t htr
                    obtain ⟨g3, g4⟩ := HPre.out t htr htq
                    generalize ((runOf xs)[t]'htr).1 = tv at *
                    generalize ((runOf xs)[t]'htr).2 = oo at *
                    go_wp2
                    go_roundg (m + 1 - (t + 1))
                    case rel => exact ⟨rfl, t + 1, htm, rfl, by go_num⟩
                    case measure => omega
                  · have htqI : ¬ (t : Int) < (q : Int) := by omega
                    have htqJ : ¬ (q : Int) < (t : Int) := by omega
                    obtain ⟨g3, g4⟩ := HMid.out
                    rw [← htq] at g3 g4
                    clear htq
                    go_wp2
                    go_roundg (m + 1 - (t + 1))
                    case rel => exact ⟨rfl, t + 1, htm, rfl, by go_num⟩
                    case measure => omega
                  · obtain ⟨r, rfl⟩ : ∃ r, t = r + 1 := ⟨t - 1, by omega⟩
                    have hrI : (r : Int) < (m : Int) := by omega
                    have hrZ : (0 : Int) ≤ (r : Int) := by omega
                    have hrq : ¬ (r : Int) + 1 < (q : Int) := by omega
                    have hrq2 : (q : Int) < (r : Int) + 1 := by omega
                    have hr65 : (r : Int) ≤ 65536 := by omega
                    have hrr : r < (runOf xs).length := by have := HM.out.1; omega
                    obtain ⟨g1, g2', hon, _⟩ := HCell.out r hrr
                    obtain ⟨g3, g4⟩ := HPost.out r hrr (by omega)
                    generalize ((runOf xs)[r]'hrr).1 = tv at *
                    generalize ((runOf xs)[r]'hrr).2 = oo at *
                    have hoZ : (0 : Int) ≤ (oo : Int) := by omega
                    have hoI : (oo : Int) ≤ 65536 := by omega
                    go_wp2
                    go_roundg (m + 1 - (r + 1 + 1))
                    case rel => exact ⟨rfl, r + 1 + 1, htm, rfl, by go_num⟩
                    case measure => omega
                · have htI : ¬ (t : Int) < (m : Int) + 1 := by omega
                  go_wp2
                  go_ret
                  exact ⟨rfl, BB.out⟩
            · have hqmI : ¬ (q : Int) < (m : Int) := by omega
              go_wp2_with (first | (go_at_call 16; refine (jsonWs_any _ _).mono ?_; rintro e w' ⟨rfl, rfl⟩; rw [hw]))
              go_loopg [20] (m + 1) (fun g i wi => w8 = wi ∧ ∃ t : Nat, t ≤ m + 1 ∧ g = m + 1 - t ∧ i = .int .i64 t)
              case atStart => exact ⟨rfl, 0, Nat.zero_le _, rfl, rfl⟩
              case round =>
                obtain ⟨rfl, t, ht, rfl, rfl⟩ := hrel
                have htZ : (0 : Int) ≤ (t : Int) := by omega
                by_cases htm : t < m + 1
                · have htI : (t : Int) < (m : Int) + 1 := by omega
                  rcases Nat.lt_trichotomy t q with htq | htq | htq
                  · have htqI : (t : Int) < (q : Int) := by omega
                    have htmI : (t : Int) < (m : Int) := by omega
                    have htr : t < (runOf xs).length := by have := HM.out.1; omega
                    obtain ⟨g1, g2', hon, _⟩ := HCell.out t htr
                    obtain ⟨g3, g4⟩ := HPre.out t htr htq
                    generalize ((runOf xs)[t]'htr).1 = tv at *
                    generalize ((runOf xs)[t]'htr).2 = oo at *
                    go_wp2
                    go_roundg (m + 1 - (t + 1))
                    case rel => exact ⟨rfl, t + 1, htm, rfl, by go_num⟩
                    case measure => omega
                  · have htqI : ¬ (t : Int) < (q : Int) := by omega
                    have htqJ : ¬ (q : Int) < (t : Int) := by omega
                    obtain ⟨g3, g4⟩ := HMid.out
                    rw [← htq] at g3 g4
                    clear htq
                    go_wp2
                    go_roundg (m + 1 - (t + 1))
                    case rel => exact ⟨rfl, t + 1, htm, rfl, by go_num⟩
                    case measure => omega
                  · obtain ⟨r, rfl⟩ : ∃ r, t = r + 1 := ⟨t - 1, by omega⟩
                    have hrI : (r : Int) < (m : Int) := by omega
                    have hrZ : (0 : Int) ≤ (r : Int) := by omega
                    have hrq : ¬ (r : Int) + 1 < (q : Int) := by omega
                    have hrq2 : (q : Int) < (r : Int) + 1 := by omega
                    have hr65 : (r : Int) ≤ 65536 := by omega
                    have hrr : r < (runOf xs).length := by have := HM.out.1; omega
                    obtain ⟨g1, g2', hon, _⟩ := HCell.out r hrr
                    obtain ⟨g3, g4⟩ := HPost.out r hrr (by omega)
                    generalize ((runOf xs)[r]'hrr).1 = tv at *
                    generalize ((runOf xs)[r]'hrr).2 = oo at *
                    have hoZ : (0 : Int) ≤ (oo : Int) := by omega
                    have hoI : (oo : Int) ≤ 65536 := by omega
                    go_wp2
                    go_roundg (m + 1 - (r + 1 + 1))
                    case rel => exact ⟨rfl, r + 1 + 1, htm, rfl, by go_num⟩
                    case measure => omega
                · have htI : ¬ (t : Int) < (m : Int) + 1 := by omega
                  go_wp2
                  go_ret
                  exact ⟨rfl, BB.out⟩

/-- THE LAW: whatever the input, it returns true, and nothing that was there has turned. -/
theorem lawF_any (p : Option Addr) (n cap : Nat) (at_ b : Int) (xs : List Int) (s : ByteArray) (ev : Value) (w : World) (hbb : 0 ≤ b ∧ b ≤ 255)
    (hlen : xs.length = n) (hnil : p = none → n = 0 ∧ cap = 0) (hxs : ∀ v ∈ xs, 0 ≤ v ∧ v ≤ 255) (hc : Came w p xs) (hev : ∃ eo, ev = .iface 63 (.pointer (some eo))) (hE : w.cell? ⟨0, 0, none⟩ = some ev) :
    Calls Tryd.prog 8 #[.slice p n cap, .int .i64 at_, .int .u8 b, .string s] w fun e w' => e = .returned (.bool true) ∧ Below w.heap.size w w' := by
  by_cases h1 : n + s.size ≤ 1048576
  · by_cases h2 : 65536 < n ∨ 65536 < s.size
    · exact lawF_big p n cap at_ b s w h1 h2
    · by_cases h3 : at_ < 0 ∨ (n : Int) < at_
      · exact lawF_out p n cap at_ b s w (by omega) (by omega) h3
      · obtain ⟨k, rfl⟩ : ∃ k : Nat, at_ = (k : Int) := ⟨at_.toNat, by omega⟩
        exact lawF_main p n cap k b xs s ev w (by omega) (by omega) (by omega) hbb hlen hnil hxs hc hev hE
  · exact lawF_far p n cap at_ b s w (by omega)
end Go.Proofs.Qxb6609137aDoor
