/-
  The walk of FnSkipSpaceOverAJoinedBodyIsTheRunsOfItsParts.
-/
import Derived.Test.Qxb6609137aDoorSkipRun
namespace Go.Proofs.Qxb6609137aDoor
open Go.RowKit

theorem clone_full (p : Option Addr) (n cap : Nat) (xs : List Int) (hn : xs.length = n) (h63 : n ≤ 1000000) (hnil : p = none → n = 0 ∧ cap = 0) (hx : ∀ v ∈ xs, 0 ≤ v ∧ v ≤ 255) (w : World) (hc : Came w p xs) :
    Calls Tryd.prog 10 #[.slice p n cap] w fun e w' => ∃ p' c', e = .returned (.slice p' n c') ∧ Hid (Body w' p' c' xs ∧ (p' = none → n = 0 ∧ c' = 0) ∧ Below w.heap.size w w') := by
  cases p with
  | none =>
    obtain ⟨rfl, rfl⟩ := hnil rfl
    refine (clone_nil w).mono ?_
    rintro e w' ⟨rfl, rfl⟩
    obtain rfl : xs = [] := List.eq_nil_of_length_eq_zero hn
    exact ⟨none, 0, rfl, ⟨Or.inl rfl, by simp, by simp, by simp⟩, fun _ => ⟨rfl, rfl⟩, Below.refl _ _⟩
  | some a =>
    refine (clone_some a cap n xs hn h63 w hc).mono ?_
    rintro e w' ⟨rfl, hrow, hB, hsz⟩
    refine ⟨_, _, rfl, ⟨Or.inr ⟨w.heap.size, rfl, by omega, ?_⟩, by omega, by omega, hx⟩, (fun e => by cases e), hB⟩
    intro j v hv
    rw [blk_cell hrow]
    simp [u8s, hv]

theorem Body.mono {w w' : World} {p : Option Addr} {c : Nat} {xs : List Int} (h : Body w p c xs) (hb : Below w.heap.size w w') : Body w' p c xs := by
  refine ⟨?_, h.cap, h.len, h.bytes⟩
  rcases h.at_ with h0 | ⟨B, h1, h2, h3⟩
  · exact Or.inl h0
  · exact Or.inr ⟨B, h1, Nat.lt_of_lt_of_le h2 hb.size, fun j v hv => by rw [hb.cell h2]; exact h3 j v hv⟩
theorem Body.news {w : World} {p : Option Addr} {c : Nat} {xs : List Int} (h : Body w p c xs) : ∀ ad, p = some ad → ∀ j u, (u8s xs)[j]? = some u → w.cell? (ad.add j) = some u := by
  intro ad hp j u hu
  simp only [u8s, List.getElem?_map, Option.map_eq_some_iff] at hu
  obtain ⟨v, hv, rfl⟩ := hu
  rcases h.at_ with h0 | ⟨B, h1, h2, h3⟩
  · rw [h0] at hv; simp at hv
  · rw [hp] at h1
    obtain rfl : ad = ⟨B, 0, none⟩ := by simpa using h1
    have e : (Addr.add ⟨B, 0, none⟩ j) = ⟨B, j, none⟩ := by simp [Addr.add]; omega
    rw [e]; exact h3 j v hv
theorem u8s_one (xs : List Int) : ∀ u ∈ u8s xs, u.oneCell' = true := by
  intro u hu; simp only [u8s, List.mem_map] at hu; obtain ⟨x, _, rfl⟩ := hu; rfl
theorem RowIs.body {w : World} {g n : Nat} {xs : List Int} (h : RowIs w g 5 n n (u8s xs)) (hl : n ≤ 1000000) (hx : ∀ v ∈ xs, 0 ≤ v ∧ v ≤ 255) : Body w (some ⟨g, 0, none⟩) n xs := by
  have hn : xs.length = n := by have := h.len; simpa using this
  refine ⟨Or.inr ⟨g, rfl, h.lt, ?_⟩, by omega, by omega, hx⟩
  intro j v hv
  have hj : j < xs.length := (List.getElem?_eq_some_iff.1 hv).1
  rw [h.cell j (by omega)]
  simp [u8s, hv]

theorem row_zero {w : World} {g n cap : Nat} {news : List Value} (h : w.ownsRow 0 5 1 (.slice (some ⟨g, 0, none⟩) (0 + n) cap) (0 + n) ([] ++ news)) : RowIs w g 5 n cap news := by
  simp only [Nat.zero_add, List.nil_append] at h; exact h
theorem grown_below {w w' : World} {o : Obj} (hg : (w.alloc o).grownBy w' (some w.heap.size)) : Below w.heap.size w w' :=
  ((Below.refl _ _).alloc (Nat.le_refl _) _).grown hg (by simp) (by intro k e; cases e; exact Nat.le_refl _)
theorem grown_below2 {w w4 w' : World} (h : Below w.heap.size w w4) (hg : w4.grownBy w' (some w.heap.size)) : Below w.heap.size w w' :=
  h.grown hg h.size (by intro k e; cases e; exact Nat.le_refl _)

set_option maxHeartbeats 400000 in
theorem zz19_yes (p p2 : Option Addr) (n cap n2 cap2 : Nat) (s : ByteArray) (w : World) (h : n + n2 + s.size ≤ 1048576) :
    Calls Tryd.prog 19 #[.slice p n cap, .slice p2 n2 cap2, .string s] w fun e w' => e = .returned (.bool true) ∧ w = w' := by
  have h1 : ¬ (1048576 : Int) < (n : Int) := by omega
  have h2 : ¬ (1048576 : Int) < (n2 : Int) := by omega
  have h3 : ¬ (1048576 : Int) < (n : Int) + (n2 : Int) := by omega
  have h4 : ¬ (1048576 : Int) < (s.size : Int) := by omega
  have h5 : ¬ (1048576 : Int) < (n : Int) + (n2 : Int) + (s.size : Int) := by omega
  have h6 : (0 : Int) ≤ (n : Int) := by omega
  have h7 : (0 : Int) ≤ (n2 : Int) := by omega
  have h8 : (0 : Int) ≤ (s.size : Int) := by omega
  go_enter Tryd.func19, Tryd.ntmps19
  go_wp2
  go_ret
  exact ⟨rfl, rfl⟩

set_option maxHeartbeats 400000 in
theorem zz19_no (p p2 : Option Addr) (n cap n2 cap2 : Nat) (s : ByteArray) (w : World) (h : 1048576 < n + n2 + s.size) :
    Calls Tryd.prog 19 #[.slice p n cap, .slice p2 n2 cap2, .string s] w fun e w' => e = .returned (.bool false) ∧ w = w' := by
  have h6 : (0 : Int) ≤ (n : Int) := by omega
  have h7 : (0 : Int) ≤ (n2 : Int) := by omega
  have h8 : (0 : Int) ≤ (s.size : Int) := by omega
  by_cases h1 : (1048576 : Int) < (n : Int)
  · go_enter Tryd.func19, Tryd.ntmps19
    go_wp2
    go_ret
    exact ⟨rfl, rfl⟩
  · by_cases h2 : (1048576 : Int) < (n2 : Int)
    · go_enter Tryd.func19, Tryd.ntmps19
      go_wp2
      go_ret
      exact ⟨rfl, rfl⟩
    · by_cases h3 : (1048576 : Int) < (n : Int) + (n2 : Int)
      · go_enter Tryd.func19, Tryd.ntmps19
        go_wp2
        go_ret
        exact ⟨rfl, rfl⟩
      · by_cases h4 : (1048576 : Int) < (s.size : Int)
        · go_enter Tryd.func19, Tryd.ntmps19
          go_wp2
          go_ret
          exact ⟨rfl, rfl⟩
        · have h5 : (1048576 : Int) < (n : Int) + (n2 : Int) + (s.size : Int) := by omega
          go_enter Tryd.func19, Tryd.ntmps19
          go_wp2
          go_ret
          exact ⟨rfl, rfl⟩

set_option maxRecDepth 100000 in
set_option maxHeartbeats 400000 in
theorem lawC_far (p p2 : Option Addr) (n cap n2 cap2 : Nat) (s : ByteArray) (w : World) (h : 1048576 < n + n2 + s.size) :
    Calls Tryd.prog 6 #[.slice p n cap, .slice p2 n2 cap2, .string s] w fun e w' => e = .returned (.bool true) ∧ Below w.heap.size w w' := by
  go_enter Tryd.func6, Tryd.ntmps6
  go_wp2_with (go_at_call 19; refine (zz19_no _ _ _ _ _ _ _ _ h).mono ?_; rintro e w' ⟨rfl, rfl⟩)
  go_ret
  exact ⟨rfl, Below.refl _ _⟩

set_option maxRecDepth 100000 in
set_option maxHeartbeats 400000 in
theorem lawC_big (p p2 : Option Addr) (n cap n2 cap2 : Nat) (s : ByteArray) (w : World) (h : n + n2 + s.size ≤ 1048576) (hb : 65536 < n ∨ 65536 < n2 ∨ 65536 < s.size) :
    Calls Tryd.prog 6 #[.slice p n cap, .slice p2 n2 cap2, .string s] w fun e w' => e = .returned (.bool true) ∧ Below w.heap.size w w' := by
  by_cases h1 : (65536 : Int) < (n : Int)
  · go_enter Tryd.func6, Tryd.ntmps6
    go_wp2_with (go_at_call 19; refine (zz19_yes _ _ _ _ _ _ _ _ h).mono ?_; rintro e w' ⟨rfl, rfl⟩)
    go_ret
    exact ⟨rfl, Below.refl _ _⟩
  · by_cases h2 : (65536 : Int) < (n2 : Int)
    · go_enter Tryd.func6, Tryd.ntmps6
      go_wp2_with (go_at_call 19; refine (zz19_yes _ _ _ _ _ _ _ _ h).mono ?_; rintro e w' ⟨rfl, rfl⟩)
      go_ret
      exact ⟨rfl, Below.refl _ _⟩
    · have h3 : (65536 : Int) < (s.size : Int) := by omega
      go_enter Tryd.func6, Tryd.ntmps6
      go_wp2_with (go_at_call 19; refine (zz19_yes _ _ _ _ _ _ _ _ h).mono ?_; rintro e w' ⟨rfl, rfl⟩)
      go_ret
      exact ⟨rfl, Below.refl _ _⟩

theorem runOf_append (xs ys : List Int) : runOf (xs ++ ys) = runOf xs ++ (runOf ys).map fun t => (t.1, t.2 + xs.length) := by
  unfold runOf
  rw [runFrom_append, runFrom_shift ys 0 xs.length]
theorem runOf_length (xs : List Int) : (runOf xs).length ≤ xs.length := runFrom_length xs 0

/-- skipRun, its lengths letters and all that is known hidden. -/
theorem skipRun_hid (p : Option Addr) (n cap : Nat) (xs : List Int) (s : ByteArray) (ev : Value) (w : World) (hlen : xs.length = n) (hn : n ≤ 200000) (hb : Body w p cap xs)
    (hev : ∃ eo, ev = .iface 63 (.pointer (some eo))) (hE : w.cell? ⟨0, 0, none⟩ = some ev) :
    Calls Tryd.prog 20 #[.slice p n cap, .string s] w fun e w' => ∃ T O m : Nat, e = .returned (.tuple #[.slice (some ⟨T, 0, none⟩) m n, .slice (some ⟨O, 0, none⟩) m n, .bool true]) ∧
      Hid (m = (runOf xs).length ∧ w.heap.size ≤ T ∧ w.heap.size ≤ O ∧ RowIs w' T 5 m n (tokV (runOf xs)) ∧ RowIs w' O 2 m n (offV (runOf xs)) ∧ Below w.heap.size w w') :=
  (skipRun_any p n cap xs s ev w hlen hn hb hev hE).mono fun _ _ ⟨T, O, he, h1, h2, h3, h4, h5⟩ => ⟨T, O, _, he, rfl, h1, h2, h3, h4, h5⟩

set_option maxRecDepth 100000 in
set_option maxHeartbeats 2000000 in
theorem lawC_main (p p2 : Option Addr) (n cap n2 cap2 : Nat) (xs ys : List Int) (s : ByteArray) (ev : Value) (w : World) (hn : n ≤ 65536) (hn2 : n2 ≤ 65536) (hs : s.size ≤ 65536)
    (hlen : xs.length = n) (hnil : p = none → n = 0 ∧ cap = 0) (hxs : ∀ v ∈ xs, 0 ≤ v ∧ v ≤ 255) (hc : Came w p xs)
    (hlen2 : ys.length = n2) (hnil2 : p2 = none → n2 = 0 ∧ cap2 = 0) (hys : ∀ v ∈ ys, 0 ≤ v ∧ v ≤ 255) (hc2 : Came w p2 ys)
    (hev : ∃ eo, ev = .iface 63 (.pointer (some eo))) (hE : w.cell? ⟨0, 0, none⟩ = some ev) :
    Calls Tryd.prog 6 #[.slice p n cap, .slice p2 n2 cap2, .string s] w fun e w' => e = .returned (.bool true) ∧ Below w.heap.size w w' := by
  have h0 : 0 < w.heap.size := World.block_lt_of_cell? w _ hE
  have a1 : ¬ (65536 : Int) < (n : Int) := by omega
  have a2 : ¬ (65536 : Int) < (n2 : Int) := by omega
  have a3 : ¬ (65536 : Int) < (s.size : Int) := by omega
  have a4 : n + n2 + s.size ≤ 1048576 := by omega
  have a5 : (0 : Int) ≤ (n : Int) := by omega
  have a6 : (0 : Int) ≤ (n2 : Int) := by omega
  obtain ⟨M, hM, hmk⟩ := mk8 (n + n2) (by omega)
  have hmk' : ∀ w, (Instr.makeSlice 22 (.int .i64 0) (.int .i64 ((n : Int) + (n2 : Int)))).run Tryd.prog w = .ok (.slice (some ⟨w.heap.size, 0, none⟩) 0 (n + n2)) (w.alloc (.cells M 5)) := by
    intro w; have := hmk w; rw [show ((n + n2 : Nat) : Int) = (n : Int) + (n2 : Int) by omega] at this; exact this
  clear hmk
  obtain ⟨i5, hi5, hs5⟩ := Option.map_eq_some_iff.1 Tryd.size5
  have HClone : Hid (Calls Tryd.prog 10 #[.slice p n cap] w fun e w' => ∃ p' c', e = .returned (.slice p' n c') ∧ Hid (Body w' p' c' xs ∧ (p' = none → n = 0 ∧ c' = 0) ∧ Below w.heap.size w w')) :=
    clone_full p n cap xs hlen (by omega) hnil hxs w hc
  have HClone2 : Hid (∀ w1, Below w.heap.size w w1 → Calls Tryd.prog 10 #[.slice p2 n2 cap2] w1 fun e w' => ∃ p' c', e = .returned (.slice p' n2 c') ∧ Hid (Body w' p' c' ys ∧ (p' = none → n2 = 0 ∧ c' = 0) ∧ Below w1.heap.size w1 w')) := by
    intro w1 hb
    refine clone_full p2 n2 cap2 ys hlen2 (by omega) hnil2 hys w1 ?_
    rcases hc2 with h | ⟨b, off, h1, h2⟩
    · exact Or.inl h
    · refine Or.inr ⟨b, off, h1, fun j v hv => ?_⟩
      have h3 := h2 j v hv
      rw [hb.cell (World.block_lt_of_cell? w _ h3)]; exact h3
  have HX : Hid (xs.length = n ∧ ys.length = n2 ∧ M.size = n + n2 ∧ (∀ v ∈ xs, 0 ≤ v ∧ v ≤ 255) ∧ (∀ v ∈ ys, 0 ≤ v ∧ v ≤ 255)) := ⟨hlen, hlen2, hM, hxs, hys⟩
  have HE : Hid (∀ w1, Below w.heap.size w w1 → w1.cell? ⟨0, 0, none⟩ = some ev) := fun w1 hb => by rw [hb.cell h0]; exact hE
  have HEV : Hid (∃ eo, ev = .iface 63 (.pointer (some eo))) := hev
  have H1 : Hid ((∀ u ∈ u8s xs, u.oneCell' = true) ∧ ∀ u ∈ u8s ys, u.oneCell' = true) := ⟨u8s_one _, u8s_one _⟩
  have HL : Hid ((u8s xs).length = n * 1 ∧ (u8s ys).length = n2 * 1) := ⟨by simp [hlen], by simp [hlen2]⟩
  clear hlen hlen2 hM hxs hys hnil hnil2 hc hc2 hev hE h0
  have hmx : n + n2 ≤ maxLen := by unfold maxLen; omega
  go_enter Tryd.func6, Tryd.ntmps6
  go_wp2_with (first
    | (go_at_call 19; refine (zz19_yes _ _ _ _ _ _ _ _ a4).mono ?_; rintro e w' ⟨rfl, rfl⟩)
    | (go_at_call_of 10 (Value.slice p n cap); refine HClone.out.mono ?_; rintro e w1 ⟨p1, c1, rfl, HB1⟩)
    | (go_at_call 10; refine (HClone2.out w1 HB1.out.2.2).mono ?_; rintro e w2 ⟨q1, d1, rfl, HB2⟩)
    | (at_builtin; refine wpList_append_fits_any _ rfl (.tmp 47) (.tmp 48) 22 rfl 0 5 i5 1 Tryd.underlying22 hi5 hs5 w2.heap.size 0 (n + n2) [] rfl (rowIs_new w2 5 M (n + n2) HX.out.2.2.1 hmx) p1 n c1 (u8s xs) rfl HL.out.1 HB1.out.2.1 (((HB1.out.1.mono HB2.out.2.2).mono ((Below.refl _ _).alloc (Nat.le_refl _) _)).news) H1.out.1 (by omega) ?_; intro w4 hown4 hgrow4)
    | (at_builtin; refine wpList_append_fits_any _ rfl (.tmp 50) (.tmp 51) 22 rfl 0 5 i5 1 Tryd.underlying22 hi5 hs5 w2.heap.size n (n + n2) (u8s xs) rfl (row_zero hown4) q1 n2 d1 (u8s ys) rfl HL.out.2 HB2.out.2.1 (HB2.out.1.mono (grown_below hgrow4)).news H1.out.2 (by omega) ?_; intro w5 hown5 hgrow5))
  have hb01 := HB1.out.2.2
  have hb12 := HB2.out.2.2
  have hb25 : Below w2.heap.size w2 w5 := grown_below2 (grown_below hgrow4) hgrow5
  have hb02 : Below w.heap.size w w2 := hb01.trans (hb12.mono hb01.size)
  have B5 : Hid (Below w.heap.size w w5) := hb02.trans (hb25.mono hb02.size)
  have HJ : Hid (RowIs w5 w2.heap.size 5 (n + n2) (n + n2) (u8s (xs ++ ys))) := by
    have h : RowIs w5 w2.heap.size 5 (n + n2) (n + n2) (u8s xs ++ u8s ys) := hown5
    rw [← List.map_append] at h; exact h
  have HBa : Hid (Body w5 p1 c1 xs) := (HB1.out.1.mono hb12).mono hb25
  have HBb : Hid (Body w5 q1 d1 ys) := HB2.out.1.mono hb25
  clear HClone HClone2 HB1 HB2 hown4 hgrow4 hown5 hgrow5 hb01 hb12 hb25 hb02 H1 HL hmk' hi5 hs5 hmx
  generalize w2.heap.size = J at *
  clear w4 w2 w1
  refine (skipRun_hid p1 n c1 xs s ev w5 HX.out.1 (by omega) HBa.out HEV.out (HE.out _ B5.out)).mono ?_
  rintro e w6 ⟨T1, O1, m1, rfl, H6⟩
  have B6 : Hid (Below w5.heap.size w5 w6) := H6.out.2.2.2.2.2
  go_wp2_with fail
  refine (skipRun_hid q1 n2 d1 ys s ev w6 HX.out.2.1 (by omega) (HBb.out.mono B6.out) HEV.out (HE.out _ (B5.out.trans (B6.out.mono B5.out.size)))).mono ?_
  rintro e w7 ⟨T2, O2, m2, rfl, H7⟩
  have B7 : Hid (Below w6.heap.size w6 w7) := H7.out.2.2.2.2.2
  go_wp2_with fail
  refine (skipRun_hid (some ⟨J, 0, none⟩) (n + n2) (n + n2) (xs ++ ys) s ev w7 (by rw [List.length_append, HX.out.1, HX.out.2.1]) (by omega) ?_ HEV.out ?_).mono ?_
  · exact (HJ.out.body (by omega) (by intro v hv; rcases List.mem_append.1 hv with h | h; exact HX.out.2.2.2.1 v h; exact HX.out.2.2.2.2 v h)).mono (B6.out.trans (B7.out.mono B6.out.size))
  · have b6 := B5.out.trans (B6.out.mono B5.out.size)
    exact HE.out _ (b6.trans (B7.out.mono b6.size))
  rintro e w8 ⟨T3, O3, m3, rfl, H8⟩
  have hm3 : m3 = m1 + m2 := by rw [H8.out.1, H6.out.1, H7.out.1, runOf_append]; simp
  have hm1 : m1 ≤ n := by rw [H6.out.1]; have := runOf_length xs; have := HX.out.1; omega
  have hm2 : m2 ≤ n2 := by rw [H7.out.1]; have := runOf_length ys; have := HX.out.2.1; omega
  subst hm3
  have hm1I : (m1 : Int) ≤ 65536 := by omega
  have hm2I : (m2 : Int) ≤ 65536 := by omega
  have hm1Z : (0 : Int) ≤ (m1 : Int) := by omega
  have hm2Z : (0 : Int) ≤ (m2 : Int) := by omega
  have B8 : Hid (Below w7.heap.size w7 w8) := H8.out.2.2.2.2.2
  have R1 : Hid (RowIs w8 T1 5 m1 n (tokV (runOf xs)) ∧ RowIs w8 O1 2 m1 n (offV (runOf xs))) := by
    have b68 : Below w6.heap.size w6 w8 := B7.out.trans (B8.out.mono B7.out.size)
    exact ⟨H6.out.2.2.2.1.same (b68.block _ H6.out.2.2.2.1.lt), H6.out.2.2.2.2.1.same (b68.block _ H6.out.2.2.2.2.1.lt)⟩
  have R2 : Hid (RowIs w8 T2 5 m2 n2 (tokV (runOf ys)) ∧ RowIs w8 O2 2 m2 n2 (offV (runOf ys))) :=
    ⟨H7.out.2.2.2.1.same (B8.out.block _ H7.out.2.2.2.1.lt), H7.out.2.2.2.2.1.same (B8.out.block _ H7.out.2.2.2.2.1.lt)⟩
  have R3 : Hid (RowIs w8 T3 5 (m1 + m2) (n + n2) (tokV (runOf (xs ++ ys))) ∧ RowIs w8 O3 2 (m1 + m2) (n + n2) (offV (runOf (xs ++ ys)))) := ⟨H8.out.2.2.2.1, H8.out.2.2.2.2.1⟩
  have BB : Hid (Below w.heap.size w w8) := by
    have b6 := B5.out.trans (B6.out.mono B5.out.size)
    have b7 := b6.trans (B7.out.mono b6.size)
    exact b7.trans (B8.out.mono b7.size)
  have HM : Hid (m1 = (runOf xs).length ∧ m2 = (runOf ys).length) := ⟨H6.out.1, H7.out.1⟩
  clear B5 B6 B7 B8 H6 H7 H8 HBa HBb HJ HE HEV
  go_wp2
  go_loopg [17] m1 (fun g i wr => ∃ k : Nat, k ≤ m1 ∧ g = m1 - k ∧ i = .int .i64 k ∧ ∃ q, wr = w8.drewN q)
  case atStart => exact ⟨0, Nat.zero_le _, rfl, rfl, 0, rfl⟩
  case round =>
    obtain ⟨k, hk, rfl, rfl, q, rfl⟩ := hrel
    have hk0 : (0 : Int) ≤ (k : Int) := by omega
    by_cases hlt : k < m1
    · have hltI : (k : Int) < (m1 : Int) := by omega
      have hltJ : (k : Int) < (m1 : Int) + (m2 : Int) := by omega
      have hkr : k < (runOf xs).length := by have := HM.out.1; omega
      have e1 : (tokV (runOf xs))[k]? = some (.int .u8 ((runOf xs)[k]'hkr).1) := by simp [tokV, hkr]
      have e2 : (offV (runOf xs))[k]? = some (.int .i64 (((runOf xs)[k]'hkr).2 : Nat)) := by simp [offV, hkr]
      have e3 : (tokV (runOf (xs ++ ys)))[k]? = some (.int .u8 ((runOf xs)[k]'hkr).1) := by rw [runOf_append]; simp [tokV, List.getElem?_append, hkr]
      have e4 : (offV (runOf (xs ++ ys)))[k]? = some (.int .i64 (((runOf xs)[k]'hkr).2 : Nat)) := by rw [runOf_append]; simp [offV, List.getElem?_append, hkr]
      have g1 : w8.cell? ⟨T1, k, none⟩ = some (.int .u8 ((runOf xs)[k]'hkr).1) := by rw [R1.out.1.cell k hlt]; exact e1
      have g2 : w8.cell? ⟨O1, k, none⟩ = some (.int .i64 (((runOf xs)[k]'hkr).2 : Nat)) := by rw [R1.out.2.cell k hlt]; exact e2
      have g3 : w8.cell? ⟨T3, k, none⟩ = some (.int .u8 ((runOf xs)[k]'hkr).1) := by rw [R3.out.1.cell k (by omega)]; exact e3
      have g4 : w8.cell? ⟨O3, k, none⟩ = some (.int .i64 (((runOf xs)[k]'hkr).2 : Nat)) := by rw [R3.out.2.cell k (by omega)]; exact e4
      clear e1 e2 e3 e4
      generalize ((runOf xs)[k]'hkr).1 = tv at *
      generalize ((runOf xs)[k]'hkr).2 = ov at *
      go_wp2
      go_quiet (fail)
      go_wp2
      go_roundg (m1 - (k + 1))
      case rel => exact ⟨k + 1, hlt, rfl, by go_num, _, rfl⟩
      case measure => omega
    · have hnl : ¬ (k : Int) < (m1 : Int) := by omega
      go_wp2
      go_loopg [18] m2 (fun g i wz => ∃ j : Nat, j ≤ m2 ∧ g = m2 - j ∧ i = .int .i64 j ∧ ∃ q, wz = w8.drewN q)
      case atStart => exact ⟨0, Nat.zero_le _, rfl, rfl, q, rfl⟩
      case round =>
        obtain ⟨j, hj, rfl, rfl, q2, rfl⟩ := hrel
        have hj0 : (0 : Int) ≤ (j : Int) := by omega
        by_cases hlt2 : j < m2
        · have hltI : (j : Int) < (m2 : Int) := by omega
          have hltJ : (m1 : Int) + (j : Int) < (m1 : Int) + (m2 : Int) := by omega
          have hltK : (0 : Int) ≤ (m1 : Int) + (j : Int) := by omega
          have hjr : j < (runOf ys).length := by have := HM.out.2; omega
          have e1 : (tokV (runOf ys))[j]? = some (.int .u8 ((runOf ys)[j]'hjr).1) := by simp [tokV, hjr]
          have e2 : (offV (runOf ys))[j]? = some (.int .i64 (((runOf ys)[j]'hjr).2 : Nat)) := by simp [offV, hjr]
          have e3 : (tokV (runOf (xs ++ ys)))[m1 + j]? = some (.int .u8 ((runOf ys)[j]'hjr).1) := by rw [runOf_append, HM.out.1]; simp [tokV, hjr]
          have e4 : (offV (runOf (xs ++ ys)))[m1 + j]? = some (.int .i64 ((((runOf ys)[j]'hjr).2 : Int) + (n : Int))) := by rw [runOf_append, HM.out.1, ← HX.out.1]; simp [offV, hjr]
          have g1 : w8.cell? ⟨T2, j, none⟩ = some (.int .u8 ((runOf ys)[j]'hjr).1) := by rw [R2.out.1.cell j hlt2]; exact e1
          have g2 : w8.cell? ⟨O2, j, none⟩ = some (.int .i64 (((runOf ys)[j]'hjr).2 : Nat)) := by rw [R2.out.2.cell j hlt2]; exact e2
          have g3 : w8.cell? ⟨T3, m1 + j, none⟩ = some (.int .u8 ((runOf ys)[j]'hjr).1) := by rw [R3.out.1.cell (m1 + j) (by omega)]; exact e3
          have g4 : w8.cell? ⟨O3, m1 + j, none⟩ = some (.int .i64 ((((runOf ys)[j]'hjr).2 : Int) + (n : Int))) := by rw [R3.out.2.cell (m1 + j) (by omega)]; exact e4
          have hov := runFrom_places ys 0 _ (List.getElem_mem hjr)
          have hov2 : ((runOf ys)[j]'hjr).2 ≤ 65536 := by have := HX.out.2.1; have h := hov.2; have h' : ((runOf ys)[j]'hjr).2 ≤ 0 + ys.length := h; omega
          clear e1 e2 e3 e4 hov
          generalize ((runOf ys)[j]'hjr).1 = tv at *
          generalize ((runOf ys)[j]'hjr).2 = ov at *
          have hovI : (ov : Int) ≤ 65536 := by omega
          have hovZ : (0 : Int) ≤ (ov : Int) := by omega
          go_wp2
          go_quiet (fail)
          go_wp2
          go_roundg (m2 - (j + 1))
          case rel => exact ⟨j + 1, hlt2, rfl, by go_num, _, rfl⟩
          case measure => omega
        · have hnl2 : ¬ (j : Int) < (m2 : Int) := by omega
          go_wp2
          go_ret
          exact ⟨rfl, below_drewN BB.out _⟩

/-- THE LAW: whatever the input, it returns true, and nothing that was there has turned. -/
theorem lawC_any (p p2 : Option Addr) (n cap n2 cap2 : Nat) (xs ys : List Int) (s : ByteArray) (ev : Value) (w : World)
    (hlen : xs.length = n) (hnil : p = none → n = 0 ∧ cap = 0) (hxs : ∀ v ∈ xs, 0 ≤ v ∧ v ≤ 255) (hc : Came w p xs)
    (hlen2 : ys.length = n2) (hnil2 : p2 = none → n2 = 0 ∧ cap2 = 0) (hys : ∀ v ∈ ys, 0 ≤ v ∧ v ≤ 255) (hc2 : Came w p2 ys)
    (hev : ∃ eo, ev = .iface 63 (.pointer (some eo))) (hE : w.cell? ⟨0, 0, none⟩ = some ev) :
    Calls Tryd.prog 6 #[.slice p n cap, .slice p2 n2 cap2, .string s] w fun e w' => e = .returned (.bool true) ∧ Below w.heap.size w w' := by
  by_cases h1 : n + n2 + s.size ≤ 1048576
  · by_cases h2 : 65536 < n ∨ 65536 < n2 ∨ 65536 < s.size
    · exact lawC_big p p2 n cap n2 cap2 s w h1 h2
    · exact lawC_main p p2 n cap n2 cap2 xs ys s ev w (by omega) (by omega) (by omega) hlen hnil hxs hc hlen2 hnil2 hys hc2 hev hE
  · exact lawC_far p p2 n cap n2 cap2 s w (by omega)
end Go.Proofs.Qxb6609137aDoor
