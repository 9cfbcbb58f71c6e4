/-
  The walk of FnIsJSONSpaceIsWhatSkipSpacePassesOver.
-/
import Derived.Test.Qxb6609137aDoorLawC
namespace Go.Proofs.Qxb6609137aDoor
open Go.RowKit

/-- What SkipSpace gives at a place: the byte, whether it fails, the place behind. -/
def skipOut (xs : List Int) (pos : Nat) : Int × Bool × Nat :=
  if h : skipAt xs pos < xs.length then (xs[skipAt xs pos]'h, false, skipAt xs pos + 1) else (0, true, xs.length)

theorem zzSkip_any (C : Cfg) (ok : C.Ok) (pos : Nat) (hp : pos ≤ C.xs.length) (w : World) (h : C.Sc pos w) :
    Calls Tryd.prog 17 #[.pointer (some ⟨C.sb, 0, none⟩)] w fun e w' => e = .returned (out3 (skipOut C.xs pos).1 (skipOut C.xs pos).2.1 (skipOut C.xs pos).2.1) ∧
      w'.cell? ⟨C.sb, 1, none⟩ = some (.int .i64 ((skipOut C.xs pos).2.2 : Nat)) ∧ Hid (C.Sc (skipOut C.xs pos).2.2 w' ∧ Turned C.own w w') := by
  unfold skipOut
  by_cases hj : skipAt C.xs pos < C.xs.length
  · rw [dif_pos hj]
    exact (zzSkip_some C ok pos hj w h).mono fun e w' h => ⟨h.1, h.2.1.off, h.2⟩
  · rw [dif_neg hj]
    exact (zzSkip_end C ok pos hp (Nat.le_antisymm (skipAt_le hp) (by omega)) w h).mono fun e w' h => ⟨h.1, h.2.1.off, h.2⟩

theorem skipAt_cons_ws (b : Int) (xs : List Int) (hw : wsB b = true) : skipAt (b :: xs) 0 = skipAt xs 0 + 1 := by
  simp [skipAt, hw]
theorem skipOut_ws (b : Int) (xs : List Int) (hw : wsB b = true) : skipOut (b :: xs) 0 = ((skipOut xs 0).1, (skipOut xs 0).2.1, (skipOut xs 0).2.2 + 1) := by
  have e := skipAt_cons_ws b xs hw
  unfold skipOut
  by_cases h : skipAt xs 0 < xs.length
  · rw [dif_pos (by rw [e]; simp; omega), dif_pos h]
    simp only [e, List.getElem_cons_succ]
  · rw [dif_neg (by rw [e]; simp; omega), dif_neg h]
    simp
theorem skipOut_not (b : Int) (xs : List Int) (hw : wsB b = false) : skipOut (b :: xs) 0 = (b, false, 1) := by
  have e : skipAt (b :: xs) 0 = 0 := by simp [skipAt, hw]
  unfold skipOut
  rw [dif_pos (by rw [e]; simp)]
  simp [e]
theorem skipOut_le (xs : List Int) : (skipOut xs 0).2.2 ≤ xs.length := by
  unfold skipOut
  split
  · exact ‹_›
  · exact Nat.le_refl _

theorem one_new2 {w : World} {v : Value} {e : TypeId} {h : Nat} (hh : h = w.heap.size) : ∀ ad, (some (⟨h, 0, none⟩ : Addr)) = some ad → ∀ j u, [v][j]? = some u → (w.alloc (.cells #[v] e)).cell? (ad.add j) = some u := by
  subst hh; exact one_new
theorem RowIs.body2 {w : World} {g n cap : Nat} {xs : List Int} (h : RowIs w g 5 n cap (u8s xs)) (hc : n ≤ cap) (hl : n ≤ 1000000) (hx : ∀ v ∈ xs, 0 ≤ v ∧ v ≤ 255) : Body w (some ⟨g, 0, none⟩) cap xs := by
  have hn : xs.length = n := by have := h.len; simpa using this
  refine ⟨Or.inr ⟨g, rfl, h.lt, ?_⟩, by omega, by omega, hx⟩
  intro j v hv
  have hj : j < xs.length := (List.getElem?_eq_some_iff.1 hv).1
  rw [h.cell j (by omega)]
  simp [u8s, hv]

theorem grown_below3 {w w' : World} {o o' : Obj} (hg : ((w.alloc o).alloc o').grownBy w' (some w.heap.size)) : Below w.heap.size w w' :=
  (((Below.refl _ _).alloc (Nat.le_refl _) _).alloc (by simp) _).grown hg (by simp; omega) (by intro k e; cases e; exact Nat.le_refl _)

set_option maxHeartbeats 400000 in
theorem zz21_yes (b : Int) (p : Option Addr) (n cap : Nat) (s : ByteArray) (w : World) (h : n + s.size ≤ 1048576) :
    Calls Tryd.prog 21 #[.int .u8 b, .slice p n cap, .string s] w fun e w' => e = .returned (.bool true) ∧ w = w' := by
  have h1 : ¬ (1048576 : Int) < (n : Int) := by omega
  have h2 : ¬ (1048576 : Int) < (s.size : Int) := by omega
  have h3 : ¬ (1048576 : Int) < (n : Int) + (s.size : Int) := by omega
  have h4 : (0 : Int) ≤ (n : Int) := by omega
  have h5 : (0 : Int) ≤ (s.size : Int) := by omega
  go_enter Tryd.func21, Tryd.ntmps21
  go_wp2
  go_ret
  exact ⟨rfl, rfl⟩

set_option maxHeartbeats 400000 in
theorem zz21_no (b : Int) (p : Option Addr) (n cap : Nat) (s : ByteArray) (w : World) (h : 1048576 < n + s.size) :
    Calls Tryd.prog 21 #[.int .u8 b, .slice p n cap, .string s] w fun e w' => e = .returned (.bool false) ∧ w = w' := by
  by_cases h1 : (1048576 : Int) < (n : Int)
  · go_enter Tryd.func21, Tryd.ntmps21
    go_wp2
    go_ret
    exact ⟨rfl, rfl⟩
  · have h4 : (0 : Int) ≤ (n : Int) := by omega
    by_cases h2 : (1048576 : Int) < (s.size : Int)
    · go_enter Tryd.func21, Tryd.ntmps21
      go_wp2
      go_ret
      exact ⟨rfl, rfl⟩
    · have h3 : (1048576 : Int) < (n : Int) + (s.size : Int) := by omega
      have h5 : (0 : Int) ≤ (s.size : Int) := by omega
      go_enter Tryd.func21, Tryd.ntmps21
      go_wp2
      go_ret
      exact ⟨rfl, rfl⟩

set_option maxRecDepth 100000 in
set_option maxHeartbeats 400000 in
theorem lawD_far (b : Int) (p : Option Addr) (n cap : Nat) (s : ByteArray) (w : World) (h : 1048576 < n + s.size) :
    Calls Tryd.prog 7 #[.int .u8 b, .slice p n cap, .string s] w fun e w' => e = .returned (.bool true) ∧ Below w.heap.size w w' := by
  go_enter Tryd.func7, Tryd.ntmps7
  go_wp2_with (go_at_call 21; refine (zz21_no _ _ _ _ _ _ h).mono ?_; rintro e w' ⟨rfl, rfl⟩)
  go_ret
  exact ⟨rfl, Below.refl _ _⟩

set_option maxRecDepth 100000 in
set_option maxHeartbeats 400000 in
theorem lawD_big (b : Int) (p : Option Addr) (n cap : Nat) (s : ByteArray) (w : World) (h : n + s.size ≤ 1048576) (hb : 65536 < n ∨ 65536 < s.size) :
    Calls Tryd.prog 7 #[.int .u8 b, .slice p n cap, .string s] w fun e w' => e = .returned (.bool true) ∧ Below w.heap.size w w' := by
  by_cases h1 : (65536 : Int) < (n : Int)
  · go_enter Tryd.func7, Tryd.ntmps7
    go_wp2_with (go_at_call 21; refine (zz21_yes _ _ _ _ _ _ h).mono ?_; rintro e w' ⟨rfl, rfl⟩)
    go_ret
    exact ⟨rfl, Below.refl _ _⟩
  · have h2 : (65536 : Int) < (s.size : Int) := by omega
    go_enter Tryd.func7, Tryd.ntmps7
    go_wp2_with (go_at_call 21; refine (zz21_yes _ _ _ _ _ _ h).mono ?_; rintro e w' ⟨rfl, rfl⟩)
    go_ret
    exact ⟨rfl, Below.refl _ _⟩

set_option maxRecDepth 100000 in
set_option maxHeartbeats 2000000 in
theorem lawD_main (b : Int) (p : Option Addr) (n cap : Nat) (xs : List Int) (s : ByteArray) (ev : Value) (w : World) (hbb : 0 ≤ b ∧ b ≤ 255) (hn : n ≤ 65536) (hs : s.size ≤ 65536)
    (hlen : xs.length = n) (hnil : p = none → n = 0 ∧ cap = 0) (hxs : ∀ v ∈ xs, 0 ≤ v ∧ v ≤ 255) (hc : Came w p xs) (hev : ∃ eo, ev = .iface 63 (.pointer (some eo))) (hE : w.cell? ⟨0, 0, none⟩ = some ev) :
    Calls Tryd.prog 7 #[.int .u8 b, .slice p n cap, .string s] w fun e w' => e = .returned (.bool true) ∧ Below w.heap.size w w' := by
  have h0 : 0 < w.heap.size := World.block_lt_of_cell? w _ hE
  have a1 : ¬ (65536 : Int) < (n : Int) := by omega
  have a2 : ¬ (65536 : Int) < (s.size : Int) := by omega
  have a3 : n + s.size ≤ 1048576 := by omega
  have a5 : (0 : Int) ≤ (n : Int) := by omega
  obtain ⟨M, hM, hmk⟩ := mk8 (n + 1) (by omega)
  have hmk' : ∀ w, (Instr.makeSlice 22 (.int .i64 0) (.int .i64 ((n : Int) + 1))).run Tryd.prog w = .ok (.slice (some ⟨w.heap.size, 0, none⟩) 0 (n + 1)) (w.alloc (.cells M 5)) := by
    intro w; have := hmk w; rw [show ((n + 1 : Nat) : Int) = (n : Int) + 1 by omega] at this; exact this
  clear hmk
  obtain ⟨i5, hi5, hs5⟩ := Option.map_eq_some_iff.1 Tryd.size5
  have HClone : Hid (Calls Tryd.prog 10 #[.slice p n cap] w fun e w' => ∃ p' c', e = .returned (.slice p' n c') ∧ Hid (Body w' p' c' xs ∧ (p' = none → n = 0 ∧ c' = 0) ∧ Below w.heap.size w w')) :=
    clone_full p n cap xs hlen (by omega) hnil hxs w hc
  have HX : Hid (xs.length = n ∧ M.size = n + 1 ∧ ∀ v ∈ xs, 0 ≤ v ∧ v ≤ 255) := ⟨hlen, hM, hxs⟩
  have HE : Hid (∀ w1, Below w.heap.size w w1 → w1.cell? ⟨0, 0, none⟩ = some ev) := fun w1 hb => by rw [hb.cell h0]; exact hE
  have HEV : Hid (∃ eo, ev = .iface 63 (.pointer (some eo))) := hev
  have H1 : Hid ((∀ u ∈ [Value.int .u8 b], u.oneCell' = true) ∧ (∀ u ∈ u8s xs, u.oneCell' = true)) := ⟨by intro u hu; simp at hu; subst hu; rfl, u8s_one _⟩
  have HL : Hid ((u8s xs).length = n * 1) := by show _ = _; simp [hlen]
  have HBY : Hid (0 ≤ b ∧ b ≤ 255) := hbb
  clear hlen hM hxs hnil hc hev hE h0 hbb
  have hmx : n + 1 ≤ maxLen := by unfold maxLen; omega
  go_enter Tryd.func7, Tryd.ntmps7
  go_wp2_with (first
    | (go_at_call 21; refine (zz21_yes _ _ _ _ _ _ a3).mono ?_; rintro e w' ⟨rfl, rfl⟩)
    | (go_at_call 10; refine HClone.out.mono ?_; rintro e w1 ⟨p1, c1, rfl, HB1⟩)
    | (go_at_call 22; refine (zzIsSpace_any _ _).mono ?_; rintro e w' ⟨rfl, rfl⟩)
    | (go_at_call 16; refine (jsonWs_any _ _).mono ?_; rintro e w' ⟨rfl, rfl⟩)
    | (at_builtin; refine wpList_append_fits_any _ rfl (.tmp 42) (.tmp 44) 22 rfl 0 5 i5 1 Tryd.underlying22 hi5 hs5 w1.heap.size 0 (n + 1) [] rfl (World.ownsRow.alloc (rowIs_new w1 5 M (n + 1) HX.out.2.1 hmx) _) (some ⟨w1.heap.size + 1, 0, none⟩) 1 1 [.int .u8 b] rfl rfl (by intro h; cases h) (one_new2 (World.size_alloc _ _).symm) H1.out.1 (by omega) ?_; intro w3 hown3 hgrow3)
    | (at_builtin; refine wpList_append_fits_any _ rfl (.tmp 46) (.tmp 47) 22 rfl 0 5 i5 1 Tryd.underlying22 hi5 hs5 w1.heap.size 1 (n + 1) [.int .u8 b] rfl (row_zero hown3) p1 n c1 (u8s xs) rfl HL.out HB1.out.2.1 (HB1.out.1.mono (grown_below3 hgrow3)).news H1.out.2 (by omega) ?_; intro w4 hown4 hgrow4))
  have hb01 := HB1.out.2.2
  have hb14 : Below w1.heap.size w1 w4 := grown_below2 (grown_below3 hgrow3) hgrow4
  have B4 : Hid (Below w.heap.size w w4) := hb01.trans (hb14.mono hb01.size)
  have HJ : Hid (Body w4 (some ⟨w1.heap.size, 0, none⟩) (n + 1) (b :: xs)) := by
    have h : RowIs w4 w1.heap.size 5 (1 + n) (n + 1) (u8s (b :: xs)) := hown4
    exact h.body2 (by omega) (by omega) (by intro v hv; rcases List.mem_cons.1 hv with h | h; rw [h]; exact HBY.out; exact HX.out.2.2 v h)
  have HBa : Hid (Body w4 p1 c1 xs) := HB1.out.1.mono hb14
  clear HClone HB1 hown3 hgrow3 hown4 hgrow4 hb01 hb14 H1 HL hmk' hi5 hs5 hmx
  generalize w1.heap.size = J at *
  clear w3 w1
  refine (zzNew_some (some ⟨J, 0, none⟩) (1 + n) (n + 1) (b :: xs) (by simp [HX.out.1]; omega) s ev w4 HJ.out HEV.out (HE.out _ B4.out)).mono ?_
  rintro e w5 ⟨C, rfl, d0, HR⟩
  obtain ⟨ok, hCx, _, _, hown, hS, hB5⟩ := HR.out
  have B5 : Hid (Below w.heap.size w w5) := B4.out.trans (hB5.mono B4.out.size)
  have HOwn : Hid (∀ k ∈ C.own, w.heap.size ≤ k) := fun k hk => Nat.le_trans B4.out.size (hown k hk)
  have HB45 : Hid (Below w4.heap.size w4 w5) := hB5
  have HOwn5 : Hid (∀ k ∈ C.own, w4.heap.size ≤ k) := hown
  have HSk := zzSkip_any C ok 0 (Nat.zero_le _) w5 hS
  rw [hCx] at HSk
  have HC : Hid (Calls Tryd.prog 17 #[.pointer (some ⟨C.sb, 0, none⟩)] w5 fun e w' => e = .returned (out3 (skipOut (b :: xs) 0).1 (skipOut (b :: xs) 0).2.1 (skipOut (b :: xs) 0).2.1) ∧
      w'.cell? ⟨C.sb, 1, none⟩ = some (.int .i64 ((skipOut (b :: xs) 0).2.2 : Nat)) ∧ Hid (C.Sc (skipOut (b :: xs) 0).2.2 w' ∧ Turned C.own w5 w')) := HSk
  clear HSk hCx ok hown hS hB5 HR d0
  cases hw : wsB b with
  | false =>
    rw [skipOut_not b xs hw] at HC
    go_wp2_with (first
      | (go_at_call 17; refine HC.out.mono ?_; rintro e w6 ⟨rfl, d1, HR⟩)
      | (go_at_call 12; refine (zzOffset_any _ _ _ d1).mono ?_; rintro e w' ⟨rfl, rfl⟩)
      | (go_at_call 16; refine (jsonWs_any _ _).mono ?_; rintro e w' ⟨rfl, rfl⟩; rw [hw]))
    go_ret
    exact ⟨rfl, B5.out.trans (HR.out.2.below HOwn.out)⟩
  | true =>
    rw [skipOut_ws b xs hw] at HC
    have HO : Hid (skipOut xs 0 = ((skipOut xs 0).1, (skipOut xs 0).2.1, (skipOut xs 0).2.2)) := rfl
    have hle : (skipOut xs 0).2.2 ≤ n := by have := skipOut_le xs; rw [HX.out.1] at this; exact this
    generalize (skipOut xs 0).1 = ob at *
    generalize (skipOut xs 0).2.1 = ok1 at *
    generalize (skipOut xs 0).2.2 = oo at *
    have hooI : (oo : Int) ≤ 65536 := by omega
    have hooZ : (0 : Int) ≤ (oo : Int) := by omega
    go_wp2_with (first
      | (go_at_call 17; refine HC.out.mono ?_; rintro e w6 ⟨rfl, d1, HR⟩)
      | (go_at_call 12; refine (zzOffset_any _ _ _ d1).mono ?_; rintro e w' ⟨rfl, rfl⟩)
      | (go_at_call 16; refine (jsonWs_any _ _).mono ?_; rintro e w' ⟨rfl, rfl⟩; rw [hw]))
    have HB46 : Hid (Below w4.heap.size w4 w6) := HB45.out.trans (HR.out.2.below HOwn5.out)
    have B6 : Hid (Below w.heap.size w w6) := B5.out.trans (HR.out.2.below HOwn.out)
    refine (zzNew_some p1 n c1 xs HX.out.1 s ev w6 (HBa.out.mono HB46.out) HEV.out (HE.out _ B6.out)).mono ?_
    rintro e w7 ⟨C2, rfl, d2, HR2⟩
    obtain ⟨ok2, hCx2, _, _, hown2, hS2, hB7⟩ := HR2.out
    have B7 : Hid (Below w.heap.size w w7) := B6.out.trans (hB7.mono B6.out.size)
    have HOwn2 : Hid (∀ k ∈ C2.own, w.heap.size ≤ k) := fun k hk => Nat.le_trans B6.out.size (hown2 k hk)
    have HSk2 := zzSkip_any C2 ok2 0 (Nat.zero_le _) w7 hS2
    rw [hCx2, HO.out] at HSk2
    have HC2 : Hid (Calls Tryd.prog 17 #[.pointer (some ⟨C2.sb, 0, none⟩)] w7 fun e w' => e = .returned (out3 ob ok1 ok1) ∧
        w'.cell? ⟨C2.sb, 1, none⟩ = some (.int .i64 (oo : Nat)) ∧ Hid (C2.Sc oo w' ∧ Turned C2.own w7 w')) := HSk2
    clear HSk2 hCx2 ok2 hown2 hS2 hB7 HR2 d2 d1
    go_wp2_with (first
      | (go_at_call 17; refine HC2.out.mono ?_; rintro e w8 ⟨rfl, d3, HR3⟩)
      | (go_at_call 12; refine (zzOffset_any _ _ _ d3).mono ?_; rintro e w' ⟨rfl, rfl⟩))
    go_ret
    exact ⟨ret_bool (by simp), B7.out.trans (HR3.out.2.below HOwn2.out)⟩

/-- THE LAW: whatever the input, it returns true, and nothing that was there has turned. -/
theorem lawD_any (b : Int) (p : Option Addr) (n cap : Nat) (xs : List Int) (s : ByteArray) (ev : Value) (w : World) (hbb : 0 ≤ b ∧ b ≤ 255)
    (hlen : xs.length = n) (hnil : p = none → n = 0 ∧ cap = 0) (hxs : ∀ v ∈ xs, 0 ≤ v ∧ v ≤ 255) (hc : Came w p xs) (hev : ∃ eo, ev = .iface 63 (.pointer (some eo))) (hE : w.cell? ⟨0, 0, none⟩ = some ev) :
    Calls Tryd.prog 7 #[.int .u8 b, .slice p n cap, .string s] w fun e w' => e = .returned (.bool true) ∧ Below w.heap.size w w' := by
  by_cases h1 : n + s.size ≤ 1048576
  · by_cases h2 : 65536 < n ∨ 65536 < s.size
    · exact lawD_big b p n cap s w h1 h2
    · exact lawD_main b p n cap xs s ev w hbb (by omega) (by omega) hlen hnil hxs hc hev hE
  · exact lawD_far b p n cap s w (by omega)
end Go.Proofs.Qxb6609137aDoor
