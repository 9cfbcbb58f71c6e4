/-
  (*Scanner).readByte, SkipSpace, ZZreadByte, ZZskipSpace over the scanner's state.
-/
import Derived.Test.Qxb6609137aDoorScan
import Derived.Deep.LoopGhost
import Derived.LaidEql
namespace Go.Proofs.Qxb6609137aDoor
open Go.RowKit

/-- The first place from pos on that is no whitespace; the body's end where there is none. -/
def skipAt (xs : List Int) (pos : Nat) : Nat := pos + ((xs.drop pos).takeWhile wsB).length

theorem skipAt_ws {xs : List Int} {pos : Nat} (h : pos < xs.length) (hw : wsB xs[pos] = true) : skipAt xs pos = skipAt xs (pos + 1) := by
  unfold skipAt; rw [List.drop_eq_getElem_cons h, List.takeWhile_cons, if_pos hw]; simp; omega
theorem skipAt_not {xs : List Int} {pos : Nat} (h : pos < xs.length) (hw : wsB xs[pos] = false) : skipAt xs pos = pos := by
  unfold skipAt; rw [List.drop_eq_getElem_cons h, List.takeWhile_cons, if_neg (by simp [hw])]; simp
theorem skipAt_end {xs : List Int} {pos : Nat} (h : xs.length ≤ pos) : skipAt xs pos = pos := by
  unfold skipAt; rw [List.drop_eq_nil_of_le h]; simp
theorem skipAt_le {xs : List Int} {pos : Nat} (h : pos ≤ xs.length) : skipAt xs pos ≤ xs.length := by
  unfold skipAt
  have := (List.takeWhile_sublist (p := wsB) (l := xs.drop pos)).length_le
  simp at this; omega
theorem le_skipAt (xs : List Int) (pos : Nat) : pos ≤ skipAt xs pos := by unfold skipAt; omega
/-- What stands at that place is no whitespace. -/
theorem skipAt_get : ∀ (k : Nat) (xs : List Int) (pos : Nat), xs.length - pos = k → (h : skipAt xs pos < xs.length) → wsB (xs[skipAt xs pos]'h) = false := by
  intro k
  induction k with
  | zero => intro xs pos hk h; have := le_skipAt xs pos; omega
  | succ k ih =>
    intro xs pos hk h
    have hp : pos < xs.length := by omega
    cases hw : wsB xs[pos] with
    | true =>
      have e := skipAt_ws hp hw
      have := ih xs (pos + 1) (by omega) (by rw [← e]; exact h)
      simp only [← e] at this; exact this
    | false =>
      have e := skipAt_not hp hw
      simp only [e]; exact hw

/-- The scanner stands before byte 'pos' of the body. -/
def Cfg.Sc (C : Cfg) (pos : Nat) (w : World) : Prop :=
  C.Rd pos w ∧ w.heap[C.sb]? = some (.cells #[.pointer (some ⟨C.rb, 0, none⟩), .int .i64 pos, .string C.wr] C.ts (0, 0))

/-- The blocks that are the scanner's own. -/
def Cfg.own (C : Cfg) : List Nat := [C.sb, C.rb, C.bb, C.fb]

theorem Cfg.Rd.frame {C : Cfg} (ok : C.Ok) {pos : Nat} {w w' : World} (h : C.Rd pos w) (ht : Turned [C.sb] w w') : C.Rd pos w' := by
  obtain ⟨⟨r, k, lb, lr, prev, cur, hr, hb, hf, hrest⟩, h1, h2⟩ := h
  refine ⟨⟨r, k, lb, lr, prev, cur, ?_, ?_, ?_, hrest⟩, ?_, ?_⟩
  · rw [ht.block _ (by simpa using Ne.symm ok.sb_rb)]; exact hr
  · rw [ht.block _ (by simpa using Ne.symm ok.sb_bb)]; exact hb
  · rw [ht.block _ (by simpa using Ne.symm ok.sb_fb)]; exact hf
  · intro B hB j v hv
    rcases ok.body with hx | ⟨B', hp, _, _, _, n4⟩
    · rw [hx] at hv; simp at hv
    · rw [hB] at hp
      obtain rfl : B = B' := by simpa using hp
      rw [ht.cell (by simpa using n4)]; exact h1 B hB j v hv
  · rw [ht.cell (by have := ok.sb0; simp; omega)]; exact h2

set_option maxHeartbeats 400000 in
theorem scByte_some (C : Cfg) (ok : C.Ok) (pos : Nat) (hp : pos < C.xs.length) (w : World) (h : C.Sc pos w) :
    Calls Tryd.prog 26 #[.pointer (some ⟨C.sb, 0, none⟩)] w fun e w' => e = .returned (.tuple #[.int .u8 (C.xs[pos]'hp), .nilIface]) ∧ C.Sc (pos + 1) w' ∧ Turned C.own w w' := by
  obtain ⟨hR, hs⟩ := h
  have hblk : ∀ w', Turned [C.rb, C.bb, C.fb] w w' → w'.heap[C.sb]? = some (.cells #[.pointer (some ⟨C.rb, 0, none⟩), .int .i64 pos, .string C.wr] C.ts (0, 0)) := fun w' ht =>
    (ht.block _ (by have a := ok.sb_rb; have b := ok.sb_bb; have c := ok.sb_fb; simp; omega)).trans hs
  have HC : Hid (Calls Tryd.prog 30 #[.pointer (some ⟨C.rb, 0, none⟩)] w fun e w' => e = .returned (.tuple #[.int .u8 (C.xs[pos]'hp), .nilIface]) ∧
      w'.cell? ⟨C.sb, 1, none⟩ = some (.int .i64 pos) ∧ w'.frozen? ⟨C.sb, 1, none⟩ = false ∧ Hid (C.Rd (pos + 1) w' ∧ Turned [C.rb, C.bb, C.fb] w w')) :=
    (byteB_some C ok pos hp w hR).mono fun e w' h => ⟨h.1, by rw [blk_cell (hblk w' h.2.2)]; rfl, blk_frozen (hblk w' h.2.2) 1, h.2⟩
  have c0 : w.cell? ⟨C.sb, 0, none⟩ = some (.pointer (some ⟨C.rb, 0, none⟩)) := by rw [blk_cell hs]; rfl
  have HBlk : Hid (∀ w', Turned [C.rb, C.bb, C.fb] w w' → w'.heap[C.sb]? = some (.cells #[.pointer (some ⟨C.rb, 0, none⟩), .int .i64 pos, .string C.wr] C.ts (0, 0))) := hblk
  have hlen := ok.len
  have hpi : (pos : Int) ≤ 1000000 := by omega
  have hpi0 : 0 ≤ (pos : Int) := by omega
  have OK : Hid C.Ok := ok
  clear hR hs hlen ok hblk
  go_enter Tryd.func26, Tryd.ntmps26
  go_wp2_with (go_at_call 30; refine HC.out.mono ?_; rintro e w1 ⟨rfl, d1, f1, HR⟩)
  go_ret2
  obtain ⟨hR1, ht1⟩ := HR.out
  have ht : Turned [C.sb] w1 (w1.setCell ⟨C.sb, 1, none⟩ (.int .i64 ((pos : Int) + 1))) := (Turned.refl _ _).setCell (by simp) _
  refine ⟨rfl, ⟨hR1.frame OK.out ht, ?_⟩, ?_⟩
  · exact blk_set (HBlk.out w1 ht1) 1 _
  · exact (ht1.mono (by intro k hk; simp [Cfg.own] at hk ⊢; omega)).trans (ht.mono (by simp [Cfg.own]))

set_option maxHeartbeats 400000 in
theorem scByte_end (C : Cfg) (ok : C.Ok) (w : World) (h : C.Sc C.xs.length w) :
    Calls Tryd.prog 26 #[.pointer (some ⟨C.sb, 0, none⟩)] w fun e w' => e = .returned (.tuple #[.int .u8 0, C.ev]) ∧ C.Sc C.xs.length w' ∧ Turned C.own w w' := by
  obtain ⟨hR, hs⟩ := h
  obtain ⟨eo, hev⟩ := ok.eof
  have HC : Hid (Calls Tryd.prog 30 #[.pointer (some ⟨C.rb, 0, none⟩)] w fun e w' => e = .returned (.tuple #[.int .u8 0, .iface 63 (.pointer (some eo))]) ∧
      Hid (C.Rd C.xs.length w' ∧ Turned [C.rb, C.bb, C.fb] w w')) :=
    (byteB_end C ok w hR).mono fun e w' h => ⟨by rw [← hev]; exact h.1, h.2⟩
  have c0 : w.cell? ⟨C.sb, 0, none⟩ = some (.pointer (some ⟨C.rb, 0, none⟩)) := by rw [blk_cell hs]; rfl
  have HBlk : Hid (∀ w', Turned [C.rb, C.bb, C.fb] w w' → w'.heap[C.sb]? = some (.cells #[.pointer (some ⟨C.rb, 0, none⟩), .int .i64 C.xs.length, .string C.wr] C.ts (0, 0))) := fun w' ht =>
    (ht.block _ (by have a := ok.sb_rb; have b := ok.sb_bb; have c := ok.sb_fb; simp; omega)).trans hs
  rw [hev]
  clear hR hs ok hev
  go_enter Tryd.func26, Tryd.ntmps26
  go_wp2_with (go_at_call 30; refine HC.out.mono ?_; rintro e w1 ⟨rfl, HR⟩)
  go_ret2
  obtain ⟨hR1, ht1⟩ := HR.out
  exact ⟨rfl, ⟨hR1, HBlk.out w1 ht1⟩, ht1.mono (by intro k hk; simp [Cfg.own] at hk ⊢; omega)⟩

set_option maxHeartbeats 400000 in
theorem skip_some (C : Cfg) (ok : C.Ok) (pos : Nat) (hj : skipAt C.xs pos < C.xs.length) (w : World) (h : C.Sc pos w) :
    Calls Tryd.prog 27 #[.pointer (some ⟨C.sb, 0, none⟩)] w fun e w' => e = .returned (.tuple #[.int .u8 (C.xs[skipAt C.xs pos]'hj), .nilIface]) ∧ C.Sc (skipAt C.xs pos + 1) w' ∧ Turned C.own w w' := by
  have H : Hid (C.Sc pos w) := h
  have OK : Hid C.Ok := ok
  clear h ok
  go_enter Tryd.func27, Tryd.ntmps27
  go_wp2
  go_loopg [] (C.xs.length - pos) (fun g wr => ∃ q : Nat, g = C.xs.length - q ∧ q < C.xs.length ∧ skipAt C.xs q = skipAt C.xs pos ∧ C.Sc q wr ∧ Turned C.own w wr)
  case atStart => exact ⟨pos, rfl, Nat.lt_of_le_of_lt (le_skipAt _ _) hj, rfl, H.out, Turned.refl _ _⟩
  case round =>
    obtain ⟨q, rfl, hq, heq, hS, hT⟩ := hrel
    have HC : Hid (Calls Tryd.prog 26 #[.pointer (some ⟨C.sb, 0, none⟩)] wr fun e w' => e = .returned (.tuple #[.int .u8 (C.xs[q]'hq), .nilIface]) ∧ Hid (C.Sc (q + 1) w' ∧ Turned C.own wr w')) :=
      scByte_some C OK.out q hq wr hS
    have HT : Hid (Turned C.own w wr) := hT
    have HQ : Hid (skipAt C.xs q = skipAt C.xs pos) := heq
    clear hS hT heq
    cases hw : wsB (C.xs[q]'hq) with
    | true =>
      have he := skipAt_ws hq hw
      have HE : Hid (skipAt C.xs q = skipAt C.xs (q + 1)) := he
      clear he
      go_wp2_with (first | (go_at_call 26; refine HC.out.mono ?_; rintro e w1 ⟨rfl, HR⟩) | (go_at_call 28; refine (isSpace_any _ _).mono ?_; rintro e w' ⟨rfl, rfl⟩; rw [hw]))
      go_roundg (C.xs.length - (q + 1))
      case rel =>
        have e2 : skipAt C.xs (q + 1) = skipAt C.xs pos := HE.out.symm.trans HQ.out
        refine ⟨q + 1, rfl, ?_, e2, HR.out.1, HT.out.trans HR.out.2⟩
        have := le_skipAt C.xs (q + 1); omega
      case measure => omega
    | false =>
      have he := skipAt_not hq hw
      have HE : Hid (skipAt C.xs q = q) := he
      clear he
      go_wp2_with (first | (go_at_call 26; refine HC.out.mono ?_; rintro e w1 ⟨rfl, HR⟩) | (go_at_call 28; refine (isSpace_any _ _).mono ?_; rintro e w' ⟨rfl, rfl⟩; rw [hw]))
      go_ret2
      have e2 : skipAt C.xs pos = q := HQ.out.symm.trans HE.out
      refine ⟨?_, ?_, HT.out.trans HR.out.2⟩
      · simp only [e2]; rfl
      · rw [e2]; exact HR.out.1

set_option maxHeartbeats 400000 in
theorem skip_end (C : Cfg) (ok : C.Ok) (pos : Nat) (hp : pos ≤ C.xs.length) (hj : skipAt C.xs pos = C.xs.length) (w : World) (h : C.Sc pos w) :
    Calls Tryd.prog 27 #[.pointer (some ⟨C.sb, 0, none⟩)] w fun e w' => e = .returned (.tuple #[.int .u8 0, C.ev]) ∧ C.Sc C.xs.length w' ∧ Turned C.own w w' := by
  have H : Hid (C.Sc pos w) := h
  have OK : Hid C.Ok := ok
  have HJ : Hid (skipAt C.xs pos = C.xs.length) := hj
  obtain ⟨eo, hev⟩ := ok.eof
  have HEV : Hid (C.ev = .iface 63 (.pointer (some eo))) := hev
  rw [hev]
  clear h ok hj hev
  go_enter Tryd.func27, Tryd.ntmps27
  go_wp2
  go_loopg [] (C.xs.length + 1 - pos) (fun g wr => ∃ q : Nat, g = C.xs.length + 1 - q ∧ q ≤ C.xs.length ∧ skipAt C.xs q = C.xs.length ∧ C.Sc q wr ∧ Turned C.own w wr)
  case atStart => exact ⟨pos, rfl, hp, HJ.out, H.out, Turned.refl _ _⟩
  case round =>
    obtain ⟨q, rfl, hq, heq, hS, hT⟩ := hrel
    have HT : Hid (Turned C.own w wr) := hT
    have HQ : Hid (skipAt C.xs q = C.xs.length) := heq
    have HSc : Hid (C.Sc q wr) := hS
    clear hS hT heq
    by_cases hlt : q < C.xs.length
    · have HC : Hid (Calls Tryd.prog 26 #[.pointer (some ⟨C.sb, 0, none⟩)] wr fun e w' => e = .returned (.tuple #[.int .u8 (C.xs[q]'hlt), .nilIface]) ∧ Hid (C.Sc (q + 1) w' ∧ Turned C.own wr w')) :=
        scByte_some C OK.out q hlt wr HSc.out
      have hw : wsB (C.xs[q]'hlt) = true := by
        cases hw : wsB (C.xs[q]'hlt) with
        | true => rfl
        | false => have := skipAt_not hlt hw; have h2 := HQ.out; omega
      have HE : Hid (skipAt C.xs q = skipAt C.xs (q + 1)) := skipAt_ws hlt hw
      go_wp2_with (first | (go_at_call 26; refine HC.out.mono ?_; rintro e w1 ⟨rfl, HR⟩) | (go_at_call 28; refine (isSpace_any _ _).mono ?_; rintro e w' ⟨rfl, rfl⟩; rw [hw]))
      go_roundg (C.xs.length + 1 - (q + 1))
      case rel => exact ⟨q + 1, rfl, hlt, HE.out.symm.trans HQ.out, HR.out.1, HT.out.trans HR.out.2⟩
      case measure => omega
    · have hqe : q = C.xs.length := by omega
      have HC : Hid (Calls Tryd.prog 26 #[.pointer (some ⟨C.sb, 0, none⟩)] wr fun e w' => e = .returned (.tuple #[.int .u8 0, .iface 63 (.pointer (some eo))]) ∧ Hid (C.Sc C.xs.length w' ∧ Turned C.own wr w')) := by
        have := scByte_end C OK.out wr (hqe ▸ HSc.out); rw [HEV.out] at this; exact this
      clear hqe
      go_wp2_with (first | (go_at_call 26; refine HC.out.mono ?_; rintro e w1 ⟨rfl, HR⟩))
      go_ret2
      exact ⟨rfl, HR.out.1, HT.out.trans HR.out.2⟩
end Go.Proofs.Qxb6609137aDoor
