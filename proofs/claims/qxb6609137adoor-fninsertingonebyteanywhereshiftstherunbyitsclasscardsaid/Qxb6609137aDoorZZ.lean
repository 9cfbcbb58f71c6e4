/-
  ZZreadByte, ZZskipSpace over the scanner's state.
-/
import Derived.Test.Qxb6609137aDoorSkip
namespace Go.Proofs.Qxb6609137aDoor
open Go.RowKit

theorem Tryd.comp63 : (Tryd.prog.info? 63).map (·.comparable) = some true := by kernel_rfl
theorem Tryd.size84 : (Tryd.prog.info? 84).map (·.size) = some 1 := by kernel_rfl

theorem eofSame (a : Addr) (w : World) : (binOp .eql 48 (.iface 63 (.pointer (some a))) (.iface 63 (.pointer (some a)))).run Tryd.prog w = .ok (.bool true) w := by
  obtain ⟨i, hi, hcmp⟩ := Option.map_eq_some_iff.1 Tryd.comp63
  obtain ⟨j, hj, _⟩ := Option.map_eq_some_iff.1 Tryd.size84
  exact run_eql_iface_ptr_same w a Tryd.underlying48 Tryd.underlying63 hi hcmp hj
theorem eofNil (a : Addr) (w : World) : (binOp .eql 48 .nilIface (.iface 63 (.pointer (some a)))).run Tryd.prog w = .ok (.bool false) w :=
  run_eql_iface_nil_left w 63 _ Tryd.underlying48

theorem Cfg.Rd.drewN {C : Cfg} {pos : Nat} {w : World} (h : C.Rd pos w) (n : Nat) : C.Rd pos (w.drewN n) := h
theorem Cfg.Sc.drewN {C : Cfg} {pos : Nat} {w : World} (h : C.Sc pos w) (n : Nat) : C.Sc pos (w.drewN n) := h

/-- What a scanner call hands out: the byte, whether it failed, whether with io.EOF. -/
abbrev out3 (b : Int) (f e : Bool) : Value := .tuple #[.int .u8 b, .bool f, .bool e]

set_option maxHeartbeats 400000 in
theorem zzByte_some (C : Cfg) (ok : C.Ok) (pos : Nat) (hp : pos < C.xs.length) (w : World) (h : C.Sc pos w) :
    Calls Tryd.prog 13 #[.pointer (some ⟨C.sb, 0, none⟩)] w fun e w' => e = .returned (out3 (C.xs[pos]'hp) false false) ∧ C.Sc (pos + 1) w' ∧ Turned C.own w w' := by
  obtain ⟨eo, hev⟩ := ok.eof
  have HC : Hid (Calls Tryd.prog 26 #[.pointer (some ⟨C.sb, 0, none⟩)] w fun e w' => e = .returned (.tuple #[.int .u8 (C.xs[pos]'hp), .nilIface]) ∧ w'.cell? ⟨0, 0, none⟩ = some (.iface 63 (.pointer (some eo))) ∧ Hid (C.Sc (pos + 1) w' ∧ Turned C.own w w')) :=
    (scByte_some C ok pos hp w h).mono fun e w' h => ⟨h.1, by rw [← hev]; exact h.2.1.1.2.2, h.2⟩
  clear h hev
  have hn := eofNil eo
  go_enter Tryd.func13, Tryd.ntmps13
  go_wp2_with (go_at_call 26; refine HC.out.mono ?_; rintro e w1 ⟨rfl, d1, HR⟩)
  go_quiet (fail)
  go_wp2
  go_ret3
  exact ⟨rfl, HR.out.1.drewN _, HR.out.2.drewN _⟩

set_option maxHeartbeats 400000 in
theorem zzByte_end (C : Cfg) (ok : C.Ok) (w : World) (h : C.Sc C.xs.length w) :
    Calls Tryd.prog 13 #[.pointer (some ⟨C.sb, 0, none⟩)] w fun e w' => e = .returned (out3 0 true true) ∧ C.Sc C.xs.length w' ∧ Turned C.own w w' := by
  obtain ⟨eo, hev⟩ := ok.eof
  have HC : Hid (Calls Tryd.prog 26 #[.pointer (some ⟨C.sb, 0, none⟩)] w fun e w' => e = .returned (.tuple #[.int .u8 0, .iface 63 (.pointer (some eo))]) ∧ w'.cell? ⟨0, 0, none⟩ = some (.iface 63 (.pointer (some eo))) ∧ Hid (C.Sc C.xs.length w' ∧ Turned C.own w w')) :=
    (scByte_end C ok w h).mono fun e w' h => ⟨by rw [← hev]; exact h.1, by rw [← hev]; exact h.2.1.1.2.2, h.2⟩
  clear h hev
  have hn := eofSame eo
  go_enter Tryd.func13, Tryd.ntmps13
  go_wp2_with (go_at_call 26; refine HC.out.mono ?_; rintro e w1 ⟨rfl, d1, HR⟩)
  go_quiet (fail)
  go_wp2
  go_ret3
  exact ⟨rfl, HR.out.1.drewN _, HR.out.2.drewN _⟩

set_option maxHeartbeats 400000 in
theorem zzSkip_some (C : Cfg) (ok : C.Ok) (pos : Nat) (hj : skipAt C.xs pos < C.xs.length) (w : World) (h : C.Sc pos w) :
    Calls Tryd.prog 17 #[.pointer (some ⟨C.sb, 0, none⟩)] w fun e w' => e = .returned (out3 (C.xs[skipAt C.xs pos]'hj) false false) ∧ C.Sc (skipAt C.xs pos + 1) w' ∧ Turned C.own w w' := by
  obtain ⟨eo, hev⟩ := ok.eof
  have HC : Hid (Calls Tryd.prog 27 #[.pointer (some ⟨C.sb, 0, none⟩)] w fun e w' => e = .returned (.tuple #[.int .u8 (C.xs[skipAt C.xs pos]'hj), .nilIface]) ∧ w'.cell? ⟨0, 0, none⟩ = some (.iface 63 (.pointer (some eo))) ∧ Hid (C.Sc (skipAt C.xs pos + 1) w' ∧ Turned C.own w w')) :=
    (skip_some C ok pos hj w h).mono fun e w' h => ⟨h.1, by rw [← hev]; exact h.2.1.1.2.2, h.2⟩
  clear h hev
  have hn := eofNil eo
  go_enter Tryd.func17, Tryd.ntmps17
  go_wp2_with (go_at_call 27; refine HC.out.mono ?_; rintro e w1 ⟨rfl, d1, HR⟩)
  go_quiet (fail)
  go_wp2
  go_ret3
  exact ⟨rfl, HR.out.1.drewN _, HR.out.2.drewN _⟩

set_option maxHeartbeats 400000 in
theorem zzSkip_end (C : Cfg) (ok : C.Ok) (pos : Nat) (hp : pos ≤ C.xs.length) (hj : skipAt C.xs pos = C.xs.length) (w : World) (h : C.Sc pos w) :
    Calls Tryd.prog 17 #[.pointer (some ⟨C.sb, 0, none⟩)] w fun e w' => e = .returned (out3 0 true true) ∧ C.Sc C.xs.length w' ∧ Turned C.own w w' := by
  obtain ⟨eo, hev⟩ := ok.eof
  have HC : Hid (Calls Tryd.prog 27 #[.pointer (some ⟨C.sb, 0, none⟩)] w fun e w' => e = .returned (.tuple #[.int .u8 0, .iface 63 (.pointer (some eo))]) ∧ w'.cell? ⟨0, 0, none⟩ = some (.iface 63 (.pointer (some eo))) ∧ Hid (C.Sc C.xs.length w' ∧ Turned C.own w w')) :=
    (skip_end C ok pos hp hj w h).mono fun e w' h => ⟨by rw [← hev]; exact h.1, by rw [← hev]; exact h.2.1.1.2.2, h.2⟩
  clear h hev hj
  have hn := eofSame eo
  go_enter Tryd.func17, Tryd.ntmps17
  go_wp2_with (go_at_call 27; refine HC.out.mono ?_; rintro e w1 ⟨rfl, d1, HR⟩)
  go_quiet (fail)
  go_wp2
  go_ret3
  exact ⟨rfl, HR.out.1.drewN _, HR.out.2.drewN _⟩
end Go.Proofs.Qxb6609137aDoor
