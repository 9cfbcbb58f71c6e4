/-
  FnCommonExactAndSymmetric.
-/
import Derived.Test.Qxb6614989aModel
namespace Go.Proofs.Qxb6614989a
open Go.RowKit Go.WideMaps Go.Maps

theorem St.zzBack {w wr : World} {b1 b2 n1 n2 : Nat} {D1 D2 : DataW Unit} (h : St w wr b1 b2 n1 n2 D1 D2) (hn : n2 ≤ 5000) : Calls Try.prog 9 #[.map (some b2), .map (some b1)] wr (ZZPost 5000 (valOf D2) (valOf D1) wr) := by
  have hs := h.m2.size_le
  refine (zzcommon_any b2 n2 b1 n1 D2 D1 wr h.m2 h.m1 (by omega)).mono ?_
  rintro e w' ⟨L, p1, p2, n, c1, c2, h1, h2, h3⟩
  exact ⟨L, p1, p2, n, c1, c2, h1, by omega, h3⟩

set_option maxHeartbeats 4000000 in
theorem law3_any (p p2 : Option Addr) (n c n2 c2 : Nat) (es es2 : List (Key × Int)) (hn : es.length = n) (hn2 : es2.length = n2) (hg : Good es) (hg2 : Good es2)
    (w : World) (hc : CameE w p es) (hc2 : CameE w p2 es2) :
    Calls Try.prog 3 #[.slice p n c, .slice p2 n2 c2] w fun e w' => e = .returned (.bool true) ∧ Below w.heap.size w w' := by
  have HN : Hid (es.length = n ∧ es2.length = n2) := ⟨hn, hn2⟩
  have HC : Hid (CameE w p es ∧ CameE w p2 es2) := ⟨hc, hc2⟩
  have HG : Hid (Good es ∧ Good es2) := ⟨hg, hg2⟩
  have H5 : Hid (Calls Try.prog 5 #[.slice p n c, .slice p2 n2 c2] w fun e w' => RetBool e ∧ w = w') := zzB5_any p p2 n c n2 c2 es es2 hn hn2 w hc hc2
  clear hn hc hn2 hc2 hg hg2
  by_cases hbig : (4096 : Int) < (n : Int)
  · go_enter Try.func3, Try.ntmps3
    go_wp2_with (go_at_call 5; refine H5.out.mono ?_; rintro e w' ⟨⟨t, rfl⟩, rfl⟩)
    all_goals go_ret
    all_goals exact ⟨rfl, Below.refl _ _⟩
  by_cases hbig2 : (4096 : Int) < (n2 : Int)
  · go_enter Try.func3, Try.ntmps3
    go_wp2_with (go_at_call 5; refine H5.out.mono ?_; rintro e w' ⟨⟨t, rfl⟩, rfl⟩)
    all_goals go_ret
    all_goals exact ⟨rfl, Below.refl _ _⟩
  have H6a : Hid (Calls Try.prog 6 #[.int .i64 0, .slice p n c] w fun e w' => RetInt e ∧ w = w') := zzBytes_any _ p n c es HN.out.1 (by omega) w HC.out.1
  have H6b : Hid (∀ t, Calls Try.prog 6 #[.int .i64 t, .slice p2 n2 c2] w fun e w' => RetInt e ∧ w = w') := fun t => zzBytes_any t p2 n2 c2 es2 HN.out.2 (by omega) w HC.out.2
  have H7a := zzMap_any p n c es HN.out.1 (by omega) HG.out.1 w HC.out.1
  have H7b : Hid (∀ w1, Below w.heap.size w w1 → Calls Try.prog 7 #[.slice p2 n2 c2] w1 fun e w' => e = .returned (.map (some w1.heap.size)) ∧ MapAt w' w1.heap.size n2 (mapOf es2) ∧ Below w1.heap.size w1 w') := fun w1 B1 => zzMap_any p2 n2 c2 es2 HN.out.2 (by omega) HG.out.2 w1 (HC.out.2.below B1 (Nat.le_refl _))
  go_enter Try.func3, Try.ntmps3
  go_wp2_with (first
    | (go_at_call 5; refine H5.out.mono ?_; clear H5; rintro e w' ⟨⟨t, rfl⟩, rfl⟩)
    | (go_at_call 6; refine H6a.out.mono ?_; clear H6a; rintro e w' ⟨⟨t1, rfl⟩, rfl⟩)
    | (go_at_call 6; refine (H6b.out _).mono ?_; clear H6b; rintro e w' ⟨⟨t2, rfl⟩, rfl⟩)
    | (go_at_call 7; refine H7a.mono ?_; clear H7a; rintro e w1 ⟨rfl, M1, B1⟩)
    | (go_at_call 7; refine (H7b.out _ B1).mono ?_; clear H7b; rintro e w2 ⟨rfl, M2, B2⟩
       have S2 := St.start M1 B1 M2 B2
       have H8 := zzModel_any p n c w.heap.size w1.heap.size n n2 es (mapOf es2) HN.out.1 (by omega) HG.out.1 w2 (HC.out.1.below S2.kept (Nat.le_refl _)) S2.m1 S2.m2
       clear M1 M2)
    | (go_at_call 8; refine H8.mono ?_; rintro e w3 ⟨L, k1, v1, m1, d1, d2, HL, hm1, rfl, CK, CN, CM, B3⟩
       have S3 := S2.on B3
       clear S2
       replace HL : Hid (L.length = m1) := HL)
    | (go_at_call 9; refine (S3.zz (by omega)).mono ?_; rintro e w4 ⟨L2, k2, v2, m2, d3, d4, HL2, hm2, rfl, CK2, CN2, CM2, B4⟩
       have S4 := S3.on B4
       have CK1 := CK.below B4 (Nat.le_refl _)
       have CN1 := CN.below B4 (Nat.le_refl _)
       clear S3 CK CN
       obtain rfl : L2 = L := CM2.uniq CM (fun _ => rfl)
       obtain rfl : m2 = m1 := HL2.symm.trans HL.out
       clear HL2)
    | (go_at_call 9; refine (S4.zzBack (by omega)).mono ?_; rintro e w5 ⟨L3, k3, v3, m3, d5, d6, HL3, hm3, rfl, CK3, CN3, CM3, B5⟩
       have S5 := (S4.on B5).kept
       obtain rfl : L3 = L2 := CM3.uniq CM2 (fun _ => Int.min_comm _ _)
       obtain rfl : m3 = m2 := HL3.symm.trans HL.out
       have HQ := zzSame_any k2 v2 k1 v1 m3 d3 d4 d1 d2 L3 HL.out (by omega) w5 (CK2.below B5 (Nat.le_refl _)) (CN2.below B5 (Nat.le_refl _)) (CK1.below B5 (Nat.le_refl _)) (CN1.below B5 (Nat.le_refl _))
       have HQ2 : Hid (∀ w6, Below w5.heap.size w5 w6 → Calls Try.prog 10 #[.slice k3 m3 d5, .slice v3 m3 d6, .slice k1 m3 d1, .slice v1 m3 d2] w6 fun e w' => e = .returned (.bool true) ∧ Below w6.heap.size w6 w') :=
         fun w6 B6 => zzSame_any k3 v3 k1 v1 m3 d5 d6 d1 d2 L3 HL.out (by omega) w6 (CK3.below B6 (Nat.le_refl _)) (CN3.below B6 (Nat.le_refl _)) ((CK1.below B5 (Nat.le_refl _)).below B6 (Nat.le_refl _)) ((CN1.below B5 (Nat.le_refl _)).below B6 (Nat.le_refl _))
       clear S4 HL3 CK1 CN1 CK2 CN2 CK3 CN3)
    | (go_at_call 10; refine HQ.mono ?_; clear HQ; rintro e w6 ⟨rfl, B6⟩)
    | (go_at_call 10; refine (HQ2.out _ B6).mono ?_; clear HQ2; rintro e w7 ⟨rfl, B7⟩
       have HF := S5.trans ((B6.trans (B7.mono B6.size)).mono S5.size))
    | go_in)
  all_goals go_ret
  all_goals try exact ⟨rfl, Below.refl _ _⟩
  exact ⟨rfl, HF⟩
end Go.Proofs.Qxb6614989a
