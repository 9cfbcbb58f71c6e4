/-
  FnCommonPutOne.
-/
import Derived.Test.Qxb6614989aPlain
namespace Go.Proofs.Qxb6614989a
open Go.RowKit Go.WideMaps Go.Maps

theorem grown_of_below {w w' : World} (h : Below w.heap.size w w') : w.grownBy w' Option.none := ⟨h.os, h.tape, h.output, h.size, fun k hk _ => h.block k hk⟩
theorem CameE.below {w w' : World} {B : Nat} {p : Option Addr} {es : List (Key × Int)} (h : CameE w p es) (hb : Below B w w') (hB : w.heap.size ≤ B) : CameE w' p es := by
  rcases h with h0 | ⟨b, off, hp, hc⟩
  · exact .inl h0
  · exact .inr ⟨b, off, hp, fun j t hj => by
      obtain ⟨h1, h2⟩ := hc j t hj
      rw [hb.cell (Nat.lt_of_lt_of_le (World.block_lt_of_cell? w _ h1) hB), hb.cell (Nat.lt_of_lt_of_le (World.block_lt_of_cell? w _ h2) hB)]
      exact ⟨h1, h2⟩⟩
theorem CameV.grown {w w' : World} {b : Nat} {p : Option Addr} {vs : List Value} (h : CameV w p vs) (hg : w.grownBy w' (some b)) (hm : ∃ es ck, w.heap[b]? = some (.map es ck)) : CameV w' p vs := by
  rcases h with h0 | ⟨b1, off, hp, hc⟩
  · exact .inl h0
  · refine .inr ⟨b1, off, hp, fun j v hj => ?_⟩
    have h1 := hc j v hj
    refine hg.cell h1 (fun e => ?_)
    cases e
    obtain ⟨es, ck, hb⟩ := hm
    simp [World.cell?, hb] at h1

theorem valOf_put_same {D : DataW Unit} (hD : IsMap D) (x : Key) (a : Int) : valOf (D.put (.string x) (u64D a)) x = a := valOf_of (atKey_put_same (k := .string x) hD (by simp [WideAt.IsKeyLit]) _ _)
theorem valOf_put_other {D : DataW Unit} {x k : Key} (h : k ≠ x) (a : Int) : valOf (D.put (.string x) (u64D a)) k = valOf D k := by
  unfold valOf
  rw [atKey_put_other (fun e => h (by cases e; rfl))]

theorem u64_nonneg {a : Int} (h : (Lit.int .u64 a).wf = true) : 0 ≤ a := by
  simp [Lit.wf] at h
  have e : IntKind.u64.min = 0 := rfl
  omega

/-- The two maps of the law, and nothing older turned. -/
structure St (w wr : World) (b1 b2 n1 n2 : Nat) (D1 D2 : DataW Unit) : Prop where
  m1 : MapAt wr b1 n1 D1
  m2 : MapAt wr b2 n2 D2
  lo : w.heap.size ≤ b1
  lt : b1 < b2
  kept : Below w.heap.size w wr

theorem map_block {w : World} {b n : Nat} {D : DataW Unit} (h : MapAt w b n D) : ∃ es ck, w.heap[b]? = some (.map es ck) := by
  obtain ⟨es, ck, hb, _⟩ := h
  exact ⟨es, ck, hb⟩

theorem St.start {w w1 w2 : World} {n n2 : Nat} {D1 D2 : DataW Unit} (M1 : MapAt w1 w.heap.size n D1) (B1 : Below w.heap.size w w1) (M2 : MapAt w2 w1.heap.size n2 D2) (B2 : Below w1.heap.size w1 w2) : St w w2 w.heap.size w1.heap.size n n2 D1 D2 :=
  ⟨M1.kept (grown_of_below B2) (by simp), M2, Nat.le_refl _, M1.lt, B1.trans (B2.mono B1.size)⟩

theorem St.on {w wr w' : World} {b1 b2 n1 n2 : Nat} {D1 D2 : DataW Unit} (h : St w wr b1 b2 n1 n2 D1 D2) (hb : Below wr.heap.size wr w') : St w w' b1 b2 n1 n2 D1 D2 :=
  ⟨h.m1.kept (grown_of_below hb) (by simp), h.m2.kept (grown_of_below hb) (by simp), h.lo, h.lt, h.kept.trans (hb.mono h.kept.size)⟩

theorem St.up1 {w wr w' : World} {b1 b2 n1 n2 m : Nat} {D1 D2 D : DataW Unit} (h : St w wr b1 b2 n1 n2 D1 D2) (hm : MapAt w' b1 m D) (hg : wr.grownBy w' (some b1)) : St w w' b1 b2 m n2 D D2 :=
  ⟨hm, h.m2.kept hg (by have := h.lt; simp; omega), h.lo, h.lt, h.kept.grown hg h.kept.size (fun j hj => by cases hj; exact h.lo)⟩

theorem St.up2 {w wr w' : World} {b1 b2 n1 n2 m : Nat} {D1 D2 D : DataW Unit} (h : St w wr b1 b2 n1 n2 D1 D2) (hm : MapAt w' b2 m D) (hg : wr.grownBy w' (some b2)) : St w w' b1 b2 n1 m D1 D :=
  ⟨h.m1.kept hg (by have := h.lt; simp; omega), hm, h.lo, h.lt, h.kept.grown hg h.kept.size (fun j hj => by cases hj; have := h.lo; have := h.lt; omega)⟩

theorem St.zz {w wr : World} {b1 b2 n1 n2 : Nat} {D1 D2 : DataW Unit} (h : St w wr b1 b2 n1 n2 D1 D2) (hn : n1 ≤ 5000) : Calls Try.prog 9 #[.map (some b1), .map (some b2)] wr (ZZPost 5000 (valOf D1) (valOf D2) wr) := by
  have hs := h.m1.size_le
  refine (zzcommon_any b1 n1 b2 n2 D1 D2 wr h.m1 h.m2 (by omega)).mono ?_
  rintro e w' ⟨L, p1, p2, n, c1, c2, h1, h2, h3⟩
  exact ⟨L, p1, p2, n, c1, c2, h1, by omega, h3⟩

theorem put_same_list {es es2 : List (Key × Int)} {x : Key} {a b : Int} {L L2 : List (Key × Int)} (ha : (Lit.int .u64 a).wf = true) (hb : (Lit.int .u64 b).wf = true) (h1 : IsMap (mapOf es)) (h2 : IsMap (mapOf es2)) (hC : Comm (valOf (mapOf es)) (valOf (mapOf es2)) L)
    (hC2 : Comm (valOf ((mapOf es).put (.string x) (u64D a))) (valOf ((mapOf es2).put (.string x) (u64D b))) L2) : putGo x (min a b) (decide (min a b = 0)) L = L2 :=
  Comm.uniq (hC.put x a b (u64_nonneg ha) (u64_nonneg hb) (valOf_put_same h1 x a) (valOf_put_same h2 x b) (fun _ hk => valOf_put_other hk a) (fun _ hk => valOf_put_other hk b)) hC2 (fun _ => rfl)

set_option maxHeartbeats 1000000 in
theorem law4_any (p p2 : Option Addr) (n c n2 c2 : Nat) (es es2 : List (Key × Int)) (x : Key) (a b : Int) (hn : es.length = n) (hn2 : es2.length = n2) (hg : Good es) (hg2 : Good es2) (hx : x.length ≤ maxLen) (ha : (Lit.int .u64 a).wf = true) (hb : (Lit.int .u64 b).wf = true)
    (w : World) (hc : CameE w p es) (hc2 : CameE w p2 es2) :
    Calls Try.prog 4 #[.slice p n c, .slice p2 n2 c2, encStr x, .int .u64 a, .int .u64 b] w fun e w' => e = .returned (.bool true) ∧ Below w.heap.size w w' := by
  have HN : Hid (es.length = n ∧ es2.length = n2) := ⟨hn, hn2⟩
  have HC : Hid (CameE w p es ∧ CameE w p2 es2) := ⟨hc, hc2⟩
  have HG : Hid (Good es ∧ Good es2) := ⟨hg, hg2⟩
  have HX : Hid (keyOf Try.prog 9 (encStr x) = some (.string x)) := key_mk hx
  have HA : Hid ((Lit.int .u64 a).wf = true ∧ (Lit.int .u64 b).wf = true) := ⟨ha, hb⟩
  have H11 : Hid (Calls Try.prog 11 #[.slice p n c, .slice p2 n2 c2, encStr x, .int .u64 a, .int .u64 b] w fun e w' => RetBool e ∧ w = w') := zzB11_any p p2 n c n2 c2 es es2 _ a b hn hn2 w hc hc2
  clear hn hc hn2 hc2 hg hg2 hx ha hb
  by_cases hbig : (4096 : Int) < (n : Int)
  · go_enter Try.func4, Try.ntmps4
    go_wp2_with (go_at_call 11; refine H11.out.mono ?_; rintro e w' ⟨⟨t, rfl⟩, rfl⟩)
    all_goals go_ret
    all_goals exact ⟨rfl, Below.refl _ _⟩
  by_cases hbig2 : (4096 : Int) < (n2 : Int)
  · go_enter Try.func4, Try.ntmps4
    go_wp2_with (go_at_call 11; refine H11.out.mono ?_; rintro e w' ⟨⟨t, rfl⟩, rfl⟩)
    all_goals go_ret
    all_goals exact ⟨rfl, Below.refl _ _⟩
  have H6a : Hid (Calls Try.prog 6 #[.int .i64 0, .slice p n c] w fun e w' => RetInt e ∧ w = w') := zzBytes_any _ p n c es HN.out.1 (by omega) w HC.out.1
  have H6b : Hid (∀ t, Calls Try.prog 6 #[.int .i64 t, .slice p2 n2 c2] w fun e w' => RetInt e ∧ w = w') := fun t => zzBytes_any t p2 n2 c2 es2 HN.out.2 (by omega) w HC.out.2
  have H7a := zzMap_any p n c es HN.out.1 (by omega) HG.out.1 w HC.out.1
  have H7b : Hid (∀ w1, Below w.heap.size w w1 → Calls Try.prog 7 #[.slice p2 n2 c2] w1 fun e w' => e = .returned (.map (some w1.heap.size)) ∧ MapAt w' w1.heap.size n2 (mapOf es2) ∧ Below w1.heap.size w1 w') := fun w1 B1 => zzMap_any p2 n2 c2 es2 HN.out.2 (by omega) HG.out.2 w1 (HC.out.2.below B1 (Nat.le_refl _))
  go_enter Try.func4, Try.ntmps4
  go_wp2_with (first
    | (go_at_call 11; refine H11.out.mono ?_; clear H11; rintro e w' ⟨⟨t, rfl⟩, rfl⟩)
    | (go_at_call 6; refine H6a.out.mono ?_; clear H6a; rintro e w' ⟨⟨t1, rfl⟩, rfl⟩)
    | (go_at_call 6; refine (H6b.out _).mono ?_; clear H6b; rintro e w' ⟨⟨t2, rfl⟩, rfl⟩)
    | (go_at_call 7; refine H7a.mono ?_; clear H7a; rintro e w1 ⟨rfl, M1, B1⟩)
    | (go_at_call 7; refine (H7b.out _ B1).mono ?_; clear H7b; rintro e w2 ⟨rfl, M2, B2⟩
       have S2 := St.start M1 B1 M2 B2
       clear M1 M2)
    | (go_at_call 9; refine (S2.zz (by omega)).mono ?_; rintro e w3 ⟨L, k1, v1, m1, d1, d2, HL, hm1, rfl, CK, CN, CM, B3⟩
       have S3 := S2.on B3
       clear S2
       replace HL : Hid (L.length = m1) := HL)
    | (at_mapUpdate; refine wpList_mapUpdate_own _ rfl _ _ _ 25 rfl 9 33 law9 Try.underlying25 _ w.heap.size n (mapOf es) rfl S3.m1 (by unfold maxLen; omega) _ _ _ rfl rfl HX.out _ [] (plainElem_int Try.underlying33 HA.out.1) ?_; intro w4 M4 G4
       have CK4 := CK.grown G4 (map_block S3.m1)
       have CN4 := CN.grown G4 (map_block S3.m1)
       have S4 := S3.up1 M4 G4
       have I1 := S3.m1.isMap
       have I2 := S3.m2.isMap
       clear S3 G4 M4 CK CN
       go_frame)
    | (at_mapUpdate; refine wpList_mapUpdate_own _ rfl _ _ _ 25 rfl 9 33 law9 Try.underlying25 _ w1.heap.size n2 (mapOf es2) rfl S4.m2 (by unfold maxLen; omega) _ _ _ rfl rfl HX.out _ [] (plainElem_int Try.underlying33 HA.out.2) ?_; intro w5 M5 G5
       have CK5 := CK4.grown G5 (map_block S4.m2)
       have CN5 := CN4.grown G5 (map_block S4.m2)
       have S5 := S4.up2 M5 G5
       clear S4 G5 M5 CK4 CN4
       go_frame)
    | (go_at_call 9; refine (S5.zz (by omega)).mono ?_; rintro e w6 ⟨L2, k2, v2, m2, d3, d4, HL2, hm2, rfl, CK6, CN6, CM6, B6⟩
       have HS := (S5.on B6).kept
       have HL3 : Hid (putGo x (min a b) (decide (min a b = 0)) L = L2) := put_same_list HA.out.1 HA.out.2 I1 I2 CM CM6
       have HP := zzPut_any k1 v1 m1 d1 d2 L x (min a b) HL.out (by omega) w6 (CK5.below B6 (Nat.le_refl _)) (CN5.below B6 (Nat.le_refl _))
       rw [HL3.out] at HP
       replace HL2 : Hid (L2.length = m2) := HL2
       clear S5 CK5 CN5)
    | (go_at_call 13; refine (zzMin_any a b w6).mono ?_; rintro e w' ⟨rfl, rfl⟩)
    | (go_at_call 12; refine HP.mono ?_; rintro e w7 ⟨k3, v3, m3, d5, d6, HL4, rfl, CK7, CN7, B7⟩
       obtain rfl : m2 = m3 := HL2.out.symm.trans HL4
       have HQ := zzSame_any k2 v2 k3 v3 m2 d3 d4 d5 d6 L2 HL2.out (by omega) w7 (CK6.below B7 (Nat.le_refl _)) (CN6.below B7 (Nat.le_refl _)) CK7 CN7
       have HF := HS.trans (B7.mono HS.size)
       clear HL4)
    | (go_at_call 10; refine HQ.mono ?_; rintro e w8 ⟨rfl, B8⟩)
    | go_in)
  all_goals go_ret
  all_goals try exact ⟨rfl, Below.refl _ _⟩
  exact ⟨rfl, HF.trans (B8.mono HF.size)⟩
end Go.Proofs.Qxb6614989a
