/-
  zzModelCommon.
-/
import Derived.Test.Qxb6614989aIns
import Derived.Test.Qxb6614989aLawPut
namespace Go.Proofs.Qxb6614989a
open Go.RowKit Go.WideMaps Go.Maps

theorem insL_len (x : Key) (v : Int) : ∀ L : List (Key × Int), (insL x v L).length ≤ L.length + 1
  | [] => by simp [insL]
  | t :: L => by
    have := insL_len x v L
    unfold insL
    split
    · simp; omega
    · split
      · simp
      · simp

theorem insL_part (x : Key) (v : Int) : ∀ L : List (Key × Int), L.Pairwise (fun a b => a.1 < b.1) → (∀ u, (x, u) ∈ L → u = v) →
    (insL x v L).Pairwise (fun a b => a.1 < b.1) ∧ ∀ t, t ∈ insL x v L ↔ t ∈ L ∨ t = (x, v)
  | [], _, _ => ⟨by simp [insL], by simp [insL]⟩
  | a :: L, h, hv => by
    rw [List.pairwise_cons] at h
    by_cases hb : a.1 < x
    · obtain ⟨i1, i2⟩ := insL_part x v L h.2 (fun u hu => hv u (List.mem_cons_of_mem _ hu))
      have e : insL x v (a :: L) = a :: insL x v L := by simp [insL, (less_iff _ _).2 hb]
      rw [e]
      refine ⟨?_, fun t => ?_⟩
      · rw [List.pairwise_cons]
        refine ⟨fun b hbm => ?_, i1⟩
        rcases (i2 b).1 hbm with h1 | h1
        · exact h.1 b h1
        · subst h1; exact hb
      · rw [List.mem_cons, i2, List.mem_cons, or_assoc]
    · have hb0 : Op.bytesLess a.1 x = false := by cases hc : Op.bytesLess a.1 x with
        | false => rfl
        | true => exact absurd ((less_iff _ _).1 hc) hb
      by_cases he : a.1 = x
      · have e : insL x v (a :: L) = a :: L := by simp only [insL, hb0, Bool.false_eq_true, if_false, if_pos he]
        rw [e]
        refine ⟨by rw [List.pairwise_cons]; exact h, fun t => ⟨fun ht => .inl ht, fun ht => ?_⟩⟩
        rcases ht with ht | ht
        · exact ht
        · have e2 : a.2 = v := hv a.2 (by rw [← he]; exact List.mem_cons_self ..)
          rw [ht, ← he, ← e2]
          exact List.mem_cons_self ..
      · have e : insL x v (a :: L) = (x, v) :: a :: L := by simp [insL, hb0, he]
        have hxa : x < a.1 := key_of_not hb (fun e => he e.symm)
        rw [e]
        refine ⟨?_, fun t => ?_⟩
        · rw [List.pairwise_cons, List.pairwise_cons]
          refine ⟨fun b hbm => ?_, h⟩
          rcases List.mem_cons.1 hbm with e2 | hbm
          · subst e2; exact hxa
          · exact key_trans hxa (h.1 b hbm)
        · rw [List.mem_cons]
          exact ⟨fun h1 => h1.elim .inr .inl, fun h1 => h1.elim .inr .inl⟩

/-- What has been gathered from the names so far. -/
structure Part (f g : Key → Int) (ks : List Key) (L : List (Key × Int)) : Prop where
  sorted : L.Pairwise fun a b => a.1 < b.1
  mem : ∀ k m, (k, m) ∈ L ↔ (k ∈ ks ∧ m = min (f k) (g k) ∧ 0 < m)

theorem part_start (f g : Key → Int) : Part f g [] [] := ⟨by simp, by simp⟩
theorem part_keep {f g : Key → Int} {ks : List Key} {L : List (Key × Int)} (h : Part f g ks L) {x : Key} {v : Int} (hv : v = min (f x) (g x)) (h0 : 0 < v) : Part f g (ks ++ [x]) (insL x v L) := by
  obtain ⟨h1, h2⟩ := insL_part x v L h.sorted (fun u hu => by rw [hv]; exact ((h.mem x u).1 hu).2.1)
  refine ⟨h1, fun k m => ?_⟩
  rw [h2, h.mem, List.mem_append, List.mem_singleton]
  constructor
  · rintro (⟨a, b, c⟩ | e)
    · exact ⟨.inl a, b, c⟩
    · cases e; exact ⟨.inr rfl, hv, h0⟩
  · rintro ⟨a | a, b, c⟩
    · exact .inl ⟨a, b, c⟩
    · subst a; exact .inr (by rw [b, hv])
theorem part_drop {f g : Key → Int} {ks : List Key} {L : List (Key × Int)} (h : Part f g ks L) {x : Key} (h0 : min (f x) (g x) = 0) : Part f g (ks ++ [x]) L := by
  refine ⟨h.sorted, fun k m => ?_⟩
  rw [h.mem, List.mem_append, List.mem_singleton]
  constructor
  · rintro ⟨a, b, c⟩; exact ⟨.inl a, b, c⟩
  · rintro ⟨a | a, b, c⟩
    · exact ⟨a, b, c⟩
    · subst a; omega

theorem valOf_fold (k : Key) : ∀ (es : List (Key × Int)) (D : DataW Unit), k ∉ es.map (·.1) → valOf (es.foldl (fun m t => m.put (.string t.1) (u64D t.2)) D) k = valOf D k
  | [], _, _ => rfl
  | t :: es, D, h => by
    simp only [List.map_cons, List.mem_cons, not_or] at h
    rw [List.foldl_cons, valOf_fold k es _ h.2, valOf_put_other h.1]

theorem part_end {es : List (Key × Int)} {g : Key → Int} {L : List (Key × Int)} (h : Part (valOf (mapOf es)) g (es.map (·.1)) L) : Comm (valOf (mapOf es)) g L := by
  refine ⟨h.sorted, fun k m => ?_⟩
  rw [h.mem]
  constructor
  · rintro ⟨_, b, c⟩; exact ⟨b, c⟩
  · rintro ⟨b, c⟩
    refine ⟨?_, b, c⟩
    by_cases hk : k ∈ es.map (·.1)
    · exact hk
    · have e : valOf (mapOf es) k = 0 := valOf_fold k es (.map []) hk
      rw [e] at b
      have := Int.min_le_left 0 (g k)
      omega

set_option maxHeartbeats 4000000 in
theorem zzModel_any (p : Option Addr) (n c b1 b2 n1 n2 : Nat) (es : List (Key × Int)) (D2 : DataW Unit) (hn : es.length = n) (h63 : n ≤ 5000) (hg : Good es) (w : World) (hc : CameE w p es) (h1 : MapAt w b1 n1 (mapOf es)) (h2 : MapAt w b2 n2 D2) :
    Calls Try.prog 8 #[.slice p n c, .map (some b1), .map (some b2)] w (ZZPost 5000 (valOf (mapOf es)) (valOf D2) w) := by
  have HN : Hid (es.length = n) := hn
  have HC : Hid (CameE w p es) := hc
  have HG : Hid (Good es) := hg
  have HM : Hid (MapAt w b1 n1 (mapOf es) ∧ MapAt w b2 n2 D2) := ⟨h1, h2⟩
  clear hn hc hg h1 h2
  go_enter Try.func8, Try.ntmps8
  go_wp2
  go_loopg [8, 9, 10] n (fun gg s8 s9 s10 wr => ∃ (k : Nat) (acc : List (Key × Int)) (q1 q2 : Option Addr) (m d1 d2 : Nat), k ≤ n ∧ gg = n - k ∧ s10 = .int .i64 k ∧ s8 = .slice q1 m d1 ∧ s9 = .slice q2 m d2 ∧ m ≤ k ∧ Hid (acc.length = m) ∧
    CameV wr q1 (acc.map kOf) ∧ CameV wr q2 (acc.map nOf) ∧ Part (valOf (mapOf es)) (valOf D2) ((es.take k).map (·.1)) acc ∧ Below w.heap.size w wr)
  case atStart => exact ⟨0, [], none, none, 0, 0, 0, Nat.zero_le _, rfl, rfl, rfl, rfl, Nat.le_refl _, hid rfl, .inl rfl, .inl rfl, part_start _ _, Below.refl _ _⟩
  case round =>
    obtain ⟨k, acc, q1, q2, m, d1, d2, hk, rfl, rfl, rfl, rfl, hm, HA, CK, CN, HP, HB⟩ := hrel
    have hk0 : (0 : Int) ≤ (k : Int) := by omega
    by_cases hlt : k < n
    · have hltI : (k : Int) < (n : Int) := by omega
      have hkx : k < es.length := by have := HN.out; omega
      obtain ⟨b, off, hix, g0, _⟩ := HC.out.ix n c k HN.out hkx
      have hb0 := World.block_lt_of_cell? w _ g0
      have hgk := (HG.out _ (List.getElem_mem hkx)).1
      have HT : Hid ((es.take (k + 1)).map (·.1) = (es.take k).map (·.1) ++ [(es[k]'hkx).1]) := by
        show _ = _
        rw [List.take_succ_eq_append_getElem hkx, List.map_append]; rfl
      generalize (es[k]'hkx).1 = key at *
      have d0 := (HB.cell hb0).trans g0
      have gr := grown_of_below HB
      have M1 := HM.out.1.kept gr (by simp)
      have M2 := HM.out.2.kept gr (by simp)
      obtain ⟨z1, look1, at1, w1⟩ := M1.lookup_int law9 Try.underlying25 Try.underlying33 (zero33 _) (key_mk hgk)
      obtain ⟨z2, look2, at2, w2⟩ := M2.lookup_int law9 Try.underlying25 Try.underlying33 (zero33 _) (key_mk hgk)
      have v1 := valOf_of at1
      have v2 := valOf_of at2
      have p1 := u64_nonneg w1
      have p2 := u64_nonneg w2
      clear g0 hb0 hgk gr M1 M2 at1 at2 w1 w2
      by_cases h0 : min z1 z2 = 0
      · have HP2 : Hid (Part (valOf (mapOf es)) (valOf D2) ((es.take (k + 1)).map (·.1)) acc) := by
          rw [HT.out]; exact part_drop HP (by rw [v1, v2]; exact h0)
        clear v1 v2
        go_wp2_with (go_at_call 13; refine (zzMin_any z1 z2 wr).mono ?_; rintro e w' ⟨rfl, rfl⟩)
        go_roundg (n - (k + 1))
        case rel => exact ⟨k + 1, acc, q1, q2, m, d1, d2, hlt, rfl, by go_num, rfl, rfl, by omega, HA, CK, CN, HP2.out, HB⟩
        case measure => omega
      · have HP2 : Hid (Part (valOf (mapOf es)) (valOf D2) ((es.take (k + 1)).map (·.1)) (insL key (min z1 z2) acc)) := by
          rw [HT.out]; exact part_keep HP (by rw [v1, v2]) (by omega)
        have HI := zzIns_any q1 q2 m d1 d2 acc key (min z1 z2) HA.out (by omega) wr CK CN
        have hlen := insL_len key (min z1 z2) acc
        rw [HA.out] at hlen
        clear v1 v2
        go_wp2_with (first
          | (go_at_call 13; refine (zzMin_any z1 z2 wr).mono ?_; rintro e w' ⟨rfl, rfl⟩)
          | (go_at_call 14; refine HI.mono ?_; rintro e w3 ⟨q3, q4, m3, d3, d4, HA2, rfl, CK2, CN2, B3⟩
             replace HA2 : Hid ((insL key (min z1 z2) acc).length = m3) := HA2)
          | go_in)
        go_roundg (n - (k + 1))
        case rel => exact ⟨k + 1, _, q3, q4, m3, d3, d4, hlt, rfl, by go_num, rfl, rfl, by have := HA2.out; omega, HA2, CK2, CN2, HP2.out, HB.trans (B3.mono HB.size)⟩
        case measure => omega
    · have hnl : ¬ (k : Int) < (n : Int) := by omega
      have HK : Hid (es.take k = es) := List.take_of_length_le (by have := HN.out; omega)
      go_wp2
      go_ret2
      rw [HK.out] at HP
      exact ⟨acc, q1, q2, m, d1, d2, HA.out, by omega, rfl, CK, CN, part_end HP, HB⟩
end Go.Proofs.Qxb6614989a
