/-
  zzPut.
-/
import Derived.Test.Qxb6614989aSame
namespace Go.Proofs.Qxb6614989a
open Go.RowKit Go.WideMaps Go.Maps

/-- Two rows of the call's own (names, counts), and nothing older turned. -/
structure Rows2 (B : Nat) (w0 wr : World) (vK vN : Value) (nK nN : Nat) (K N : List Value) : Prop where
  k : wr.ownsRow B 9 1 vK nK K
  n : wr.ownsRow B 33 1 vN nN N
  b : Below B w0 wr
  sz : B ≤ wr.heap.size

theorem row_ne_row {w : World} {B C e f s t n m : Nat} {u v : Value} {xs ys : List Value} (h : w.ownsRow B e s u n xs) (k : w.ownsRow C f t v m ys) (hef : e ≠ f) : v.ownBlock = none ∨ v.ownBlock ≠ u.ownBlock := by
  rcases k.2 with ⟨rfl, _⟩ | ⟨g, cap, cur, rfl, _, hb, _⟩
  · exact .inl rfl
  · right
    rcases h.2 with ⟨rfl, _⟩ | ⟨g2, cap2, cur2, rfl, _, hb2, _⟩
    · simp [Value.ownBlock]
    · intro e1
      have e2 : g = g2 := by simpa [Value.ownBlock] using e1
      subst e2
      rw [hb] at hb2
      cases hb2
      exact hef rfl

theorem info9_parts : ∃ i, Try.prog.info? 9 = some i ∧ i.zero = some (.string ⟨#[]⟩) ∧ i.size = 1 ∧ i.bytes = 16 := by
  obtain ⟨i, hi, h⟩ := Option.map_eq_some_iff.1 Try.info9z
  simp only [Prod.mk.injEq] at h
  exact ⟨i, hi, h.1, h.2.1, h.2.2⟩
theorem info33_parts : ∃ i, Try.prog.info? 33 = some i ∧ i.zero = some (.int .u64 0) ∧ i.size = 1 ∧ i.bytes = 8 := by
  obtain ⟨i, hi, h⟩ := Option.map_eq_some_iff.1 Try.info33z
  simp only [Prod.mk.injEq] at h
  exact ⟨i, hi, h.1, h.2.1, h.2.2⟩

theorem wpList_addK {B : Nat} {w0 wr : World} {vK vN : Value} {nK nN : Nat} {K N : List Value} {ops : Array Oper} {rest : List Oper} {o : Oper} {a : Act} {Q : Exit → Act → World → Prop} (hgd : o.guard = none) (s x : Operand)
    (ho : o.op = .call { callee := .builtin .append, args := #[s, x], argTypes := #[27, 27] }) (v : Value) (hs : a.eval s = vK) (h : Rows2 B w0 wr vK vN nK nN K N) (hx : a.eval x = .slice (some ⟨wr.heap.size, 0, none⟩) 1 1)
    (h1 : v.oneCell' = true) (hlim : nK ≤ 2000000)
    (hk : ∀ p' c' w', Rows2 B w0 w' (.slice p' (nK + 1) c') vN (nK + 1) nN (K ++ [v]) N → wpList Try.prog ops Q rest (a.put o.dst (.slice p' (nK + 1) c')) w') :
    wpList Try.prog ops Q (o :: rest) a (wr.alloc (.cells #[v] 9)) := by
  obtain ⟨i, hi, hz, hsz, hby⟩ := info9_parts
  have hBsz := h.sz
  refine wpList_append_own _ hgd s x 27 ho B 9 i _ 1 16 Try.underlying27 hi hz hsz hby rfl (by decide) vK nK K hs (h.k.alloc _) ⟨wr.heap.size, 0, none⟩ 1 1 [v] hx rfl (cell_one_new _ _ _) (by simpa using h1) (by unfold maxLen; omega) (by omega) (by simp; omega) ?_
  intro v' w' hown hg _
  obtain ⟨p', c', rfl⟩ := shape_of hown
  refine hk p' c' w' ⟨hown, (h.n.alloc _).kept hg (row_ne_row h.k h.n (by decide)), ?_, by have := hg.size; simp at this; omega⟩
  exact (h.b.alloc h.sz _).grown hg (by simp; omega) (fun j hj => ((h.k.lt j hj).1))

theorem wpList_addN {B : Nat} {w0 wr : World} {vK vN : Value} {nK nN : Nat} {K N : List Value} {ops : Array Oper} {rest : List Oper} {o : Oper} {a : Act} {Q : Exit → Act → World → Prop} (hgd : o.guard = none) (s x : Operand)
    (ho : o.op = .call { callee := .builtin .append, args := #[s, x], argTypes := #[28, 28] }) (v : Value) (hs : a.eval s = vN) (h : Rows2 B w0 wr vK vN nK nN K N) (hx : a.eval x = .slice (some ⟨wr.heap.size, 0, none⟩) 1 1)
    (h1 : v.oneCell' = true) (hlim : nN ≤ 2000000)
    (hk : ∀ p' c' w', Rows2 B w0 w' vK (.slice p' (nN + 1) c') nK (nN + 1) K (N ++ [v]) → wpList Try.prog ops Q rest (a.put o.dst (.slice p' (nN + 1) c')) w') :
    wpList Try.prog ops Q (o :: rest) a (wr.alloc (.cells #[v] 33)) := by
  obtain ⟨i, hi, hz, hsz, hby⟩ := info33_parts
  have hBsz := h.sz
  refine wpList_append_own _ hgd s x 28 ho B 33 i _ 1 8 Try.underlying28 hi hz hsz hby rfl (by decide) vN nN N hs (h.n.alloc _) ⟨wr.heap.size, 0, none⟩ 1 1 [v] hx rfl (cell_one_new _ _ _) (by simpa using h1) (by unfold maxLen; omega) (by omega) (by simp; omega) ?_
  intro v' w' hown hg _
  obtain ⟨p', c', rfl⟩ := shape_of hown
  refine hk p' c' w' ⟨(h.k.alloc _).kept hg (row_ne_row h.n h.k (by decide)), hown, ?_, by have := hg.size; simp at this; omega⟩
  exact (h.b.alloc h.sz _).grown hg (by simp; omega) (fun j hj => ((h.n.lt j hj).1))

theorem came_row1 {w : World} {base n cap : Nat} {e : TypeId} {p : Option Addr} {vs : List Value} (h : w.ownsRow base e 1 (.slice p n cap) n vs) : CameV w p vs := by
  rcases h.2 with ⟨h0, h1⟩ | ⟨g, c2, cur, hv, _⟩
  · refine .inl (List.eq_nil_of_length_eq_zero ?_)
    rw [h.1, h1]
  · cases hv
    exact .inr ⟨g, 0, rfl, fun j v hj => by rw [Nat.zero_add]; exact (row_cell h j v hj).1⟩

/-- zzPut in plain words: every entry of that name out; the new one in ahead of the first greater name, or at the end. -/
def putGo (x : Key) (v : Int) : Bool → List (Key × Int) → List (Key × Int)
  | pl, [] => if pl then [] else [(x, v)]
  | pl, t :: L => if t.1 = x then putGo x v pl L else if pl = false ∧ Op.bytesLess x t.1 = true then (x, v) :: t :: putGo x v true L else t :: putGo x v pl L

/-- What zzPut (and zzInsertSorted, zzModelCommon) give back: the list R as two slices. -/
def TwoPost (R : List (Key × Int)) (w : World) (e : Ending) (w' : World) : Prop := ∃ (p1 p2 : Option Addr) (n c1 c2 : Nat), R.length = n ∧ e = .returned (.tuple #[.slice p1 n c1, .slice p2 n c2]) ∧
      CameV w' p1 (R.map kOf) ∧ CameV w' p2 (R.map nOf) ∧ Below w.heap.size w w'

theorem hid {p : Prop} (h : p) : Hid p := h
theorem put_dec (v : Int) : (v == 0) = decide (v = 0) := rfl

set_option maxHeartbeats 2000000 in
theorem zzPut_any (p1 p2 : Option Addr) (n c1 c2 : Nat) (L : List (Key × Int)) (x : Key) (v : Int) (hn : L.length = n) (h63 : n ≤ 1000001) (w : World) (h1 : CameV w p1 (L.map kOf)) (h2 : CameV w p2 (L.map nOf)) :
    Calls Try.prog 12 #[.slice p1 n c1, .slice p2 n c2, encStr x, .int .u64 v] w (TwoPost (putGo x v (decide (v = 0)) L) w) := by
  have HN : Hid (L.length = n) := hn
  have HC : Hid (CameV w p1 (L.map kOf) ∧ CameV w p2 (L.map nOf)) := ⟨h1, h2⟩
  clear hn h1 h2
  go_enter Try.func12, Try.ntmps12
  go_wp2
  go_loopg [10, 11, 12, 13] n (fun g s10 s11 s12 s13 wr => ∃ (k : Nat) (acc : List (Key × Int)) (pl : Bool) (m : Nat) (q1 q2 : Option Addr) (d1 d2 : Nat), k ≤ n ∧ g = n - k ∧ s13 = .int .i64 k ∧ s12 = .bool pl ∧ s10 = .slice q1 m d1 ∧ s11 = .slice q2 m d2 ∧
    m + (if pl then 0 else 1) ≤ k + 1 ∧ Hid (acc.length = m) ∧ Hid (acc ++ putGo x v pl (L.drop k) = putGo x v (decide (v = 0)) L) ∧ Rows2 w.heap.size w wr (.slice q1 m d1) (.slice q2 m d2) m m (acc.map kOf) (acc.map nOf))
  case atStart =>
    exact ⟨0, [], v == 0, 0, none, none, 0, 0, Nat.zero_le _, rfl, rfl, rfl, rfl, rfl, by split <;> omega, hid rfl, hid (by simp [put_dec]), ⟨World.ownsRow_nil _ _ _ _, World.ownsRow_nil _ _ _ _, Below.refl _ _, Nat.le_refl _⟩⟩
  case round =>
    obtain ⟨k, acc, pl, m, q1, q2, d1, d2, hk, rfl, rfl, rfl, rfl, rfl, hm, HA, HP, HR⟩ := hrel
    have hk0 : (0 : Int) ≤ (k : Int) := by omega
    by_cases hlt : k < n
    · have hltI : (k : Int) < (n : Int) := by omega
      have hkx : k < L.length := by have := HN.out; omega
      obtain ⟨b1, o1, ix1, g1⟩ := HC.out.1.ixK n c1 k HN.out hkx
      obtain ⟨b2, o2, ix2, g2⟩ := HC.out.2.ixN n c2 k HN.out hkx
      have hb1 := World.block_lt_of_cell? w _ g1
      have hb2 := World.block_lt_of_cell? w _ g2
      have HD : Hid (L.drop k = ((L[k]'hkx).1, (L[k]'hkx).2) :: L.drop (k + 1)) := List.drop_eq_getElem_cons hkx
      generalize (L[k]'hkx).1 = key at *
      generalize (L[k]'hkx).2 = num at *
      have e1 := (HR.b.cell hb1).trans g1
      by_cases he : key = x
      · subst he
        go_wp2
        go_roundg (n - (k + 1))
        case rel =>
          refine ⟨k + 1, acc, pl, m, q1, q2, d1, d2, hlt, rfl, by go_num, rfl, rfl, rfl, by omega, HA, hid ?_, HR⟩
          have := HP.out
          rw [HD.out] at this
          simpa [putGo] using this
        case measure => omega
      · have hbq : (key == x) = false := by simpa using he
        cases pl with
        | true =>
          simp only [if_true] at hm
          go_wp2_with (first
            | (at_builtin; refine wpList_addK rfl _ _ rfl _ rfl HR rfl rfl (by omega) ?_; clear HR; intro q1 d1 w2 HR; have e1 := (HR.b.cell hb1).trans g1; have e2 := (HR.b.cell hb2).trans g2; go_frame)
            | (at_builtin; refine wpList_addN rfl _ _ rfl _ rfl HR rfl rfl (by omega) ?_; clear HR; intro q2 d2 w3 HR; have e1 := (HR.b.cell hb1).trans g1; have e2 := (HR.b.cell hb2).trans g2; go_frame)
            | go_in)
          go_roundg (n - (k + 1))
          case rel =>
            refine ⟨k + 1, acc ++ [(key, num)], true, m + 1, q1, q2, d1, d2, hlt, rfl, by go_num, rfl, rfl, rfl, by simp only [if_true]; omega, hid (by simp [HA.out]), hid ?_, by simpa [kOf, nOf] using HR⟩
            have := HP.out
            rw [HD.out] at this
            simpa [putGo, he] using this
          case measure => omega
        | false =>
          simp only [Bool.false_eq_true, if_false] at hm
          cases hbl : Op.bytesLess x key with
          | true =>
            go_wp2_with (first
              | (at_builtin; refine wpList_addK rfl _ _ rfl _ rfl HR rfl rfl (by omega) ?_; clear HR; intro q1 d1 w2 HR; have e1 := (HR.b.cell hb1).trans g1; have e2 := (HR.b.cell hb2).trans g2; go_frame)
              | (at_builtin; refine wpList_addN rfl _ _ rfl _ rfl HR rfl rfl (by omega) ?_; clear HR; intro q2 d2 w3 HR; have e1 := (HR.b.cell hb1).trans g1; have e2 := (HR.b.cell hb2).trans g2; go_frame)
              | go_in)
            go_roundg (n - (k + 1))
            case rel =>
              refine ⟨k + 1, acc ++ [(x, v)] ++ [(key, num)], true, m + 1 + 1, q1, q2, d1, d2, hlt, rfl, by go_num, rfl, rfl, rfl, by simp only [if_true]; omega, hid (by simp [HA.out]), hid ?_, by simpa [kOf, nOf] using HR⟩
              have := HP.out
              rw [HD.out] at this
              simpa [putGo, he, hbl] using this
            case measure => omega
          | false =>
            go_wp2_with (first
              | (at_builtin; refine wpList_addK rfl _ _ rfl _ rfl HR rfl rfl (by omega) ?_; clear HR; intro q1 d1 w2 HR; have e1 := (HR.b.cell hb1).trans g1; have e2 := (HR.b.cell hb2).trans g2; go_frame)
              | (at_builtin; refine wpList_addN rfl _ _ rfl _ rfl HR rfl rfl (by omega) ?_; clear HR; intro q2 d2 w3 HR; have e1 := (HR.b.cell hb1).trans g1; have e2 := (HR.b.cell hb2).trans g2; go_frame)
              | go_in)
            go_roundg (n - (k + 1))
            case rel =>
              refine ⟨k + 1, acc ++ [(key, num)], false, m + 1, q1, q2, d1, d2, hlt, rfl, by go_num, rfl, rfl, rfl, by simp only [Bool.false_eq_true, if_false]; omega, hid (by simp [HA.out]), hid ?_, by simpa [kOf, nOf] using HR⟩
              have := HP.out
              rw [HD.out] at this
              simpa [putGo, he, hbl] using this
            case measure => omega
    · have HK : Hid (L.drop k = []) := List.drop_eq_nil_of_le (by have := HN.out; omega)
      have hnl : ¬ (k : Int) < (n : Int) := by omega
      cases pl with
      | true =>
        go_wp2
        go_ret2
        have := HP.out
        rw [HK.out] at this
        simp [putGo] at this
        rw [← this]
        exact ⟨q1, q2, m, d1, d2, HA.out, rfl, came_row1 HR.k, came_row1 HR.n, HR.b⟩
      | false =>
        simp only [Bool.false_eq_true, if_false] at hm
        go_wp2_with (first
          | (at_builtin; refine wpList_addK rfl _ _ rfl _ rfl HR rfl rfl (by omega) ?_; clear HR; intro q1 d1 w2 HR; go_frame)
          | (at_builtin; refine wpList_addN rfl _ _ rfl _ rfl HR rfl rfl (by omega) ?_; clear HR; intro q2 d2 w3 HR; go_frame)
          | go_in)
        go_ret2
        have := HP.out
        rw [HK.out] at this
        simp [putGo] at this
        rw [← this]
        exact ⟨q1, q2, m + 1, d1, d2, by simp [HA.out], rfl, by simpa [kOf] using came_row1 HR.k, by simpa [nOf] using came_row1 HR.n, HR.b⟩
end Go.Proofs.Qxb6614989a
