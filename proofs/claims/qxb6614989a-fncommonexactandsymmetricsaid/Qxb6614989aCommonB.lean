/-
  common: the walk.
-/
import Derived.Test.Qxb6614989aCommon
namespace Go.Proofs.Qxb6614989a
open Go.Shelf Go.RowKit Go.Lib Go.Sort Go.WideMaps Go.Maps

theorem flat_get : ∀ (L : List (Key × Int)) (j : Nat) (t : Key × Int), L[j]? = some t → (L.flatMap encE)[j * 2]? = some (encStr t.1) ∧ (L.flatMap encE)[j * 2 + 1]? = some (.int .u64 t.2)
  | [], j, t, h => by simp at h
  | a :: L, 0, t, h => by
    simp at h
    subst h
    exact ⟨rfl, rfl⟩
  | a :: L, j + 1, t, h => by
    have := flat_get L j t (by simpa using h)
    have e : (a :: L).flatMap encE = encStr a.1 :: .int .u64 a.2 :: L.flatMap encE := rfl
    rw [e, show (j + 1) * 2 = j * 2 + 1 + 1 by omega]
    simpa using this

theorem flat_len (L : List (Key × Int)) : (L.flatMap encE).length = L.length * 2 := by
  induction L with
  | nil => rfl
  | cons a L ih =>
    have e : (a :: L).flatMap encE = encStr a.1 :: .int .u64 a.2 :: L.flatMap encE := rfl
    rw [e]
    simp [ih]
    omega

theorem row_cell {w : World} {base g n cap : Nat} {e : TypeId} {size : Nat} {xs : List Value} (h : w.ownsRow base e size (.slice (some ⟨g, 0, none⟩) n cap) n xs) (j : Nat) (v : Value) (hv : xs[j]? = some v) :
    w.cell? ⟨g, j, none⟩ = some v ∧ w.frozen? ⟨g, j, none⟩ = false := by
  rcases h.2 with ⟨h0, _⟩ | ⟨g', cap', cur, hv', _, hb, _, _, _, ht⟩
  · cases h0
  · cases hv'
    refine ⟨?_, by simp [World.frozen?, hb]⟩
    have hj : j < n * size := by have := (List.getElem?_eq_some_iff.1 hv).1; rw [h.1] at this; exact this
    rw [← ht, List.getElem?_take_of_lt hj] at hv
    simp only [World.cell?, hb]
    simpa using hv

theorem holdsK_row {w : World} {base g n cap : Nat} {e : TypeId} {L : List (Key × Int)} (hn : L.length = n) (h : w.ownsRow base e 2 (.slice (some ⟨g, 0, none⟩) n cap) n (L.flatMap encE)) : HoldsK encE 2 w g 0 L.toArray := by
  intro t ht
  have ht2 : t < L.length * 2 := by simpa using ht
  rw [get_flatK _ _ _ _ (by simpa using ht2), Nat.zero_add]
  have hj : t / 2 < L.length := by omega
  obtain ⟨f0, f1⟩ := flat_get L (t / 2) _ (List.getElem?_eq_getElem hj)
  have e1 : L.toArray[t / 2]! = L[t / 2] := by simp [hj]
  rw [e1]
  rcases Nat.mod_two_eq_zero_or_one t with hm | hm
  · rw [show t / 2 * 2 = t by omega] at f0
    rw [hm]
    exact row_cell h t _ f0
  · rw [show t / 2 * 2 + 1 = t by omega] at f1
    rw [hm]
    exact row_cell h t _ f1

theorem came_holdsK {w : World} {g : Nat} {d : Array (Key × Int)} (h : HoldsK encE 2 w g 0 d) : CameE w (some ⟨g, 0, none⟩) d.toList := by
  refine .inr ⟨g, 0, rfl, fun j t hj => ?_⟩
  have hj1 : j < d.size := by have := (List.getElem?_eq_some_iff.1 hj).1; simpa using this
  have e : d[j]! = t := by
    rw [getElem!_pos d j hj1]
    simpa using (List.getElem?_eq_some_iff.1 hj).2
  have h0 := (h (j * 2) (by simp; omega)).1
  have h1 := (h (j * 2 + 1) (by simp; omega)).1
  rw [get_flatK _ _ _ _ (by omega)] at h0 h1
  rw [show j * 2 / 2 = j by omega, show j * 2 % 2 = 0 by omega, e] at h0
  rw [show (j * 2 + 1) / 2 = j by omega, show (j * 2 + 1) % 2 = 1 by omega, e] at h1
  exact ⟨h0, h1⟩

theorem grownBy_sortedK {w : World} {g n : Nat} {os : Array Obj} (d : Array (Key × Int)) : w.grownBy (grow (putRowK encE 2 (Sort.ahead w n) g 0 d) os) (some g) := by
  refine ⟨rfl, rfl, rfl, by simp [putRowK], fun k hk hne => ?_⟩
  rw [heap_grow_old _ _ (by simpa [putRowK] using hk)]
  have : g ≠ k := fun e => hne (by rw [e])
  simp [putRowK, putRow, mapBlock, Sort.ahead, Array.getElem?_modify, this]

theorem grownBy_grow {w : World} {os : Array Obj} : w.grownBy (grow w os) none :=
  ⟨rfl, rfl, rfl, by simp, fun k hk _ => heap_grow_old _ _ hk⟩

theorem come_grown {w w' : World} {row : Option Nat} {p : Option Addr} {es : List (Key × Int)} (h : CameE w p es) (hg : w.grownBy w' row) (hne : ∀ b off, p = some ⟨b, off, none⟩ → some b ≠ row) : CameE w' p es := by
  rcases h with h0 | ⟨b, off, hp, hc⟩
  · exact .inl h0
  · exact .inr ⟨b, off, hp, fun j t hj => ⟨hg.cell (hc j t hj).1 (hne b off hp), hg.cell (hc j t hj).2 (hne b off hp)⟩⟩

theorem info42_parts : ∃ i z, Try.prog.info? 42 = some i ∧ i.zero = some z ∧ i.size = 2 ∧ i.bytes = 24 ∧ z.cells.size = 2 := by
  obtain ⟨i, hi, h⟩ := Option.map_eq_some_iff.1 (show (Try.prog.info? 42).map (fun i => (i.zero.map (·.cells.size), i.size, i.bytes)) = some (some 2, 2, 24) by kernel_rfl)
  simp only [Prod.mk.injEq] at h
  obtain ⟨h1, h2, h3⟩ := h
  obtain ⟨z, hz, hzs⟩ := Option.map_eq_some_iff.1 h1
  exact ⟨i, z, hi, hz, h2, h3, hzs⟩

theorem cell_two_new (w : World) (a b : Value) (t : TypeId) : ∀ j u, [a, b][j]? = some u → (w.alloc (.cells #[a, b] t)).cell? ((⟨w.heap.size, 0, none⟩ : Addr).add j) = some u := by
  intro j u h
  match j, h with
  | 0, h => simp at h; subst h; simp [Addr.add]
  | 1, h => simp at h; subst h; simp [Addr.add]
  | j + 2, h => simp at h

theorem has_of_at {D : DataW Unit} {k : Key} {y : DataW Unit} (h : ∀ zd, D.atKey (.string k) zd = y) : Maps.has D (.string k) = true := by
  cases hh : Maps.has D (.string k) with
  | true => rfl
  | false =>
    have h1 := (atKey_of_not_has hh (u64D 0)).symm.trans ((h (u64D 0)).trans ((h (u64D 1)).symm.trans (atKey_of_not_has hh (u64D 1))))
    simp [u64D] at h1

theorem shape_of {w : World} {base n : Nat} {e : TypeId} {size : Nat} {v : Value} {xs : List Value} (h : w.ownsRow base e size v n xs) : ∃ p c, v = .slice p n c := by
  rcases h.2 with ⟨rfl, rfl⟩ | ⟨g, cap, cur, rfl, _⟩
  · exact ⟨_, _, rfl⟩
  · exact ⟨_, _, rfl⟩

/-- The loop's relation. -/
structure Rel (w : World) (ba na bh nh : Nat) (DA DH : DataW Unit) (g : Nat) (wr : World) (left : Lit → Bool) (acc : List (Key × Int)) (p : Option Addr) (n c : Nat) : Prop where
  hn : acc.length = n
  rg : wr.ranges Try.prog 9 (plainElem Try.prog 33) ba (w.heap.size + 1) na DA left g
  held : MapAt wr bh nh DH
  box : wr.heap[w.heap.size]? = some (.cells #[.slice p n c] 39 (0, 0))
  row : wr.ownsRow (w.heap.size + 2) 42 2 (.slice p n c) n (acc.flatMap encE)
  got : Gathered DA DH left acc
  few : n + g ≤ Maps.size DA
  kept : RowKit.Below w.heap.size w wr
  size : w.heap.size + 2 ≤ wr.heap.size

theorem box_cell {w : World} {b : Nat} {v : Value} {t : TypeId} (h : w.heap[b]? = some (.cells #[v] t (0, 0))) : w.cell? ⟨b, 0, none⟩ = some v ∧ w.frozen? ⟨b, 0, none⟩ = false := by
  simp [World.cell?, World.frozen?, h]

theorem rel_start {w w0 : World} {ba na bh nh : Nat} {DA DH : DataW Unit} (hH : MapAt w bh nh DH)
    (hrg0 : w0.ranges Try.prog 9 (plainElem Try.prog 33) ba (w.alloc (.cells #[.slice none 0 0] 39)).heap.size na DA (has DA) (Maps.size DA)) (hg0 : (w.alloc (.cells #[.slice none 0 0] 39)).grownBy w0 none)
    (hs0 : w0.heap.size = (w.alloc (.cells #[.slice none 0 0] 39)).heap.size + 1) : Rel w ba na bh nh DA DH (Maps.size DA) w0 (has DA) [] none 0 0 := by
  refine ⟨rfl, by simpa using hrg0, (hH.alloc _).kept hg0 (by simp), ?_, World.ownsRow_nil _ _ _ _, gathered_start _ _, by omega, ((RowKit.Below.refl _ _).alloc (Nat.le_refl _) _).grown hg0 (by simp) (fun j hj => by cases hj), by rw [hs0]; simp⟩
  rw [hg0.block _ (by simp) (by simp)]
  exact heap_alloc_new w _

theorem rel_drop {w wr w2 : World} {ba na bh nh : Nat} {DA DH : DataW Unit} {g g2 : Nat} {left : Lit → Bool} {acc : List (Key × Int)} {p : Option Addr} {n c : Nat} {x : Key} (hhl : bh < w.heap.size) (h : Rel w ba na bh nh DA DH g wr left acc p n c)
    (hg2 : wr.grownBy w2 (some (w.heap.size + 1))) (hlt : g2 < g) (hrg2 : w2.ranges Try.prog 9 (plainElem Try.prog 33) ba (w.heap.size + 1) na DA (fun z => left z && !z.sameKey (.string x)) g2)
    (hlk : left (.string x) = true) (hp : ¬ 0 < min (valOf DA x) (valOf DH x)) : Rel w ba na bh nh DA DH g2 w2 (fun z => left z && !z.sameKey (.string x)) acc p n c := by
  refine ⟨h.hn, hrg2, h.held.kept hg2 (by simp; omega), ?_, h.row.kept hg2 (Or.inr (row_ne_iter h.row h.rg).symm), gathered_drop h.got hlk hp, by have := h.few; omega, h.kept.grown hg2 (by have := h.size; omega) (fun j hj => by cases hj; omega), by have := h.size; have := hg2.size; omega⟩
  rw [hg2.block _ (by have := h.size; omega) (by simp)]
  exact h.box

theorem grownBy_setCell (w : World) (a : Addr) (u : Value) : w.grownBy (w.setCell a u) (some a.block) :=
  ⟨rfl, rfl, rfl, by simp [World.setCell], fun k _ hne => Below.heap_setCell _ _ _ _ (fun e => hne (by rw [e]))⟩

theorem rel_keep {w wr w2 w3 : World} {ob : Obj} {ba na bh nh : Nat} {DA DH : DataW Unit} {g g2 : Nat} {left : Lit → Bool} {acc : List (Key × Int)} {p p' : Option Addr} {n c c' : Nat} {x : Key} (hal : ba < w.heap.size) (hhl : bh < w.heap.size) (h : Rel w ba na bh nh DA DH g wr left acc p n c)
    (hg2 : wr.grownBy w2 (some (w.heap.size + 1))) (hlt : g2 < g) (hrg2 : w2.ranges Try.prog 9 (plainElem Try.prog 33) ba (w.heap.size + 1) na DA (fun z => left z && !z.sameKey (.string x)) g2)
    (hlk : left (.string x) = true) (hhas : Maps.has DA (.string x) = true) (hp : 0 < min (valOf DA x) (valOf DH x))
    (hown' : w3.ownsRow (w.heap.size + 2) 42 2 (.slice p' (n + 1) c') (n + 1) (acc.flatMap encE ++ [encStr x, .int .u64 (min (valOf DA x) (valOf DH x))])) (hg3 : (w2.alloc ob).grownBy w3 (Value.slice p n c).ownBlock) :
    w3.cell? ⟨w.heap.size, 0, none⟩ = some (.slice p n c) ∧ w3.frozen? ⟨w.heap.size, 0, none⟩ = false ∧
      Rel w ba na bh nh DA DH g2 (w3.setCell ⟨w.heap.size, 0, none⟩ (.slice p' (n + 1) c')) (fun z => left z && !z.sameKey (.string x)) (acc ++ [(x, min (valOf DA x) (valOf DH x))]) p' (n + 1) c' := by
  have hsz2 : w.heap.size + 2 ≤ w2.heap.size := by have := h.size; have := hg2.size; omega
  have hne0 : some w.heap.size ≠ (Value.slice p n c).ownBlock := row_ne_low h.row (by omega)
  have hne1 : some (w.heap.size + 1) ≠ (Value.slice p n c).ownBlock := row_ne_low h.row (by omega)
  have hneA : some ba ≠ (Value.slice p n c).ownBlock := row_ne_low h.row (by omega)
  have hneH : some bh ≠ (Value.slice p n c).ownBlock := row_ne_low h.row (by omega)
  have hb3 : w3.heap[w.heap.size]? = some (.cells #[.slice p n c] 39 (0, 0)) := by
    rw [hg3.block _ (by simp; omega) hne0, Below.heap_alloc _ _ _ (by omega), hg2.block _ (by have := h.size; omega) (by simp)]
    exact h.box
  obtain ⟨c1, c2⟩ := box_cell hb3
  have hg4 := grownBy_setCell w3 ⟨w.heap.size, 0, none⟩ (.slice p' (n + 1) c')
  have hrow2 : w2.ownsRow (w.heap.size + 2) 42 2 (.slice p n c) n (acc.flatMap encE) := h.row.kept hg2 (Or.inr (row_ne_iter h.row h.rg).symm)
  refine ⟨c1, c2, by simp [h.hn], ((hrg2.alloc ob).kept hg3 hneA hne1).kept hg4 (by simp; omega) (by simp), (((h.held.kept hg2 (by simp; omega)).alloc ob).kept hg3 hneH).kept hg4 (by simp; omega), ?_, ?_, gathered_keep h.got hhas hlk hp, by have := h.few; omega, ?_, ?_⟩
  · simp [World.setCell, Array.getElem?_modify, hb3]
  · rw [List.flatMap_append]
    exact hown'.kept hg4 (Or.inr (row_ne_low hown' (b := w.heap.size) (by omega)).symm)
  · exact (((h.kept.grown hg2 (by have := h.size; omega) (fun j hj => by cases hj; omega)).alloc (by omega) ob).grown hg3 (by simp; omega) (fun j hj => by have := (hrow2.lt j hj).1; omega)).setCell (Nat.le_refl _) _
  · have := hg3.size
    simp [World.setCell] at *
    omega

theorem came_row {w : World} {base n cap : Nat} {e : TypeId} {p : Option Addr} {L : List (Key × Int)} (hn : L.length = n) (h : w.ownsRow base e 2 (.slice p n cap) n (L.flatMap encE)) : CameE w p L := by
  rcases h.2 with ⟨h0, h1⟩ | ⟨g, c2, cur, hv, _⟩
  · exact .inl (List.eq_nil_of_length_eq_zero (by omega))
  · cases hv
    simpa using came_holdsK (holdsK_row hn h)

theorem sort_call {w wr : World} {ba na bh nh : Nat} {DA DH : DataW Unit} {g : Nat} {left : Lit → Bool} {acc : List (Key × Int)} {p : Option Addr} {n c : Nat} (hsz : Maps.size DA ≤ 1000000) (h : Rel w ba na bh nh DA DH g wr left acc p n c) (hl0 : ∀ kl, left kl = false) :
    Calls Try.prog 16 #[.iface 39 (.slice p n c), .func (.func 17) #[] #[.pointer (some ⟨w.heap.size, 0, none⟩)]] wr fun e w' => e = .returned (.tuple #[]) ∧ ∃ L : List (Key × Int), L.length = n ∧ n ≤ Maps.size DA ∧ CameE w' p L ∧ Comm (valOf DA) (valOf DH) L ∧ RowKit.Below w.heap.size w w' ∧ w'.cell? ⟨w.heap.size, 0, none⟩ = some (.slice p n c) := by
  have hfew : n ≤ Maps.size DA := by have := h.few; omega
  have hszr := h.size
  have hn := h.hn
  by_cases h1 : n ≤ 1
  · refine (sort_tiny p n c h1 _ wr).mono ?_
    rintro e w' ⟨rfl, os, rfl⟩
    refine ⟨rfl, acc, h.hn, hfew, come_grown (came_row h.hn h.row) grownBy_grow (by simp), gathered_end h.got hl0 (List.Perm.refl _) ?_, h.kept.grown grownBy_grow (by omega) (by simp), (grownBy_grow (w := wr)).cell (box_cell h.box).1 (by simp)⟩
    match acc, hn with
    | [], _ => simp
    | [a], _ => simp
    | a :: b :: r, hn => simp at hn; omega
  · rcases h.row.2 with ⟨h0, h2⟩ | ⟨gb, cap, cur, hv, hbase, hb, _⟩
    · omega
    cases hv
    have hgl : gb < wr.heap.size := (Array.getElem?_eq_some_iff.1 hb).1
    have hH : HoldsK encE 2 wr gb 0 acc.toArray := holdsK_row h.hn h.row
    have hz : acc.toArray.size = n := by simpa using hn
    have hc := sort_two gb 0 c w.heap.size acc.toArray (by omega) (by omega) wr hH hgl (by rw [hz]; exact (box_cell h.box).1) (by omega) (by omega)
    rw [hz] at hc
    refine hc.mono ?_
    rintro e w' ⟨rfl, d', nn, os, hp, hs, rfl⟩
    have hds : d'.size = n := by rw [hp.1]; exact hz
    have hH2 : HoldsK encE 2 (putRowK encE 2 (Sort.ahead wr nn) gb 0 d') gb 0 d' := holdsK_putRowK _ _ _ gb 0 acc.toArray d' (holdsK_ahead _ _ _ _ _ _ _ hH) (by omega)
    have hH3 := holdsK_grow _ _ _ os gb 0 d' (by simpa [putRowK, Sort.ahead] using hgl) hH2
    refine ⟨rfl, d'.toList, by simpa using hds, hfew, came_holdsK hH3, gathered_end h.got hl0 ?_ ?_, h.kept.grown (grownBy_sortedK d') (by omega) (fun j hj => by cases hj; omega), (grownBy_sortedK (w := wr) d').cell (box_cell h.box).1 (by simp; omega)⟩
    · have := hp.2.2
      have e : List.take acc.length d'.toList = d'.toList := List.take_of_length_le (by simp; omega)
      rw [← hn] at this
      simpa [e] using this
    · rw [List.pairwise_iff_getElem]
      intro i j hi hj hij
      have hi' : i < d'.size := by simpa using hi
      have hj' : j < d'.size := by simpa using hj
      have := hs i j (Nat.zero_le _) hij (by omega)
      rw [getElem!_pos d' i hi', getElem!_pos d' j hj'] at this
      simpa using this

set_option maxHeartbeats 2000000 in
theorem common_any (ba na bh nh : Nat) (DA DH : DataW Unit) (w : World) (hA : MapAt w ba na DA) (hH : MapAt w bh nh DH) (hsz : Maps.size DA ≤ 1000000) :
    Calls Try.prog 15 #[.map (some ba), .map (some bh)] w fun e w' => ∃ (L : List (Key × Int)) (p : Option Addr) (n c : Nat), L.length = n ∧ n ≤ Maps.size DA ∧ e = .returned (.slice p n c) ∧ CameE w' p L ∧ Comm (valOf DA) (valOf DH) L ∧ RowKit.Below w.heap.size w w' := by
  obtain ⟨i0, z0, hi, hz0, hz1, hz2, hz3⟩ := info42_parts
  have hal := hA.lt
  have hhl := hH.lt
  go_enter Try.func15, Try.ntmps15
  go_wp2_with (first
    | (at_range; refine wpList_range_own _ rfl _ 25 rfl 9 33 law9 Try.underlying25 _ ba na _ rfl (hA.alloc _) ?_; intro w0 hrg0 hg0 hs0)
    | go_in)
  go_frame
  have HS := rel_start hH hrg0 hg0 hs0
  rw [show (w.alloc (Obj.cells #[Value.slice none 0 0] 39)).heap.size = w.heap.size + 1 by simp]
  clear hrg0 hg0 hs0
  go_loopg [8] (Maps.size DA) (fun g _ wr => ∃ left acc p n c, Rel w ba na bh nh DA DH g wr left acc p n c)
  case atStart => exact ⟨_, _, _, _, _, HS⟩
  case round =>
    obtain ⟨left, acc, p, n, c, HR⟩ := hrel
    go_wp2_with (first
      | (at_next; refine wpList_next_ranges _ rfl _ rfl 9 law9 (plainElem Try.prog 33) encStr (Value.int .u64) (fun key kl hk => by obtain ⟨x, hx, _⟩ := Maps.keyOf_str Try.underlying9 hk; exact ⟨x, hx⟩) (fun v y hv => by obtain ⟨c, rfl, _⟩ := plainElem_int_inv Try.underlying33 hv; exact ⟨c, rfl⟩) ba (w.heap.size + 1) na _ _ _ rfl HR.rg ?_ ?_)
      | go_in)
    · intro hc0 hl0
      have hcall := sort_call hsz HR hl0
      have bx := (box_cell HR.box).1
      clear HR HS
      go_wp2_with (go_at_call 16; refine hcall.mono ?_; rintro e w' ⟨rfl, L, hL, hle, hCE, hCm, hBl, hbx⟩)
      go_ret
      exact ⟨L, p, n, c, hL, hle, rfl, hCE, hCm, hBl⟩
    · intro x cA kl yd yp w2 cnt2 hkey hlk hv hat hrg2 hlt hg2 hs2 hen
      obtain ⟨x', ex, rfl, _⟩ := Maps.keyOf_str Try.underlying9 hkey
      obtain rfl : x = x' := encStr_inj ex
      obtain ⟨c', e1, e2, _⟩ := plainElem_int_inv Try.underlying33 hv
      cases e1
      simp only [Prod.mk.injEq] at e2
      obtain ⟨rfl, rfl⟩ := e2
      have hvA : valOf DA x = cA := valOf_of (hat _)
      have hhas := has_of_at hat
      have hH2 : MapAt w2 bh nh DH := HR.held.kept hg2 (by simp; omega)
      obtain ⟨m, hlook, hm, hmw⟩ := hH2.lookup_int law9 Try.underlying25 Try.underlying33 (zero33 _) hkey
      have hvH : valOf DH x = m := valOf_of hm
      clear hs2
      by_cases hpos : 0 < min cA m
      · have hrow2 : w2.ownsRow (w.heap.size + 2) 42 2 (.slice p n c) n (acc.flatMap encE) := HR.row.kept hg2 (Or.inr (row_ne_iter HR.row HR.rg).symm)
        have hbx2 : w2.heap[w.heap.size]? = some (.cells #[.slice p n c] 39 (0, 0)) := by
          rw [hg2.block _ (by have := HR.size; omega) (by simp)]; exact HR.box
        obtain ⟨bx1, _⟩ := box_cell hbx2
        have hsz2 : w.heap.size + 2 ≤ w2.heap.size := by have := HR.size; have := hg2.size; omega
        have HK : Hid (∀ v' w3 ob, w3.ownsRow (w.heap.size + 2) 42 2 v' (n + 1) (acc.flatMap encE ++ [encStr x, .int .u64 (min cA m)]) → (w2.alloc ob).grownBy w3 (Value.slice p n c).ownBlock →
            ∃ p' c', v' = .slice p' (n + 1) c' ∧ w3.cell? ⟨w.heap.size, 0, none⟩ = some (.slice p n c) ∧ w3.frozen? ⟨w.heap.size, 0, none⟩ = false ∧
              Rel w ba na bh nh DA DH cnt2 (w3.setCell ⟨w.heap.size, 0, none⟩ v') (fun z => left z && !z.sameKey (.string x)) (acc ++ [(x, min cA m)]) p' (n + 1) c') := by
          intro v' w3 ob hown' hg3
          obtain ⟨p', c', rfl⟩ := shape_of hown'
          obtain ⟨b1, b2, hr⟩ := rel_keep hal hhl HR hg2 hlt hrg2 hlk hhas (by rw [hvA, hvH]; exact hpos) (by rw [hvA, hvH]; exact hown') hg3
          rw [hvA, hvH] at hr
          exact ⟨p', c', rfl, b1, b2, hr⟩
        have hnm : n + 1 ≤ maxLen := by have := HR.few; unfold maxLen; omega
        have hby : (n + 1) * 24 ≤ 140737488355328 := by have := HR.few; omega
        have HL : Hid (cnt2 < gk) := hlt
        have HRow : Hid (w2.ownsRow (w.heap.size + 2) 42 2 (.slice p n c) n (acc.flatMap encE)) := hrow2
        clear hrow2 hlt hrg2 hg2 hat hv hlk hm hmw hvA hvH hhas hH2 HR HS hbx2
        go_wp2_with (first
          | (at_builtin; refine wpList_append_own _ rfl _ _ 39 rfl (w.heap.size + 2) 42 i0 z0 2 24 Try.underlying39 hi hz0 hz1 hz2 hz3 (by decide) _ _ _ rfl (HRow.out.alloc _) ⟨w2.heap.size, 0, none⟩ 1 1 [encStr x, .int .u64 (min cA m)] rfl rfl (cell_two_new _ _ _ _) (by simp [Value.oneCell', encStr]) hnm hby (by simp; omega) ?_; intro v' w3 hown' hg3 hnil3; obtain ⟨p', c', rfl, bc, bf, HRel⟩ := HK.out _ _ _ hown' hg3; clear hown' hg3 hnil3; go_frame)
          | go_in)
        go_roundg cnt2
        case rel => exact ⟨_, _, _, _, _, HRel⟩
        case measure => exact HL.out
      · have HD := rel_drop hhl HR hg2 hlt hrg2 hlk (by rw [hvA, hvH]; exact hpos)
        have HP : Hid (Rel w ba na bh nh DA DH cnt2 w2 (fun z => left z && !z.sameKey (.string x)) acc p n c) := HD
        have HL : Hid (cnt2 < gk) := hlt
        clear HD hlt hrg2 hg2 hat hv hlk hm hmw hvA hvH hhas hH2 HR HS hz0 hz1 hz2 hz3 hi
        go_wp2
        go_roundg cnt2
        case rel => exact ⟨_, _, _, _, _, HP.out⟩
        case measure => exact HL.out
end Go.Proofs.Qxb6614989a
