/-
  skipRun: the run of a body, gathered into two rows of the call's own.
-/
import Derived.Test.Qxb6609137aDoorRuns
import Derived.Test.Qxb6609137aDoorLawB
namespace Go.Proofs.Qxb6609137aDoor
open Go.RowKit

/-- A row of the call's own: block g, of 'cap' cells, the first n are xs. -/
def RowIs (w : World) (g : Nat) (e : TypeId) (n cap : Nat) (xs : List Value) : Prop := w.ownsRow 0 e 1 (.slice (some ⟨g, 0, none⟩) n cap) n xs

theorem RowIs.same {w w' : World} {g : Nat} {e : TypeId} {n cap : Nat} {xs : List Value} (h : RowIs w g e n cap xs) (hg : w'.heap[g]? = w.heap[g]?) : RowIs w' g e n cap xs := by
  refine ⟨h.1, ?_⟩
  rcases h.2 with h' | ⟨g', cap', cur, hv, hb, hh, r⟩
  · exact Or.inl h'
  · have : g' = g := by simp at hv; exact hv.1.symm
    subst this
    exact Or.inr ⟨g', cap', cur, hv, hb, hg.trans hh, r⟩
theorem RowIs.lt {w : World} {g : Nat} {e : TypeId} {n cap : Nat} {xs : List Value} (h : RowIs w g e n cap xs) : g < w.heap.size := by
  rcases h.2 with ⟨h', _⟩ | ⟨g', cap', cur, hv, hb, hh, r⟩
  · cases h'
  · have : g' = g := by simp at hv; exact hv.1.symm
    subst this
    exact blk_lt hh
theorem RowIs.cell {w : World} {g : Nat} {e : TypeId} {n cap : Nat} {xs : List Value} (h : RowIs w g e n cap xs) (j : Nat) (hj : j < n) : w.cell? ⟨g, j, none⟩ = xs[j]? :=
  World.ownsRow.cellAt h j (by omega)
theorem RowIs.len {w : World} {g : Nat} {e : TypeId} {n cap : Nat} {xs : List Value} (h : RowIs w g e n cap xs) : xs.length = n := by have := h.1; omega
theorem rowIs_new (w : World) (e : TypeId) (M : Array Value) (cap : Nat) (hM : M.size = cap) (hc : cap ≤ maxLen) : RowIs (w.alloc (.cells M e)) w.heap.size e 0 cap [] :=
  ⟨rfl, Or.inr ⟨w.heap.size, cap, M, rfl, Nat.zero_le _, heap_alloc_new w _, Nat.zero_le _, hc, by omega, by simp⟩⟩

theorem grow_block {w w' : World} {o : Obj} {T : Nat} (hg : (w.alloc o).grownBy w' (some T)) {b : Nat} (hb : b < w.heap.size) (hne : b ≠ T) : w'.heap[b]? = w.heap[b]? := by
  rw [hg.block b (by simp; omega) (by simpa using hne)]
  exact Below.heap_alloc _ _ _ hb

theorem Cfg.Sc.lt {C : Cfg} {pos : Nat} {w : World} (h : C.Sc pos w) : ∀ b ∈ C.own, b < w.heap.size := by
  obtain ⟨⟨⟨r, k, lb, lr, prev, cur, hr, hb, hf, _⟩, _⟩, hs⟩ := h
  intro b hb'
  simp only [Cfg.own, List.mem_cons, List.not_mem_nil, or_false] at hb'
  rcases hb' with rfl | rfl | rfl | rfl
  · exact blk_lt hs
  · exact blk_lt hr
  · exact blk_lt hb
  · exact blk_lt hf

theorem Cfg.Sc.same {C : Cfg} {pos : Nat} {w w' : World} (h : C.Sc pos w) (hb : ∀ b ∈ C.own, w'.heap[b]? = w.heap[b]?) (h0 : w'.heap[0]? = w.heap[0]?)
    (hB : ∀ B, C.xs ≠ [] → C.p = some ⟨B, 0, none⟩ → w'.heap[B]? = w.heap[B]?) : C.Sc pos w' := by
  obtain ⟨⟨⟨r, k, lb, lr, prev, cur, hr, hbb, hf, hrest⟩, h1, h2⟩, hs⟩ := h
  refine ⟨⟨⟨r, k, lb, lr, prev, cur, ?_, ?_, ?_, hrest⟩, ?_, ?_⟩, ?_⟩
  · rw [hb _ (by simp [Cfg.own])]; exact hr
  · rw [hb _ (by simp [Cfg.own])]; exact hbb
  · rw [hb _ (by simp [Cfg.own])]; exact hf
  · intro B hp j v hv
    have hne : C.xs ≠ [] := by intro e; rw [e] at hv; simp at hv
    rw [World.cell?_of_block (a := ⟨B, j, none⟩) (hB B hne hp)]
    exact h1 B hp j v hv
  · rw [World.cell?_of_block (a := ⟨0, 0, none⟩) h0]; exact h2
  · rw [hb _ (by simp [Cfg.own])]; exact hs

/-- A block that is none of the scanner's, nor the body's, nor the variables'. -/
def Cfg.Apart (C : Cfg) (T : Nat) : Prop := T ∉ C.own ∧ T ≠ 0 ∧ ∀ B, C.xs ≠ [] → C.p = some ⟨B, 0, none⟩ → B ≠ T

theorem Cfg.Sc.grown {C : Cfg} {pos : Nat} {w w' : World} {o : Obj} {T : Nat} (h : C.Sc pos w) (hT : C.Apart T) (hg : (w.alloc o).grownBy w' (some T)) : C.Sc pos w' := by
  refine h.same (fun b hb => grow_block hg (h.lt b hb) (fun e => hT.1 (e ▸ hb))) (grow_block hg (World.block_lt_of_cell? w _ h.1.2.2) (Ne.symm hT.2.1)) ?_
  intro B hne hp
  obtain ⟨x, r, hx⟩ := List.exists_cons_of_ne_nil hne
  have := h.1.2.1 B hp 0 x (by rw [hx]; rfl)
  exact grow_block hg (World.block_lt_of_cell? w _ this) (hT.2.2 B hne hp)

theorem one_new {w : World} {v : Value} {e : TypeId} : ∀ ad, (some (⟨w.heap.size, 0, none⟩ : Addr)) = some ad → ∀ j u, [v][j]? = some u → (w.alloc (.cells #[v] e)).cell? (ad.add j) = some u := by
  intro ad h j u hj
  cases h
  match j, hj with
  | 0, hj =>
    simp at hj; subst hj
    simp [Addr.add]

theorem Tryd.info2 : (Tryd.prog.info? 2).map (fun i => (i.zero, i.size, i.bytes)) = some (some (.int .i64 0), 1, 8) := by kernel_rfl
theorem Tryd.size2 : (Tryd.prog.info? 2).map (·.size) = some 1 := by kernel_rfl

theorem mk8 (n : Nat) (hn : n ≤ 1000000) : ∃ M : Array Value, M.size = n ∧ ∀ w, (Instr.makeSlice 22 (.int .i64 0) (.int .i64 n)).run Tryd.prog w = .ok (.slice (some ⟨w.heap.size, 0, none⟩) 0 n) (w.alloc (.cells M 5)) := by
  obtain ⟨i, hi, hzz⟩ := Option.map_eq_some_iff.1 Tryd.info5
  simp only [Prod.mk.injEq] at hzz
  obtain ⟨hz, hs, hb⟩ := hzz
  refine ⟨madeCells (Value.int .u8 0).cells n, size_madeCells _ _, fun w => ?_⟩
  have hr := run_make (P := Tryd.prog) w 22 5 i (.int .u8 0) Tryd.underlying22 hi hz .i64 .i64 0 n (by omega) (by omega) (by rw [hb]; omega) (by omega)
  simpa [hs] using hr
theorem mk36 (n : Nat) (hn : n ≤ 1000000) : ∃ M : Array Value, M.size = n ∧ ∀ w, (Instr.makeSlice 36 (.int .i64 0) (.int .i64 n)).run Tryd.prog w = .ok (.slice (some ⟨w.heap.size, 0, none⟩) 0 n) (w.alloc (.cells M 2)) := by
  obtain ⟨i, hi, hzz⟩ := Option.map_eq_some_iff.1 Tryd.info2
  simp only [Prod.mk.injEq] at hzz
  obtain ⟨hz, hs, hb⟩ := hzz
  refine ⟨madeCells (Value.int .i64 0).cells n, size_madeCells _ _, fun w => ?_⟩
  have hr := run_make (P := Tryd.prog) w 36 2 i (.int .i64 0) Tryd.underlying36 hi hz .i64 .i64 0 n (by omega) (by omega) (by rw [hb]; omega) (by omega)
  simpa [hs] using hr

abbrev tokV (r : List (Int × Nat)) : List Value := r.map fun t => .int .u8 t.1
abbrev offV (r : List (Int × Nat)) : List Value := r.map fun t => .int .i64 (t.2 : Int)

set_option maxHeartbeats 1000000 in
theorem skipRun_any (p : Option Addr) (n cap : Nat) (xs : List Int) (s : ByteArray) (ev : Value) (w : World) (hlen : xs.length = n) (hn : n ≤ 200000) (hb : Body w p cap xs)
    (hev : ∃ eo, ev = .iface 63 (.pointer (some eo))) (hE : w.cell? ⟨0, 0, none⟩ = some ev) :
    Calls Tryd.prog 20 #[.slice p n cap, .string s] w fun e w' => ∃ T O : Nat, e = .returned (.tuple #[.slice (some ⟨T, 0, none⟩) (runOf xs).length n, .slice (some ⟨O, 0, none⟩) (runOf xs).length n, .bool true]) ∧
      w.heap.size ≤ T ∧ w.heap.size ≤ O ∧ RowIs w' T 5 (runOf xs).length n (tokV (runOf xs)) ∧ RowIs w' O 2 (runOf xs).length n (offV (runOf xs)) ∧ Below w.heap.size w w' := by
  obtain ⟨M8, hM8, hmk8⟩ := mk8 n (by omega)
  obtain ⟨M9, hM9, hmk9⟩ := mk36 n (by omega)
  obtain ⟨i5, hi5, hs5⟩ := Option.map_eq_some_iff.1 Tryd.size5
  obtain ⟨i2, hi2, hs2⟩ := Option.map_eq_some_iff.1 Tryd.size2
  have HNew : Hid (Calls Tryd.prog 11 #[.slice p n cap, .string s] w fun e w' => ∃ C : Cfg, e = .returned (.pointer (some ⟨C.sb, 0, none⟩)) ∧ w'.cell? ⟨C.sb, 1, none⟩ = some (.int .i64 0) ∧
      Hid (C.Ok ∧ C.xs = xs ∧ C.p = p ∧ C.ev = ev ∧ (∀ k ∈ C.own, w.heap.size ≤ k) ∧ C.Sc 0 w' ∧ Below w.heap.size w w')) := zzNew_some p n cap xs hlen s ev w hb hev hE
  have HN : Hid (xs.length = n) := hlen
  have HB : Hid (Body w p cap xs) := hb
  have H0 : Hid (0 < w.heap.size) := World.block_lt_of_cell? w _ hE
  have HM : Hid (M8.size = n ∧ M9.size = n) := ⟨hM8, hM9⟩
  clear hb hev hE hlen hM8 hM9
  go_enter Tryd.func20, Tryd.ntmps20
  go_wp2_with (first | (go_at_call 11; refine HNew.out.mono ?_; rintro e w2 ⟨C, rfl, d0, HR⟩))
  obtain ⟨ok, rfl, rfl, rfl, hown, hS, hB2⟩ := HR.out
  have hT0 : 0 < w2.heap.size := Nat.lt_of_lt_of_le H0.out hB2.size
  have HA : Hid (C.Apart w2.heap.size ∧ C.Apart (w2.heap.size + 1)) := by
    refine ⟨⟨fun h => by have := hS.lt _ h; omega, by omega, ?_⟩, ⟨fun h => by have := hS.lt _ h; omega, by omega, ?_⟩⟩
    all_goals
      intro B hne hp
      rcases HB.out.at_ with h | ⟨B', h1, h2, _⟩
      · exact absurd h hne
      · rw [hp] at h1
        obtain rfl : B = B' := by simpa using h1
        have := hB2.size; omega
  have HOwn : Hid (∀ k ∈ C.own, w.heap.size ≤ k) := hown
  have HLe : Hid (w.heap.size ≤ w2.heap.size) := hB2.size
  have OK : Hid C.Ok := ok
  generalize hw4 : (w2.alloc (Obj.cells M8 5)).alloc (Obj.cells M9 2) = w4
  have HRT : Hid (RowIs w4 w2.heap.size 5 0 n []) := by
    subst hw4
    exact RowIs.same (rowIs_new w2 5 M8 n HM.out.1 (by unfold maxLen; omega)) (Below.heap_alloc _ _ _ (by simp))
  have HRO : Hid (RowIs w4 (w2.heap.size + 1) 2 0 n []) := by
    subst hw4
    have h := rowIs_new (w2.alloc (Obj.cells M8 5)) 2 M9 n HM.out.2 (by unfold maxLen; omega)
    simp only [World.size_alloc] at h
    exact h
  have HS4 : Hid (C.Sc 0 w4) := by
    subst hw4
    have h1 : ∀ b, b < w2.heap.size → ((w2.alloc (Obj.cells M8 5)).alloc (Obj.cells M9 2)).heap[b]? = w2.heap[b]? := fun b hb => by
      rw [Below.heap_alloc _ _ _ (by simp; omega), Below.heap_alloc _ _ _ hb]
    refine hS.same (fun b hb => h1 b (hS.lt b hb)) (h1 0 hT0) ?_
    intro B hne hp
    rcases HB.out.at_ with h | ⟨B', h3, h4, _⟩
    · exact absurd h hne
    · rw [hp] at h3
      obtain rfl : B = B' := by simpa using h3
      exact h1 B (Nat.lt_of_lt_of_le h4 hB2.size)
  have HB4 : Hid (Below w.heap.size w w4) := by
    subst hw4; exact (hB2.alloc hB2.size _).alloc (by have := hB2.size; simp; omega) _
  generalize w2.heap.size = T at *
  clear hw4 hS hB2 hown ok HR HNew HM HB hmk8 hmk9 d0 hT0 H0 w2
  go_loopg [8, 9, 10] (n + 1) (fun g a b c wr => ∃ (k m : Nat), m = (runOf (C.xs.take k)).length ∧ k ≤ n ∧ g = n + 1 - k ∧ a = .slice (some ⟨T, 0, none⟩) m n ∧ b = .slice (some ⟨T + 1, 0, none⟩) m n ∧ c = .int .i64 m ∧
    RowIs wr T 5 m n (tokV (runOf (C.xs.take k))) ∧ RowIs wr (T + 1) 2 m n (offV (runOf (C.xs.take k))) ∧ C.Sc k wr ∧ Below w.heap.size w wr)
  case atStart => exact ⟨0, 0, by simp [runOf, runFrom], Nat.zero_le _, rfl, rfl, rfl, rfl, by simpa [runOf, runFrom] using HRT.out, by simpa [runOf, runFrom] using HRO.out, HS4.out, HB4.out⟩
  case round =>
    obtain ⟨k, m, hm, hk, rfl, rfl, rfl, rfl, hrt, hro, hSk, hBk⟩ := hrel
    have hmk : m ≤ k := by rw [hm]; exact runOf_take_length _ _
    have HMk : Hid (m = (runOf (C.xs.take k)).length) := hm
    have HSk : Hid (C.Sc k wr) := hSk
    have HBk : Hid (Below w.heap.size w wr) := hBk
    have HT : Hid (RowIs wr T 5 m n (tokV (runOf (C.xs.take k)))) := hrt
    have HO : Hid (RowIs wr (T + 1) 2 m n (offV (runOf (C.xs.take k)))) := hro
    clear hm hSk hBk hrt hro HRT HRO HS4 HB4
    have hmI : (m : Int) ≤ (n : Int) := by omega
    have hkn : k ≤ C.xs.length := by have := HN.out; omega
    rcases Nat.lt_or_ge (skipAt C.xs k) C.xs.length with hj | hj
    · have HC : Hid (Calls Tryd.prog 17 #[.pointer (some ⟨C.sb, 0, none⟩)] wr fun e w' => e = .returned (out3 (C.xs[skipAt C.xs k]'hj) false false) ∧ Hid (C.Sc (skipAt C.xs k + 1) w' ∧ Turned C.own wr w')) :=
        zzSkip_some C OK.out k hj wr HSk.out
      have HRun : Hid (runOf (C.xs.take (skipAt C.xs k + 1)) = runOf (C.xs.take k) ++ [(C.xs[skipAt C.xs k]'hj, skipAt C.xs k + 1)]) := runOf_skip _ _ _ rfl hj
      have hqn : skipAt C.xs k + 1 ≤ n := by have := HN.out; omega
      have hkq : k ≤ skipAt C.xs k := le_skipAt _ _
      generalize skipAt C.xs k = q at *
      generalize hx : C.xs[q]'hj = x at *
      clear hx hj
      have h1x : ∀ u ∈ [Value.int .u8 x], u.oneCell' = true := by intro u hu; simp at hu; subst hu; rfl
      have h1q : ∀ u ∈ [Value.int .i64 ((q : Int) + 1)], u.oneCell' = true := by intro u hu; simp at hu; subst hu; rfl
      have H1 : Hid ((∀ u ∈ [Value.int .u8 x], u.oneCell' = true) ∧ ∀ u ∈ [Value.int .i64 ((q : Int) + 1)], u.oneCell' = true) := ⟨h1x, h1q⟩
      clear h1x h1q
      go_wp2_with (first
        | (go_at_call 17; refine HC.out.mono ?_; rintro e w3 ⟨rfl, HR⟩)
        | (at_builtin; refine wpList_append_fits_any _ rfl (.tmp 50) (.tmp 52) 22 rfl 0 5 i5 1 Tryd.underlying22 hi5 hs5 T m n _ rfl (World.ownsRow.alloc (HT.out.same (HR.out.2.block T HA.out.1.1)) _) (some ⟨w3.heap.size, 0, none⟩) 1 1 [.int .u8 x] rfl rfl (by intro h; cases h) one_new H1.out.1 (by omega) ?_; intro w4 hown4 hgrow4)
        | (go_at_call 12; refine (zzOffset_any C.sb ((q : Int) + 1) w4 (by have := (HR.out.1.grown HA.out.1 hgrow4).off; simpa using this)).mono ?_; rintro e w' ⟨rfl, rfl⟩)
        | (at_builtin; refine wpList_append_fits_any _ rfl (.tmp 54) (.tmp 57) 36 rfl 0 2 i2 1 Tryd.underlying36 hi2 hs2 (T + 1) m n _ rfl (World.ownsRow.alloc ((HO.out.same (HR.out.2.block (T + 1) HA.out.2.1)).same (grow_block hgrow4 (HO.out.same (HR.out.2.block (T + 1) HA.out.2.1)).lt (by omega))) _) (some ⟨w4.heap.size, 0, none⟩) 1 1 [.int .i64 ((q : Int) + 1)] rfl rfl (by intro h; cases h) one_new H1.out.2 (by omega) ?_; intro w5 hown5 hgrow5))
      go_roundg (n + 1 - (q + 1))
      case rel =>
        have hRT : RowIs w5 T 5 (m + 1) n (tokV (runOf (C.xs.take (q + 1)))) := by
          have h4 : RowIs w4 T 5 (m + 1) n (tokV (runOf (C.xs.take k)) ++ [.int .u8 x]) := hown4
          have h5 := h4.same (grow_block hgrow5 h4.lt (by omega))
          rw [HRun.out]; simpa [tokV] using h5
        have hRO : RowIs w5 (T + 1) 2 (m + 1) n (offV (runOf (C.xs.take (q + 1)))) := by
          have h5 : RowIs w5 (T + 1) 2 (m + 1) n (offV (runOf (C.xs.take k)) ++ [.int .i64 ((q : Int) + 1)]) := hown5
          rw [HRun.out]; simpa [offV] using h5
        have b3 : Below w.heap.size w w3 := HBk.out.trans (HR.out.2.below HOwn.out)
        have s3 := b3.size
        have b4 := (b3.alloc s3 (.cells #[.int .u8 x] 5)).grown hgrow4 (by simp; omega) (by intro k' e; cases e; exact HLe.out)
        have s4 := b4.size
        have b5 := (b4.alloc s4 (.cells #[.int .i64 ((q : Int) + 1)] 2)).grown hgrow5 (by simp; omega) (by intro k' e; cases e; have := HLe.out; omega)
        exact ⟨q + 1, m + 1, by rw [HRun.out, HMk.out]; simp, hqn, rfl, rfl, rfl, by go_num, hRT, hRO, (HR.out.1.grown HA.out.1 hgrow4).grown HA.out.2 hgrow5, b5⟩
      case measure => omega
    · have hje : skipAt C.xs k = C.xs.length := Nat.le_antisymm (skipAt_le hkn) hj
      have HRun : Hid (runOf (C.xs.take k) = runOf C.xs) := runOf_end _ _ _ rfl hkn hje
      have HC : Hid (Calls Tryd.prog 17 #[.pointer (some ⟨C.sb, 0, none⟩)] wr fun e w' => e = .returned (out3 0 true true) ∧
            w'.cell? ⟨C.sb, 1, none⟩ = some (.int .i64 (n : Int)) ∧ Hid (C.Sc C.xs.length w' ∧ Turned C.own wr w')) :=
          (zzSkip_end C OK.out k hkn hje wr HSk.out).mono fun e w' h => ⟨h.1, by have := h.2.1.off; rw [HN.out] at this; exact this, h.2⟩
      clear hje hj
      go_wp2_with (first | (go_at_call 17; refine HC.out.mono ?_; rintro e w3 ⟨rfl, d1, HR⟩) | (go_at_call 12; refine (zzOffset_any _ _ _ d1).mono ?_; rintro e w' ⟨rfl, rfl⟩))
      go_ret3
      have hm2 : m = (runOf C.xs).length := by rw [← HRun.out]; exact HMk.out
      have hRT := HT.out.same (HR.out.2.block T HA.out.1.1)
      have hRO := HO.out.same (HR.out.2.block (T + 1) HA.out.2.1)
      rw [HRun.out] at hRT hRO
      refine ⟨T, T + 1, ?_, HLe.out, by have := HLe.out; omega, by rw [← hm2]; exact hRT, by rw [← hm2]; exact hRO, HBk.out.trans (HR.out.2.below HOwn.out)⟩
      rw [← hm2]; rfl
end Go.Proofs.Qxb6609137aDoor
