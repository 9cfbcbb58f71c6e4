/-
  The scanner's state, and ReadByte over it.
-/
import Derived.Test.Qxb6609137aDoorByte
import Derived.Test.Qxb6609137aDoorLeaf
namespace Go.Proofs.Qxb6609137aDoor
open Go.RowKit

/-- Where a scanner's parts lie: the Scanner (sb), its bufio.Reader (rb), its bytes.Reader (bb), the buffer (fb) of D bytes; the body; the word 'wrong'; the value io.EOF. -/
structure Cfg where
  sb : Nat
  rb : Nat
  bb : Nat
  fb : Nat
  D : Nat
  ts : TypeId
  tr : TypeId
  tb : TypeId
  p : Option Addr
  cap : Nat
  xs : List Int
  wr : ByteArray
  ev : Value

structure Cfg.Ok (C : Cfg) : Prop where
  rb_bb : C.rb ≠ C.bb
  rb_fb : C.rb ≠ C.fb
  bb_fb : C.bb ≠ C.fb
  sb_rb : C.sb ≠ C.rb
  sb_bb : C.sb ≠ C.bb
  sb_fb : C.sb ≠ C.fb
  rb0 : 0 < C.rb
  bb0 : 0 < C.bb
  fb0 : 0 < C.fb
  sb0 : 0 < C.sb
  body : C.xs = [] ∨ ∃ B, C.p = some ⟨B, 0, none⟩ ∧ B ≠ C.rb ∧ B ≠ C.bb ∧ B ≠ C.fb ∧ B ≠ C.sb
  D0 : 0 < C.D
  D1 : C.D ≤ 1000000
  len : C.xs.length ≤ 1000000
  cap : C.xs.length ≤ C.cap
  bytes : ∀ v ∈ C.xs, 0 ≤ v ∧ v ≤ 255
  eof : ∃ eo, C.ev = .iface 63 (.pointer (some eo))

/-- The bufio.Reader stands before byte 'pos' of the body: k bytes lie in the buffer from r on. -/
def Cfg.Rd (C : Cfg) (pos : Nat) (w : World) : Prop :=
  (∃ (r k : Nat) (lb lr prev : Int) (cur : List Value),
    w.heap[C.rb]? = some (.cells (rdCells C.fb C.D C.bb r ((r + k : Nat) : Int) .nilIface lb lr) C.tr (0, 0)) ∧
    w.heap[C.bb]? = some (.cells #[.slice C.p C.xs.length C.cap, .int .i64 ((pos + k : Nat) : Int), .int .i64 prev] C.tb (0, 0)) ∧
    w.heap[C.fb]? = some (.cells cur.toArray 5 (0, 0)) ∧ cur.length = C.D ∧ r + k ≤ C.D ∧ pos + k ≤ C.xs.length ∧
    ∀ j, j < k → cur[r + j]? = (C.xs[pos + j]?).map (.int .u8)) ∧
  (∀ B, C.p = some ⟨B, 0, none⟩ → ∀ j v, C.xs[j]? = some v → w.cell? ⟨B, j, none⟩ = some (.int .u8 v)) ∧
  w.cell? ⟨0, 0, none⟩ = some C.ev

theorem Cfg.keep {C : Cfg} (ok : C.Ok) {w w' : World} (ht : Turned [C.rb, C.bb, C.fb] w w')
    (h : (∀ B, C.p = some ⟨B, 0, none⟩ → ∀ j v, C.xs[j]? = some v → w.cell? ⟨B, j, none⟩ = some (.int .u8 v)) ∧ w.cell? ⟨0, 0, none⟩ = some C.ev) :
    (∀ B, C.p = some ⟨B, 0, none⟩ → ∀ j v, C.xs[j]? = some v → w'.cell? ⟨B, j, none⟩ = some (.int .u8 v)) ∧ w'.cell? ⟨0, 0, none⟩ = some C.ev := by
  obtain ⟨h1, h2⟩ := h
  refine ⟨fun B hB j v hv => ?_, ?_⟩
  · rcases ok.body with hx | ⟨B', hp, n1, n2, n3, _⟩
    · rw [hx] at hv; simp at hv
    · rw [hB] at hp
      obtain rfl : B = B' := by simpa using hp
      rw [ht.cell (by simp; exact ⟨n1, n2, n3⟩)]; exact h1 B hB j v hv
  · rw [ht.cell (by have := ok.rb0; have := ok.bb0; have := ok.fb0; simp; omega)]; exact h2

theorem splice_zero (cur cs : List Value) (j : Nat) (h : j < cs.length) : (splice cur 0 cs)[j]? = cs[j]? := by
  simp only [splice, List.take_zero, List.nil_append]
  rw [List.getElem?_append_left h]

theorem byteB_some (C : Cfg) (ok : C.Ok) (pos : Nat) (hp : pos < C.xs.length) (w : World) (h : C.Rd pos w) :
    Calls Tryd.prog 30 #[.pointer (some ⟨C.rb, 0, none⟩)] w fun e w' => e = .returned (.tuple #[.int .u8 (C.xs[pos]'hp), .nilIface]) ∧ C.Rd (pos + 1) w' ∧ Turned [C.rb, C.bb, C.fb] w w' := by
  obtain ⟨⟨r, k, lb, lr, prev, cur, hr, hb, hf, hD, hk, hpk, hcur⟩, hst⟩ := h
  have hx := ok.bytes _ (List.getElem_mem hp)
  by_cases hk0 : k = 0
  · subst hk0
    obtain ⟨B, hpB, nB1, nB2, nB3, _⟩ : ∃ B, C.p = some ⟨B, 0, none⟩ ∧ B ≠ C.rb ∧ B ≠ C.bb ∧ B ≠ C.fb ∧ B ≠ C.sb := by
      rcases ok.body with h0 | h0
      · rw [h0] at hp; simp at hp
      · exact h0
    have hmin : (u8s ((C.xs.drop pos).take C.D)).length = Nat.min (C.xs.length - pos) C.D := by
      simp; exact Nat.min_comm _ _
    have hmpos : 0 < Nat.min (C.xs.length - pos) C.D := by have := ok.D0; exact Nat.lt_min.2 ⟨by omega, this⟩
    have hmle : Nat.min (C.xs.length - pos) C.D ≤ C.xs.length - pos := Nat.min_le_left _ _
    have hmle2 : Nat.min (C.xs.length - pos) C.D ≤ C.D := Nat.min_le_right _ _
    have hget : ∀ j, j < Nat.min (C.xs.length - pos) C.D → (u8s ((C.xs.drop pos).take C.D))[j]? = (C.xs[pos + j]?).map (.int .u8) := by
      intro j hj
      simp only [u8s, List.getElem?_map]
      rw [List.getElem?_take, if_pos (by exact Nat.lt_of_lt_of_le hj hmle2), List.getElem?_drop]
    generalize hmm : Nat.min (C.xs.length - pos) C.D = m at *
    generalize hcs : u8s ((C.xs.drop pos).take C.D) = cs at *
    have ho : ∀ v ∈ cs, v.oneCell' = true := by
      intro v hv; rw [← hcs] at hv; simp only [u8s, List.mem_map] at hv; obtain ⟨x, _, rfl⟩ := hv; rfl
    have key := rb_fill C.rb C.fb C.D C.bb r m (C.xs[pos]'hp) lb lr C.tr w hmpos hmle2 ok.D1 hx (by simpa using hr)
      (fun W' => W'.heap[C.bb]? = some (.cells #[.slice (some ⟨B, 0, none⟩) C.xs.length C.cap, .int .i64 ((pos : Int) + m), .int .i64 (-1)] C.tb (0, 0)) ∧
        W'.heap[C.fb]? = some (.cells (splice cur 0 cs).toArray 5 (0, 0)) ∧ Turned [C.rb, C.bb, C.fb] w W') ?_ ?_
    · refine key.mono ?_
      rintro e w' ⟨rfl, hrb, W, ⟨hWb, hWf, hWt⟩, hW'⟩
      have htt : Turned [C.rb, C.bb, C.fb] w w' := hWt.trans (hW'.mono (by simp))
      refine ⟨rfl, ⟨⟨1, m - 1, C.xs[pos], -1, -1, splice cur 0 cs, ?_, ?_, ?_, ?_, ?_, ?_, ?_⟩, Cfg.keep ok htt hst⟩, htt⟩
      · rw [hrb, show ((1 + (m - 1) : Nat) : Int) = m by omega]; rfl
      · rw [hW'.block _ (by simpa using Ne.symm ok.rb_bb), hWb, hpB, show ((pos + 1 + (m - 1) : Nat) : Int) = (pos : Int) + m by omega]
      · rw [hW'.block _ (by simpa using Ne.symm ok.rb_fb), hWf]
      · rw [length_splice _ _ _ (by omega)]; exact hD
      · omega
      · omega
      · intro j hj
        rw [splice_zero _ _ _ (by omega), hget _ (by omega)]; congr 2; omega
    · rintro W ⟨hWb, hWf, _⟩
      rw [blk_cell hWf]
      simp only [List.getElem?_toArray]
      rw [splice_zero _ _ _ (by omega), hget 0 hmpos]
      simp [hp]
    · intro W hW hWr
      refine (fill_of C.rb C.fb C.D C.bb r m lb (-1) .nilIface C.tr W (by omega) ok.D0 ok.D1 (by have := ok.len; omega) (Or.inl ⟨rfl, hmpos⟩) hWr
        (fun a b => b.heap[C.bb]? = some (.cells #[.slice (some ⟨B, 0, none⟩) C.xs.length C.cap, .int .i64 ((pos : Int) + m), .int .i64 (-1)] C.tb (0, 0)) ∧
          b.heap[C.fb]? = some (.cells (splice cur 0 cs).toArray 5 (0, 0)) ∧ Turned [C.bb, C.fb] a b)
        (fun a b hab => hab.2.2.block _ (by have := ok.rb_bb; have := ok.rb_fb; simp; omega)) ?_).mono ?_
      · intro W2 hW2
        have hW3 := hW.trans hW2
        refine (read_some C.bb B C.fb C.xs.length C.cap pos C.D m prev C.tb cs cur W2 hp ok.cap ok.bb_fb nB2 ok.len ok.D1 hD hmin hmm.symm ?_ ?_ ?_ ho).mono ?_
        · rw [hW3.block _ (by simpa using Ne.symm ok.rb_bb), hb, hpB]; rfl
        · rw [hW3.block _ (by simpa using Ne.symm ok.rb_fb), hf]
        · intro j v hv
          have hj : j < m := by rw [← hmin]; exact (List.getElem?_eq_some_iff.1 hv).1
          rw [hget j hj] at hv
          simp only [Option.map_eq_some_iff] at hv
          obtain ⟨x, hx, rfl⟩ := hv
          rw [hW3.cell (by simpa using nB1)]
          exact hst.1 B hpB _ _ hx
        · rintro e W4 ⟨rfl, h1, h2, h3⟩
          exact ⟨rfl, h1, h2, h3⟩
      · rintro e W' ⟨rfl, hWb', w1, ht1, w2, ⟨hb2, hf2, ht2⟩, ht3⟩
        refine ⟨rfl, hWb', ?_, ?_, ?_⟩
        · rw [ht3.block _ (by simpa using Ne.symm ok.rb_bb), hb2]
        · rw [ht3.block _ (by simpa using Ne.symm ok.rb_fb), hf2]
        · exact ((hW.mono (by simp)).trans (ht1.mono (by simp))).trans ((ht2.mono (by simp)).trans (ht3.mono (by simp)))
  · refine (rb_now C.rb C.fb C.D C.bb r (r + k) (C.xs[pos]'hp) lb lr C.tr w (by omega) hk ok.D1 ok.rb_fb hx hr ?_).mono ?_
    · rw [blk_cell hf]
      have := hcur 0 (by omega)
      simp only [Nat.add_zero] at this
      simp only [List.getElem?_toArray]
      rw [this]; simp [hp]
    · rintro e w' ⟨rfl, hrb, ht⟩
      have htt : Turned [C.rb, C.bb, C.fb] w w' := ht.mono (by simp)
      refine ⟨rfl, ⟨⟨r + 1, k - 1, C.xs[pos], -1, prev, cur, ?_, ?_, ?_, hD, by omega, by omega, ?_⟩, Cfg.keep ok htt hst⟩, htt⟩
      · rw [hrb, show r + 1 + (k - 1) = r + k by omega]; rfl
      · rw [ht.block _ (by simpa using Ne.symm ok.rb_bb), hb, show pos + 1 + (k - 1) = pos + k by omega]
      · rw [ht.block _ (by simpa using Ne.symm ok.rb_fb), hf]
      · intro j hj
        have := hcur (j + 1) (by omega)
        rw [show r + 1 + j = r + (j + 1) by omega, show pos + 1 + j = pos + (j + 1) by omega]; exact this

theorem byteB_end (C : Cfg) (ok : C.Ok) (w : World) (h : C.Rd C.xs.length w) :
    Calls Tryd.prog 30 #[.pointer (some ⟨C.rb, 0, none⟩)] w fun e w' => e = .returned (.tuple #[.int .u8 0, C.ev]) ∧ C.Rd C.xs.length w' ∧ Turned [C.rb, C.bb, C.fb] w w' := by
  obtain ⟨⟨r, k, lb, lr, prev, cur, hr, hb, hf, hD, hk, hpk, hcur⟩, hst⟩ := h
  obtain rfl : k = 0 := by omega
  obtain ⟨eo, hev⟩ := ok.eof
  refine (rb_end C.rb C.fb C.D C.bb r lb lr C.ev eo hev C.tr w (by simpa using hr) (fun W' => Turned [C.rb] w W') ?_).mono ?_
  · intro W hW hWr
    refine (fill_of C.rb C.fb C.D C.bb r 0 lb (-1) C.ev C.tr W (by omega) ok.D0 ok.D1 (by omega) (Or.inr ⟨rfl, eo, hev⟩) hWr (fun a b => Turned [C.rb] a b ∧ b.heap[C.rb]? = a.heap[C.rb]?) (fun a b hab => hab.2) ?_).mono ?_
    · intro W2 hW2
      have hW3 := hW.trans hW2
      have hb2 := (hW3.block C.bb (by simpa using Ne.symm ok.rb_bb)).trans hb
      refine (read_end C.bb C.xs.length C.cap C.p C.ev _ W2 (Int.le_refl _) ?_ ?_ eo hev ?_ _).mono ?_
      · rw [blk_cell hb2]; rfl
      · rw [blk_cell hb2]; rfl
      · rw [hW3.cell (by have := ok.rb0; simp; omega)]; exact hst.2
      · rintro e W4 ⟨rfl, q, rfl⟩
        exact ⟨rfl, (Turned.refl _ _).drewN _, rfl⟩
    · rintro e W' ⟨rfl, hWb', w1, ht1, w2, ⟨ht2, _⟩, ht3⟩
      exact ⟨rfl, by simpa using hWb', ((hW.trans ht1).trans ht2).trans ht3⟩
  · rintro e w' ⟨rfl, hrb, W, hW, hW'⟩
    have ht := hW.trans hW'
    have htt : Turned [C.rb, C.bb, C.fb] w w' := ht.mono (by simp)
    refine ⟨rfl, ⟨⟨0, 0, lb, -1, prev, cur, ?_, ?_, ?_, hD, by omega, by omega, fun j hj => by omega⟩, Cfg.keep ok htt hst⟩, htt⟩
    · rw [hrb]; rfl
    · rw [ht.block _ (by simpa using Ne.symm ok.rb_bb), hb]
    · rw [ht.block _ (by simpa using Ne.symm ok.rb_fb), hf]
end Go.Proofs.Qxb6609137aDoor
