/-
  THE FRAME OF THE SEAT's WALKS: 'Turned S w w'': between w and w' the blocks of S alone have turned (and the tape's count); blocks that are known whole; 'copy' into such a block as a step of a region.
-/
import Derived.Test.Qxb6609137aDoorRows
import Derived.WalkKit
import Derived.WalkSpells
import Derived.WalkLawsBesides
import Derived.Deep.QuietTactic
import Derived.BigQuiet
import Derived.Deep.RegionHeld3
import Derived.Laws.CopyOwn
namespace Go.Proofs.Qxb6609137aDoor
open Go.RowKit

structure Turned (S : List Nat) (w w' : World) : Prop where
  os : w'.os = w.os
  tape : w'.tape = w.tape
  output : w'.output = w.output
  size : w'.heap.size = w.heap.size
  block : ∀ k, k ∉ S → w'.heap[k]? = w.heap[k]?

theorem Turned.refl (S : List Nat) (w : World) : Turned S w w := ⟨rfl, rfl, rfl, rfl, fun _ _ => rfl⟩
theorem Turned.trans {S : List Nat} {a b c : World} (h : Turned S a b) (k : Turned S b c) : Turned S a c :=
  ⟨k.os.trans h.os, k.tape.trans h.tape, k.output.trans h.output, k.size.trans h.size, fun i hi => (k.block i hi).trans (h.block i hi)⟩
theorem Turned.mono {S S' : List Nat} {w w' : World} (h : Turned S w w') (hs : ∀ k, k ∈ S → k ∈ S') : Turned S' w w' :=
  ⟨h.os, h.tape, h.output, h.size, fun k hk => h.block k (fun hm => hk (hs k hm))⟩
theorem Turned.drew {S : List Nat} {a w : World} (h : Turned S a w) : Turned S a w.drew := ⟨h.os, h.tape, h.output, h.size, h.block⟩
theorem Turned.drewN {S : List Nat} {a w : World} (h : Turned S a w) (n : Nat) : Turned S a (w.drewN n) := ⟨h.os, h.tape, h.output, h.size, h.block⟩
theorem Turned.setCell {S : List Nat} {a w : World} (h : Turned S a w) {p : Addr} (hp : p.block ∈ S) (u : Value) : Turned S a (w.setCell p u) :=
  h.trans ⟨rfl, rfl, rfl, by simp [World.setCell], fun k hk => Below.heap_setCell _ _ _ _ (fun e => hk (e ▸ hp))⟩
theorem Turned.cell {S : List Nat} {w w' : World} (h : Turned S w w') {p : Addr} (hp : p.block ∉ S) : w'.cell? p = w.cell? p := World.cell?_of_block (w := w) (h.block p.block hp)
theorem Turned.frozen {S : List Nat} {w w' : World} (h : Turned S w w') {p : Addr} (hp : p.block ∉ S) : w'.frozen? p = w.frozen? p := World.frozen?_of_block (w := w) (h.block p.block hp)
theorem Turned.below {S : List Nat} {w w' : World} (h : Turned S w w') {B : Nat} (hB : ∀ k, k ∈ S → B ≤ k) : Below B w w' :=
  ⟨h.os, h.tape, h.output, Nat.le_of_eq h.size.symm, fun k hk => h.block k (fun hm => by have := hB k hm; omega)⟩

theorem blk_cell {w : World} {b : Nat} {c : Array Value} {t : TypeId} {fr : Nat × Nat} (h : w.heap[b]? = some (.cells c t fr)) (k : Nat) : w.cell? ⟨b, k, none⟩ = c[k]? := by
  simp [World.cell?, h]
theorem blk_frozen {w : World} {b : Nat} {c : Array Value} {t : TypeId} (h : w.heap[b]? = some (.cells c t (0, 0))) (k : Nat) : w.frozen? ⟨b, k, none⟩ = false := by
  simp [World.frozen?, h]
theorem blk_set {w : World} {b : Nat} {c : Array Value} {t : TypeId} {fr : Nat × Nat} (h : w.heap[b]? = some (.cells c t fr)) (k : Nat) (v : Value) : (w.setCell ⟨b, k, none⟩ v).heap[b]? = some (.cells (c.setIfInBounds k v) t fr) := by
  simp [World.setCell, Array.getElem?_modify, h]
theorem blk_set_other {w : World} {b g : Nat} (k : Nat) (v : Value) (h : b ≠ g) : (w.setCell ⟨g, k, none⟩ v).heap[b]? = w.heap[b]? := Below.heap_setCell _ _ _ _ h
theorem blk_lt {w : World} {b : Nat} {o : Obj} (h : w.heap[b]? = some o) : b < w.heap.size := (Array.getElem?_eq_some_iff.1 h).1

theorem turned_setRow {g : Nat} {w : World} (cs : Array Value) : Turned [g] w (w.setRow g cs) :=
  ⟨rfl, rfl, rfl, by simp, fun k hk => setRow_other w g k cs (by simpa using hk)⟩

/-- 'copy' into a block that is known whole, as one step of a region; the world behind is a letter. -/
theorem step_copy_turned {P : Program} {ops : Array Oper} {o : Oper} {a : Act} {w : World} {K : Act → World → Prop} {Q : Exit → Act → World → Prop} {E : Prop} (hgd : o.guard = none) (d s : Operand) (dT sT : TypeId)
    (ho : o.op = .call { callee := .builtin .copy, args := #[d, s], argTypes := #[dT, sT] }) (elem : TypeId) (hu : P.underlying dT = some (.slice elem)) (hsz : (P.info? elem).map (·.size) = some 1)
    (dp sp : Option Addr) (dLen dCap sLen sCap : Nat) (hd : a.eval d = .slice dp dLen dCap) (hs : a.eval s = .slice sp sLen sCap)
    (g off : Nat) (cur : List Value) (t : TypeId) (hg : w.heap[g]? = some (.cells cur.toArray t (0, 0))) (cs : List Value) (hn : cs.length = Nat.min sLen dLen)
    (hpos : 0 < cs.length → dp = some ⟨g, off, none⟩ ∧ ∃ ad, sp = some ad ∧ ∀ j v, cs[j]? = some v → w.cell? (ad.add j) = some v)
    (hfit : off + cs.length ≤ cur.length) (h1 : ∀ v ∈ cs, v.oneCell' = true)
    (h : ∀ w', Hid (w'.heap[g]? = some (.cells (splice cur off cs).toArray t (0, 0))) → Hid (Turned [g] w w') → K (a.put o.dst (goInt cs.length)) w') :
    if Region.wanted o (yielded ops a.tmps) = true then Oper.wp P o a w K Q else E := by
  have hw : Region.wanted o (yielded ops a.tmps) = true := by simp [Region.wanted, hgd]
  rw [if_pos hw]
  by_cases h0 : cs.length = 0
  · obtain rfl : cs = [] := List.eq_nil_of_length_eq_zero h0
    have hrun := run_copy_none (P := P) w dT sT o.type elem dp sp dLen dCap sLen sCap hu hsz (by simpa using hn.symm)
    unfold Oper.wp
    simp [execOp, ho, resolve, invoke, builtin, hd, hs, hrun, Result.andThen]
    exact h w (show _ = _ by simpa [splice] using hg) (Turned.refl _ _)
  · obtain ⟨rfl, ad, rfl, hsrc⟩ := hpos (by omega)
    have hrun := run_copy_row (P := P) w dT sT o.type elem g off dLen dCap ad sLen sCap cur.toArray t cs hu hsz hg hn hsrc (by simpa using hfit) h1
    unfold Oper.wp
    simp [execOp, ho, resolve, invoke, builtin, hd, hs, hrun, Result.andThen]
    exact h _ (show _ = _ by simpa [splice] using setRow_heap w g _ _ t _ hg) (turned_setRow _)

theorem Tryd.size5 : (Tryd.prog.info? 5).map (·.size) = some 1 := by kernel_rfl
end Go.Proofs.Qxb6609137aDoor
