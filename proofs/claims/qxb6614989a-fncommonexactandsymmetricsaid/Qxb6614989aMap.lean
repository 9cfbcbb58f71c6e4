/-
  zzMap: the entries laid into a map.
-/
import Derived.Test.Qxb6614989aBase
import Derived.Maps.Own
import Derived.Maps.OwnOps
import Derived.Maps.OwnSet
import Derived.Sort.KeysCollected
namespace Go.Proofs.Qxb6614989a
open Go.RowKit Go.WideMaps Go.Maps

theorem law9 : Keyed Try.prog 9 := string_keyed Try.underlying9
theorem zero33 (w : World) : (zeroValue 33).run Try.prog w = .ok (.int .u64 0) w := by kernel_rfl

abbrev u64D (n : Int) : DataW Unit := .lit (.int .u64 n)

/-- The entries as a map that is read: a later entry of a key overrides an earlier one. -/
def mapOf (es : List (Key × Int)) : DataW Unit := es.foldl (fun m t => m.put (.string t.1) (u64D t.2)) (.map [])
theorem mapOf_snoc (es : List (Key × Int)) (t : Key × Int) : mapOf (es ++ [t]) = (mapOf es).put (.string t.1) (u64D t.2) := by simp [mapOf, List.foldl_append]

/-- Block b is a map of at most n entries that reads as D. -/
abbrev MapAt (w : World) (b n : Nat) (D : DataW Unit) : Prop := w.ownsMap Try.prog 9 (plainElem Try.prog 33) b n D

/-- Each entry's key is a string that is read, each count a number that fits. -/
def Good (es : List (Key × Int)) : Prop := ∀ t ∈ es, t.1.length ≤ maxLen ∧ (Lit.int .u64 t.2).wf = true

theorem key_mk {k : Key} (h : k.length ≤ maxLen) : keyOf Try.prog 9 (encStr k) = some (.string k) := by
  have := keyOf_string_mk (s := ⟨k.toArray⟩) Try.underlying9 (by simpa [ByteArray.size] using h)
  simpa [encStr] using this

theorem run_makeMap_hint (n : Int) (w : World) : (Instr.makeMap 25 (some (.int .i64 n))).run Try.prog w = .ok (.map (some w.heap.size)) (w.alloc (.map #[] 0)) := by
  simp [Instr.makeMap, run_underlying Try.underlying25, asInt, asIntOf]

set_option maxHeartbeats 1000000 in
theorem zzMap_any (p : Option Addr) (n c : Nat) (es : List (Key × Int)) (hn : es.length = n) (h63 : n ≤ 1000000) (hg : Good es) (w : World) (hc : CameE w p es) :
    Calls Try.prog 7 #[.slice p n c] w fun e w' => e = .returned (.map (some w.heap.size)) ∧ MapAt w' w.heap.size n (mapOf es) ∧ Below w.heap.size w w' := by
  have HN : Hid (es.length = n) := hn
  have HC : Hid (CameE w p es) := hc
  have HG : Hid (Good es) := hg
  clear hn hc hg
  have hmm := run_makeMap_hint
  go_enter Try.func7, Try.ntmps7
  go_wp2
  clear hmm
  go_loopg [4] n (fun g i wr => ∃ k : Nat, k ≤ n ∧ g = n - k ∧ i = .int .i64 k ∧ MapAt wr w.heap.size k (mapOf (es.take k)) ∧ Below w.heap.size w wr)
  case atStart => exact ⟨0, Nat.zero_le _, rfl, rfl, World.ownsMap_made _ _ _ _, (Below.refl _ _).alloc (Nat.le_refl _) _⟩
  case round =>
    obtain ⟨k, hk, rfl, rfl, hM, hB⟩ := hrel
    have hk0 : (0 : Int) ≤ (k : Int) := by omega
    by_cases hlt : k < n
    · have hltI : (k : Int) < (n : Int) := by omega
      have hkx : k < es.length := by have := HN.out; omega
      obtain ⟨b, off, hix, g0, g1⟩ := HC.out.ix n c k HN.out hkx
      have hb0 : b < w.heap.size := World.block_lt_of_cell? w _ g0
      have hgk := HG.out _ (List.getElem_mem hkx)
      have HT : Hid (es.take (k + 1) = es.take k ++ [es[k]'hkx]) := List.take_succ_eq_append_getElem hkx
      have d0 : wr.cell? ⟨b, off + k * 2, none⟩ = some (encStr (es[k]'hkx).1) := by rw [hB.cell hb0]; exact g0
      have d1 : wr.cell? ⟨b, off + k * 2 + 1, none⟩ = some (.int .u64 (es[k]'hkx).2) := by rw [hB.cell hb0]; exact g1
      obtain ⟨w1, hrun, hM1, hg1⟩ := (World.ownsMap.drew hM).update law9 Try.underlying25 (by unfold maxLen; omega) (key_mk hgk.1) (plainElem_int Try.underlying33 hgk.2)
      have e0 : w1.cell? ⟨b, off + k * 2, none⟩ = some (encStr (es[k]'hkx).1) := by
        rw [World.cell?_of_block (a := ⟨b, off + k * 2, none⟩) (hg1.block b (Nat.lt_of_lt_of_le hb0 hB.size) (by simp; omega))]; exact d0
      have e1 : w1.cell? ⟨b, off + k * 2 + 1, none⟩ = some (.int .u64 (es[k]'hkx).2) := by
        rw [World.cell?_of_block (a := ⟨b, off + k * 2 + 1, none⟩) (hg1.block b (Nat.lt_of_lt_of_le hb0 hB.size) (by simp; omega))]; exact d1
      have HM1 : Hid (MapAt w1 w.heap.size (k + 1) (mapOf (es.take (k + 1)))) := by
        rw [HT.out, mapOf_snoc]; exact hM1
      have HB1 : Hid (Below w.heap.size w w1) := hB.drew.grown hg1 hB.size (by intro j e; cases e; exact Nat.le_refl _)
      clear g0 g1 hM hM1 hg1 hgk hB HT
      generalize (es[k]'hkx).1 = key at *
      generalize (es[k]'hkx).2 = val at *
      go_wp2
      go_region_held3 (fun w' => w'.cell? ⟨b, off + k * 2, none⟩ = some (encStr key) ∧ w'.cell? ⟨b, off + k * 2 + 1, none⟩ = some (.int .u64 val))
        (first | go_keep | (go_split_ands; exact ⟨e0, e1⟩)) (fail)
      go_wp2
      go_roundg (n - (k + 1))
      case rel => exact ⟨k + 1, hlt, rfl, by go_num, HM1.out, HB1.out⟩
      case measure => omega
    · have hnl : ¬ (k : Int) < (n : Int) := by omega
      have HK : Hid (k = n) := by show _ = _; omega
      go_wp2
      go_ret
      refine ⟨rfl, ?_, hB⟩
      have e : es.take k = es := List.take_of_length_le (by have := HN.out; omega)
      rw [e, HK.out] at hM; exact hM
end Go.Proofs.Qxb6614989a
