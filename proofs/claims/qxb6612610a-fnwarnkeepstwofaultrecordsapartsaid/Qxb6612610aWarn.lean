import Derived.Test.Qxb6612610aRows
import Derived.WalkKit
import Derived.WalkSpells
import Derived.WalkLawsBesides
import Derived.StillTactics
import Derived.OwnWalk
import Derived.Laws.Pointers
import Derived.Deep.RegionLawGrows
import Derived.Deep.DrawnRows
import Derived.Deep.AppendLies
import Derived.Lib.SmallJoins
namespace Go.Proofs.Qxb6612610a.W
open Go.RowKit

attribute [local go_sem ↓] Go.wp_at_zero Go.wp_at_succ
theorem hide {p : Prop} (h : p) : Hid p := h
theorem info34 : (Try.prog.info? 34).map (fun i => (i.zero, i.size, i.bytes)) = some (some (.pointer none), 1, 8) := by kernel_rfl

/-- an error value that 'warn' is handed: a pointer to an Error, or nil -/
def ErrIs (err : Value) : Bool → Prop
  | true => ∃ a, err = .iface 34 (.pointer (some a))
  | false => err = .nilIface

/-- WHAT 'warn' DOES: the record's third cell holds the new row, one element longer; the new element is a new block; every other old block stands. -/
def Warned (B fb fo T n : Nat) (cs : Array Value) (file : ByteArray) (line : Int) (err v : Value) (xs : List Value) (w w' : World) : Prop :=
  ∃ g cap eb, w'.heap[fb]? = some (.cells (cs.setIfInBounds (fo + 2) (.slice (some ⟨g, 0, none⟩) (n + 1) cap)) T (0, 0)) ∧
    w'.ownsRow B 34 1 (.slice (some ⟨g, 0, none⟩) (n + 1) cap) (n + 1) (xs ++ [.pointer (some ⟨eb, 0, none⟩)]) ∧
    (v.ownBlock = some g ∨ w.heap.size ≤ g) ∧ w.heap.size ≤ eb ∧
    w'.heap[eb]? = some (.cells #[.string file, .int .i64 line, .string ⟨#[]⟩, err] 52 (0, 0)) ∧
    (∀ k, k < w.heap.size → k ≠ fb → some k ≠ v.ownBlock → w'.heap[k]? = w.heap[k]?) ∧
    w'.os = w.os ∧ w'.tape = w.tape ∧ w'.output = w.output ∧ w.heap.size ≤ w'.heap.size

theorem frozen_alloc {w : World} (o : Obj) {a : Addr} (h : a.block < w.heap.size) : (w.alloc o).frozen? a = w.frozen? a := World.frozen?_of_block (Below.heap_alloc w o a.block h)
theorem frz {w w1 : World} {o1 o2 : Obj} {v : Value} {fb off : Nat} (hgrow : ((w.alloc o1).alloc o2).drew.grownBy w1 v.ownBlock) (lf : fb < w.heap.size) (av : v.ownBlock ≠ some fb) (hz : w.frozen? ⟨fb, off, none⟩ = false) : w1.frozen? ⟨fb, off, none⟩ = false := by
  rw [hgrow.frozen_far ⟨fb, off, none⟩ (by simp; omega) (Ne.symm av)]
  show ((w.alloc o1).alloc o2).frozen? ⟨fb, off, none⟩ = false
  rw [frozen_alloc o2 (by simp; omega), frozen_alloc o1 lf]
  exact hz

theorem cell_alloc {w : World} (o : Obj) {a : Addr} (h : a.block < w.heap.size) : (w.alloc o).cell? a = w.cell? a := World.cell?_of_block (Below.heap_alloc w o a.block h)
theorem cfr {w w1 : World} {o1 o2 : Obj} {v u : Value} {fb off : Nat} (hgrow : ((w.alloc o1).alloc o2).drew.grownBy w1 v.ownBlock) (lf : fb < w.heap.size) (av : v.ownBlock ≠ some fb) (hz : w.cell? ⟨fb, off, none⟩ = some u) : w1.cell? ⟨fb, off, none⟩ = some u := by
  rw [hgrow.cell_far ⟨fb, off, none⟩ (by simp; omega) (Ne.symm av)]
  show ((w.alloc o1).alloc o2).cell? ⟨fb, off, none⟩ = some u
  rw [cell_alloc o2 (by simp; omega), cell_alloc o1 lf]
  exact hz

theorem heap_new2 (w : World) (o1 o2 : Obj) : (((w.alloc o1).alloc o2).drew).heap[w.heap.size + 1]? = some o2 := by
  show ((w.heap.push o1).push o2)[w.heap.size + 1]? = some o2
  rw [Array.getElem?_push, if_pos (by simp)]
theorem heap_old2 (w : World) (o1 o2 : Obj) {k : Nat} (h : k < w.heap.size) : (((w.alloc o1).alloc o2).drew).heap[k]? = w.heap[k]? := by
  show ((w.heap.push o1).push o2)[k]? = w.heap[k]?
  rw [Array.getElem?_push, if_neg (by simp; omega), Array.getElem?_push, if_neg (by omega)]
theorem heap_new1 (w : World) (o1 o2 : Obj) : (((w.alloc o1).alloc o2).drew).heap[w.heap.size]? = some o1 := by
  show ((w.heap.push o1).push o2)[w.heap.size]? = some o1
  rw [Array.getElem?_push, if_neg (by simp), Array.getElem?_push, if_pos rfl]
theorem warned_of {B fb fo T n gg cap : Nat} {cs : Array Value} {file : ByteArray} {line : Int} {err v : Value} {xs : List Value} {w w1 : World} {o2 : Obj}
    (hb : w.heap[fb]? = some (.cells cs T (0, 0))) (lf : fb < w.heap.size) (hown0 : w.ownsRow B 34 1 v n xs)
    (hown1 : w1.ownsRow B 34 1 (.slice (some ⟨gg, 0, none⟩) (n + 1) cap) (n + 1) (xs ++ [.pointer (some ⟨w.heap.size, 0, none⟩)]))
    (hgrow : ((w.alloc (.cells #[.string file, .int .i64 line, .string ⟨#[]⟩, err] 52)).alloc o2).drew.grownBy w1 v.ownBlock)
    (hat : v.ownBlock = some gg ∨ gg = w.heap.size + 2) (av : v.ownBlock ≠ some fb) :
    Warned B fb fo T n cs file line err v xs w (w1.setCell ⟨fb, fo + 2, none⟩ (.slice (some ⟨gg, 0, none⟩) (n + 1) cap)) := by
  have hvlt := hown0.lt
  have hsz := hgrow.size
  have hsz2 : w.heap.size + 2 ≤ w1.heap.size := by simpa using hsz
  have hbk : w1.heap[fb]? = some (.cells cs T (0, 0)) := by
    rw [hgrow.block fb (by simp; omega) (Ne.symm av), heap_old2 w _ _ lf, hb]
  have hev : some w.heap.size ≠ v.ownBlock := fun h => by have := (hvlt _ h.symm).2; omega
  have hg : gg ≠ fb := by
    rcases hat with h | h
    · intro e; subst e; exact av h
    · omega
  refine ⟨gg, cap, w.heap.size, Go.Joins.block_setCell hbk _, ?_, ?_, Nat.le_refl _, ?_, ?_, hgrow.os, hgrow.tape, hgrow.output, ?_⟩
  · refine ⟨hown1.1, .inr ?_⟩
    rcases hown1.2 with ⟨h, _⟩ | ⟨g', cap', cur, hv, h1, h2, h3⟩
    · cases h
    · have hgg : g' = gg := by injection hv with h; injection h with h; injection h with h; exact h.symm
      subst hgg
      exact ⟨g', cap', cur, hv, h1, by rw [heap_setCell_other _ _ _ _ hg, h2], h3⟩
  · rcases hat with h | h
    · exact .inl h
    · exact .inr (by omega)
  · rw [heap_setCell_other _ _ _ _ (by show w.heap.size ≠ fb; omega), hgrow.block _ (by simp; omega) hev, heap_new1]
  · intro k hk h1 h2
    rw [heap_setCell_other _ _ _ _ h1, hgrow.block k (by simp; omega) h2, heap_old2 w _ _ hk]
  · have : (w1.setCell ⟨fb, fo + 2, none⟩ (.slice (some ⟨gg, 0, none⟩) (n + 1) cap)).heap.size = w1.heap.size := by simp [World.setCell]
    rw [this]; omega

set_option maxRecDepth 100000 in
set_option maxHeartbeats 3200000 in
theorem warn_nil (B fb fo T n : Nat) (cs : Array Value) (file : ByteArray) (line : Int) (v : Value) (xs : List Value) (w : World)
    (hb : w.heap[fb]? = some (.cells cs T (0, 0))) (h0 : w.cell? ⟨fb, fo, none⟩ = some (.string file)) (h2 : w.cell? ⟨fb, fo + 2, none⟩ = some v) (hz2 : w.frozen? ⟨fb, fo + 2, none⟩ = false)
    (hown : w.ownsRow B 34 1 v n xs) (hB : B ≤ w.heap.size) (hn : n + 1 ≤ maxLen) (hby : (n + 1) * 8 ≤ 140737488355328) (av : v.ownBlock ≠ some fb) :
    Calls Try.prog 18 #[.pointer (some ⟨fb, fo, none⟩), .int .i64 line, .nilIface] w fun e w' => e = .returned (.tuple #[]) ∧ Warned B fb fo T n cs file line .nilIface v xs w w' := by
  obtain ⟨i0, hi0, hz0, hz1, hz3⟩ := info_parts info34
  have lf := World.block_lt_of_cell? w _ h0
  go_enter Try.func18, Try.ntmps18
  go_wp2_with fail
  go_region_law
    ((refine step_append_lies _ (by rfl) _ _ _ (by rfl) B 34 i0 _ 1 8 Try.underlying31 hi0 hz0 hz1 hz3 rfl (by omega) v n xs (by rfl) (((hown.alloc _).alloc _).drew)
        ⟨w.heap.size + 1, 0, none⟩ 1 1 [.pointer (some ⟨w.heap.size, 0, none⟩)] (by rfl) (by rfl) (World.news_of_block (cs := #[.pointer (some ⟨w.heap.size, 0, none⟩)]) (t := 34) (fr := (0, 0)) (heap_new2 w _ _)) (by simp [Value.oneCell'])
        (by omega) hn hby (by simp; omega) (w.heap.size + 2) (by simp) ?_; intro gg cap w1 hown1 hgrow hat hlt; have hzz := frz hgrow lf av hz2; have hcc := cfr hgrow lf av h2))
  all_goals (go_end0; exact ⟨rfl, warned_of hb lf hown hown1 hgrow hat av⟩)
set_option maxRecDepth 100000 in
set_option maxHeartbeats 3200000 in
theorem warn_err (a : Addr) (B fb fo T n : Nat) (cs : Array Value) (file : ByteArray) (line : Int) (v : Value) (xs : List Value) (w : World)
    (hb : w.heap[fb]? = some (.cells cs T (0, 0))) (h0 : w.cell? ⟨fb, fo, none⟩ = some (.string file)) (h2 : w.cell? ⟨fb, fo + 2, none⟩ = some v) (hz2 : w.frozen? ⟨fb, fo + 2, none⟩ = false)
    (hown : w.ownsRow B 34 1 v n xs) (hB : B ≤ w.heap.size) (hn : n + 1 ≤ maxLen) (hby : (n + 1) * 8 ≤ 140737488355328) (av : v.ownBlock ≠ some fb) :
    Calls Try.prog 18 #[.pointer (some ⟨fb, fo, none⟩), .int .i64 line, .iface 34 (.pointer (some a))] w fun e w' => e = .returned (.tuple #[]) ∧ Warned B fb fo T n cs file line (.iface 34 (.pointer (some a))) v xs w w' := by
  obtain ⟨i0, hi0, hz0, hz1, hz3⟩ := info_parts info34
  have lf := World.block_lt_of_cell? w _ h0
  go_enter Try.func18, Try.ntmps18
  go_wp2_with fail
  go_region_law
    ((refine step_append_lies _ (by rfl) _ _ _ (by rfl) B 34 i0 _ 1 8 Try.underlying31 hi0 hz0 hz1 hz3 rfl (by omega) v n xs (by rfl) (((hown.alloc _).alloc _).drew)
        ⟨w.heap.size + 1, 0, none⟩ 1 1 [.pointer (some ⟨w.heap.size, 0, none⟩)] (by rfl) (by rfl) (World.news_of_block (cs := #[.pointer (some ⟨w.heap.size, 0, none⟩)]) (t := 34) (fr := (0, 0)) (heap_new2 w _ _)) (by simp [Value.oneCell'])
        (by omega) hn hby (by simp; omega) (w.heap.size + 2) (by simp) ?_; intro gg cap w1 hown1 hgrow hat hlt; have hzz := frz hgrow lf av hz2; have hcc := cfr hgrow lf av h2))
  all_goals (go_end0; exact ⟨rfl, warned_of hb lf hown hown1 hgrow hat av⟩)
end Go.Proofs.Qxb6612610a.W
