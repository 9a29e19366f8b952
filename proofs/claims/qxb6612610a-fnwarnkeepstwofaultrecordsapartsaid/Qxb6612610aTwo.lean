import Derived.Test.Qxb6612610aBytes4
namespace Go.Proofs.Qxb6612610a.W
open Go.RowKit

/-! ### The steps that go to one record -/
def part (ln : Nat → Int) (he sec : Nat → Bool) (s : Bool) : Nat → List (Int × Bool)
  | 0 => []
  | k + 1 => if sec k = s then part ln he sec s k ++ [(ln k, he k)] else part ln he sec s k
theorem part_yes {ln : Nat → Int} {he sec : Nat → Bool} {s x : Bool} {k : Nat} (h : sec k = s) (hx : he k = x) : part ln he sec s (k + 1) = part ln he sec s k ++ [(ln k, x)] := by rw [part, if_pos h, hx]
theorem part_no {ln : Nat → Int} {he sec : Nat → Bool} {s : Bool} {k : Nat} (h : sec k ≠ s) : part ln he sec s (k + 1) = part ln he sec s k := by rw [part, if_neg h]
theorem part_len (ln : Nat → Int) (he sec : Nat → Bool) (s : Bool) (k : Nat) : (part ln he sec s k).length ≤ k := by
  induction k with
  | zero => exact Nat.le_refl _
  | succ k ih =>
    rw [part]
    split
    · simp; omega
    · omega
theorem part_more (ln : Nat → Int) (he sec : Nat → Bool) (s : Bool) (k d : Nat) : ∃ r, part ln he sec s (k + d) = part ln he sec s k ++ r := by
  induction d with
  | zero => exact ⟨[], by simp⟩
  | succ d ih =>
    obtain ⟨r, hr⟩ := ih
    show ∃ r, part ln he sec s (k + d + 1) = _
    rw [part]
    split
    · exact ⟨r ++ [(ln (k + d), he (k + d))], by rw [hr, List.append_assoc]⟩
    · exact ⟨r, hr⟩
/-- where the j-th step goes to the record: its place in the whole is the number of those before it -/
theorem part_at {ln : Nat → Int} {he sec : Nat → Bool} {s : Bool} {j n : Nat} (hj : j < n) (h : sec j = s) :
    ∃ hl : (part ln he sec s j).length < (part ln he sec s n).length, (part ln he sec s n)[(part ln he sec s j).length] = (ln j, he j) := by
  obtain ⟨r, hr⟩ := part_more ln he sec s (j + 1) (n - (j + 1))
  rw [show j + 1 + (n - (j + 1)) = n by omega, part_yes h rfl] at hr
  refine ⟨by rw [hr]; simp, ?_⟩
  simp [hr]
theorem part_succ_len {ln : Nat → Int} {he sec : Nat → Bool} {s : Bool} {k : Nat} (h : sec k = s) : (part ln he sec s (k + 1)).length = (part ln he sec s k).length + 1 := by rw [part_yes h rfl]; simp

/-! ### Two records side by side -/
structure Two (B f1 f2 : Nat) (n1 n2 : ByteArray) (L1 L2 : List (Int × Bool)) (v1 v2 : Value) (w : World) : Prop where
  one : Rec B f1 0 47 n1 L1 v1 w
  two : Rec B f2 0 47 n2 L2 v2 w
  apart : f1 ≠ f2
  rows : ∀ g, v1.ownBlock = some g → v2.ownBlock ≠ some g

theorem Two.alloc {B f1 f2 : Nat} {n1 n2 : ByteArray} {L1 L2 : List (Int × Bool)} {v1 v2 : Value} {w : World} (h : Two B f1 f2 n1 n2 L1 L2 v1 v2 w) (o : Obj) : Two B f1 f2 n1 n2 L1 L2 v1 v2 (w.alloc o) :=
  ⟨rec_alloc h.one o, rec_alloc h.two o, h.apart, h.rows⟩

theorem Two.first {B f1 f2 : Nat} {n1 n2 : ByteArray} {L1 L2 L1' : List (Int × Bool)} {v1 v2 v1' : Value} {w w' : World} (h : Two B f1 f2 n1 n2 L1 L2 v1 v2 w) (hR : Rec B f1 0 47 n1 L1' v1' w') (hT : Took B f1 v1 v1' w w') : Two B f1 f2 n1 n2 L1' L2 v1' v2 w' := by
  obtain ⟨cs, c1, _⟩ := h.one.block
  obtain ⟨xs, x1, _⟩ := h.one.row
  obtain ⟨ys, y1, _⟩ := h.two.row
  refine ⟨hR, rec_other h.two hT (Ne.symm h.apart) (fun g hg hg' => h.rows g hg' hg) x1 c1 h.one.kind, h.apart, fun g hg hg' => ?_⟩
  rcases hT.lies g hg with hq | hq
  · exact h.rows g hq hg'
  · have := (y1.lt g hg').2; omega
theorem Two.second {B f1 f2 : Nat} {n1 n2 : ByteArray} {L1 L2 L2' : List (Int × Bool)} {v1 v2 v2' : Value} {w w' : World} (h : Two B f1 f2 n1 n2 L1 L2 v1 v2 w) (hR : Rec B f2 0 47 n2 L2' v2' w') (hT : Took B f2 v2 v2' w w') : Two B f1 f2 n1 n2 L1 L2' v1 v2' w' := by
  obtain ⟨cs, c1, _⟩ := h.two.block
  obtain ⟨xs, x1, _⟩ := h.two.row
  obtain ⟨ys, y1, _⟩ := h.one.row
  refine ⟨rec_other h.one hT h.apart h.rows x1 c1 h.two.kind, hR, h.apart, fun g hg hg' => ?_⟩
  rcases hT.lies g hg' with hq | hq
  · exact h.rows g hg hq
  · have := (y1.lt g hg).2; omega

theorem below_took {B fb fo T : Nat} {file : ByteArray} {L : List (Int × Bool)} {v v' : Value} {w wr w' : World} (h : Rec B fb fo T file L v wr) (HB : Below B w wr) (hT : Took B fb v v' wr w') : Below B w w' := by
  obtain ⟨cs, c1, _⟩ := h.block
  obtain ⟨xs, x1, _⟩ := h.row
  have := block_lt c1
  have := h.base
  exact took_below HB hT h.base x1 (by omega)

/-- A record's row, read, its address a letter. -/
theorem rec_read' {B fb fo T : Nat} {file : ByteArray} {L : List (Int × Bool)} {v : Value} {w : World} (h : Rec B fb fo T file L v w) :
    ∃ ao cap, v = .slice ao L.length cap ∧ ∀ i (hi : i < L.length), ∃ g eb err, ao = some ⟨g, 0, none⟩ ∧ w.cell? ⟨g, i, none⟩ = some (.pointer (some ⟨eb, 0, none⟩)) ∧
      w.heap[eb]? = some (.cells #[.string file, .int .i64 L[i].1, .string ⟨#[]⟩, err] 52 (0, 0)) ∧ ErrIs err L[i].2 := by
  rcases rec_read h with ⟨hv, h0⟩ | ⟨g, cap, hv, hE⟩
  · exact ⟨none, 0, by rw [hv, h0], fun i hi => by omega⟩
  · refine ⟨some ⟨g, 0, none⟩, cap, hv, fun i hi => ?_⟩
    obtain ⟨eb, err, h1, h2, h3⟩ := hE i hi
    exact ⟨g, eb, err, rfl, h1, h2, h3⟩

theorem step_second {B f1 f2 k : Nat} {n1 n2 : ByteArray} {ln : Nat → Int} {he sec : Nat → Bool} {x : Bool} {v1 v2 v' : Value} {w wr w' : World} {o : Obj}
    (HK : Two B f1 f2 n1 n2 (part ln he sec false k) (part ln he sec true k) v1 v2 wr) (HB : Below B w wr) (hB : B ≤ wr.heap.size) (hx : he k = x) (hs : sec k = true)
    (hR : Rec B f2 0 47 n2 (part ln he sec true k ++ [(ln k, x)]) v' w') (hT : Took B f2 v2 v' (wr.alloc o) w') :
    Hid (Two B f1 f2 n1 n2 (part ln he sec false (k + 1)) (part ln he sec true (k + 1)) v1 v' w') ∧ Hid (Below B w w') := by
  refine ⟨?_, ?_⟩
  · show Two _ _ _ _ _ _ _ _ _ _
    rw [part_yes hs hx, part_no (by rw [hs]; decide)]
    exact (HK.alloc o).second hR hT
  · exact below_took (HK.alloc o).two (HB.alloc hB o) hT
theorem step_first {B f1 f2 k : Nat} {n1 n2 : ByteArray} {ln : Nat → Int} {he sec : Nat → Bool} {x : Bool} {v1 v2 v' : Value} {w wr w' : World} {o : Obj}
    (HK : Two B f1 f2 n1 n2 (part ln he sec false k) (part ln he sec true k) v1 v2 wr) (HB : Below B w wr) (hB : B ≤ wr.heap.size) (hx : he k = x) (hs : sec k = false)
    (hR : Rec B f1 0 47 n1 (part ln he sec false k ++ [(ln k, x)]) v' w') (hT : Took B f1 v1 v' (wr.alloc o) w') :
    Hid (Two B f1 f2 n1 n2 (part ln he sec false (k + 1)) (part ln he sec true (k + 1)) v' v2 w') ∧ Hid (Below B w w') := by
  refine ⟨?_, ?_⟩
  · show Two _ _ _ _ _ _ _ _ _ _
    rw [part_yes hs hx, part_no (by rw [hs]; decide)]
    exact (HK.alloc o).first hR hT
  · exact below_took (HK.alloc o).one (HB.alloc hB o) hT

theorem matches_quiet0 (eb : Nat) (file : ByteArray) (line : Int) (b : Bool) (err : Value) (w : World) (n : Nat) (hb : w.heap[eb]? = some (.cells #[.string file, .int .i64 line, .string ⟨#[]⟩, err] 52 (0, 0))) (he : ErrIs err b) :
    Calls Try.prog 11 #[.pointer (some ⟨eb, 0, none⟩), .string file, .int .i64 line, .bool b] (w.drewN n) fun e w'' => e = .returned (.bool true) ∧ ∃ m, w'' = w.drewN m :=
  (matches_any eb file line b err (w.drewN n) hb he).mono fun _ _ ⟨h, hw⟩ => ⟨h, n, hw.symm⟩
theorem block_later {wr w2 : World} {o : Obj} {eb : Nat} {q : Obj} (hb : Below wr.heap.size wr w2) (h : wr.heap[eb]? = some q) : (w2.alloc o).heap[eb]? = some q := by
  have hlt := block_lt h
  have := hb.size
  rw [Below.heap_alloc w2 o eb (by omega), hb.block eb hlt, h]
theorem cell_later2 {wr w2 : World} {a : Addr} {u : Value} (hb : Below wr.heap.size wr w2) (h : wr.cell? a = some u) : w2.cell? a = some u := by
  rw [hb.cell (World.block_lt_of_cell? wr _ h)]; exact h

theorem cell_later3 {wr w2 : World} {a : Addr} {u : Value} {o : Obj} (hb : Below wr.heap.size wr w2) (h : wr.cell? a = some u) : (w2.alloc o).cell? a = some u := by
  have h1 := cell_later2 hb h
  rw [cell_alloc o (World.block_lt_of_cell? w2 _ h1)]; exact h1

set_option maxHeartbeats 1000000 in
theorem big6_over (a : Option Addr) (len cap : Nat) (x : Int) (w : World) (hx : 1048576 < x) :
    Calls Try.prog 6 #[.slice a len cap, .int .i64 x] w fun e w' => e = .returned (.bool true) ∧ w = w' := by
  go_enter Try.func6, Try.ntmps6
  go_wp2
  go_ret
  exact ⟨rfl, rfl⟩
end Go.Proofs.Qxb6612610a.W
