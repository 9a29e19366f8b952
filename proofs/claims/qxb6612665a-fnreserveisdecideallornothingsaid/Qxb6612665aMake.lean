import Derived.Test.Qxb6612665aBytes
import Derived.Laws.MakeOwn
import Derived.KernelRfl
namespace Go.Proofs.Qxb6612665a.W
open Go.RowKit
set_option linter.unusedVariables false

theorem make_any (t e : TypeId) (z : Value) (size bytes : Nat) (ht : Try.prog.underlying t = some (.slice e)) (hinfo : (Try.prog.info? e).map (fun i => (i.zero, i.size, i.bytes)) = some (some z, size, bytes)) (hb : bytes ≤ 1024) (n : Nat) (hn : n ≤ 8192) (w : World) :
    (Instr.makeSlice t (.int .i64 (n : Int)) (.int .i64 (n : Int))).run Try.prog w = .ok (.slice (some ⟨w.heap.size, 0, none⟩) n n) (w.alloc (.cells (madeCells z.cells (n * size)) e)) := by
  obtain ⟨i, hi, hzz⟩ := Option.map_eq_some_iff.1 hinfo
  simp only [Prod.mk.injEq] at hzz
  obtain ⟨hz, hs, hb'⟩ := hzz
  have hbytes : (i.bytes : Int) * (n : Int) ≤ 281474976710656 := by
    have h : i.bytes * n ≤ 1024 * 8192 := Nat.mul_le_mul (by omega) hn
    have h2 : ((i.bytes * n : Nat) : Int) ≤ 281474976710656 := by omega
    rwa [Int.natCast_mul] at h2
  have h := run_make (P := Try.prog) w t e i z ht hi hz .i64 .i64 n n (by omega) (by omega) hbytes (by omega)
  rw [Int.toNat_natCast, hs] at h
  exact h
theorem make34 (n : Nat) (hn : n ≤ 8192) (w : World) : (Instr.makeSlice 34 (.int .i64 (n : Int)) (.int .i64 (n : Int))).run Try.prog w = .ok (.slice (some ⟨w.heap.size, 0, none⟩) n n) (w.alloc (.cells (madeCells #[.pointer none, .bool false, .int .i64 0, .int .u64 0, .int .u64 0] (n * 5)) 40)) :=
  make_any 34 40 (.agg #[.pointer none, .bool false, .int .i64 0, .int .u64 0, .int .u64 0]) 5 40 (by kernel_rfl) (by kernel_rfl) (by omega) n hn w
theorem make41 (n : Nat) (hn : n ≤ 8192) (w : World) : (Instr.makeSlice 41 (.int .i64 (n : Int)) (.int .i64 (n : Int))).run Try.prog w = .ok (.slice (some ⟨w.heap.size, 0, none⟩) n n) (w.alloc (.cells (madeCells #[.bool false, .int .i64 0, .int .i64 0, .int .i64 0, .int .i64 0] (n * 5)) 49)) :=
  make_any 41 49 (.agg #[.bool false, .int .i64 0, .int .i64 0, .int .i64 0, .int .i64 0]) 5 40 (by kernel_rfl) (by kernel_rfl) (by omega) n hn w
theorem make42 (n : Nat) (hn : n ≤ 8192) (w : World) : (Instr.makeSlice 42 (.int .i64 (n : Int)) (.int .i64 (n : Int))).run Try.prog w = .ok (.slice (some ⟨w.heap.size, 0, none⟩) n n) (w.alloc (.cells (madeCells #[.int .i64 0, .int .u64 0] (n * 2)) 38)) :=
  make_any 42 38 (.agg #[.int .i64 0, .int .u64 0]) 2 16 (by kernel_rfl) (by kernel_rfl) (by omega) n hn w
theorem make33 (n : Nat) (hn : n ≤ 8192) (w : World) : (Instr.makeSlice 33 (.int .i64 (n : Int)) (.int .i64 (n : Int))).run Try.prog w = .ok (.slice (some ⟨w.heap.size, 0, none⟩) n n) (w.alloc (.cells (madeCells #[.pointer none] (n * 1)) 35)) :=
  make_any 33 35 (.pointer none) 1 8 (by kernel_rfl) (by kernel_rfl) (by omega) n hn w
theorem make30 (n : Nat) (hn : n ≤ 8192) (w : World) : (Instr.makeSlice 30 (.int .i64 (n : Int)) (.int .i64 (n : Int))).run Try.prog w = .ok (.slice (some ⟨w.heap.size, 0, none⟩) n n) (w.alloc (.cells (madeCells #[.bool false] (n * 1)) 4)) :=
  make_any 30 4 (.bool false) 1 1 (by kernel_rfl) (by kernel_rfl) (by omega) n hn w
theorem make22 (n : Nat) (hn : n ≤ 8192) (w : World) : (Instr.makeSlice 22 (.int .i64 (n : Int)) (.int .i64 (n : Int))).run Try.prog w = .ok (.slice (some ⟨w.heap.size, 0, none⟩) n n) (w.alloc (.cells (madeCells #[.int .i64 0] (n * 1)) 2)) :=
  make_any 22 2 (.int .i64 0) 1 8 (by kernel_rfl) (by kernel_rfl) (by omega) n hn w

/-- a new row's cells are there, and may be written -/
theorem made_there (w : World) (z : Array Value) (m : Nat) (e : TypeId) (o : Nat) (ho : o < m) : ((w.alloc (.cells (madeCells z m) e)).cell? ⟨w.heap.size, o, none⟩).isSome = true ∧ (w.alloc (.cells (madeCells z m) e)).frozen? ⟨w.heap.size, o, none⟩ = false := by
  refine ⟨?_, World.frozen?_alloc_new w _ e o⟩
  rw [new_cell0 w _ e o]
  rw [Array.getElem?_eq_getElem (by rw [size_madeCells]; exact ho)]
  rfl
theorem made_ready (w : World) (z : Array Value) (n : Nat) (e : TypeId) (i : Nat) (hi : i < n) : Ready w.heap.size (i * 5) (w.alloc (.cells (madeCells z (n * 5)) e)) := fun j hj => made_there w z (n * 5) e (i * 5 + j) (by omega)
theorem made_ready2 (w : World) (z : Array Value) (n : Nat) (e : TypeId) (i : Nat) (hi : i < n) : Ready2 w.heap.size (i * 2) (w.alloc (.cells (madeCells z (n * 2)) e)) := fun j hj => made_there w z (n * 2) e (i * 2 + j) (by omega)
end Go.Proofs.Qxb6612665a.W
