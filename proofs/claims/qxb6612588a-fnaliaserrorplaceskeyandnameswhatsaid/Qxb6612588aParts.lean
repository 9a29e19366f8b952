import Derived.Test.Qxb6612588aRows
import Derived.WalkKit
import Derived.WalkSpells
import Derived.WalkLawsBesides
import Derived.RegionTactic
import Derived.ChangeAlike
import Derived.RowKit3
namespace Go.Proofs.Qxb6612588a.W
open Go.RowKit

theorem hide {p : Prop} (h : p) : Hid p := h
theorem is_key (a : Addr) (w : World) : (Instr.typeAssert (.iface 27 (.pointer (some a))) 37 27 true).run Try.prog w = .ok (.tuple #[.pointer (some a), .bool true]) w := by kernel_rfl
/-- the frame round what is refused: its head -/
def pre : ByteArray := ⟨#[109, 97, 121, 32, 110, 111, 116, 32, 98, 101, 32, 97, 110, 32, 97, 108, 105, 97, 115, 32, 111, 102, 32]⟩

/-- .. and its foot -/
def suf : ByteArray := ⟨#[58, 32, 97, 110, 32, 97, 108, 105, 97, 115, 32, 109, 97, 121, 32, 115, 116, 97, 110, 100, 32, 111, 110, 108, 121, 32, 102, 111, 114, 32, 97, 32, 115, 105, 110, 103, 108, 101, 32, 118, 97, 108, 117, 101, 44, 32, 115, 117, 99, 104, 32, 97, 115, 32, 97, 32, 110, 117, 109, 98, 101, 114, 44, 32, 97, 32, 100, 97, 116, 101, 32, 111, 114, 32, 97, 32, 119, 111, 114, 100]⟩
/-- the reason that the error gives -/
def reason (what : ByteArray) : ByteArray := pre ++ what ++ suf

set_option maxHeartbeats 400000 in
theorem alias_any (key what : ByteArray) (line col : Int) (hw : what.size ≤ 1048576) (w : World) :
    Calls Try.prog 11 #[.string key, .int .i64 line, .int .i64 col, .string what] w fun e w' => e = .returned (.pointer (some ⟨w.heap.size, 0, none⟩)) ∧ w.alloc (.cells #[.string key, .int .i64 line, .int .i64 col, .string (reason what)] 30) = w' := by
  have hk := is_key
  go_enter Try.func11, Try.ntmps11
  go_wp2
  go_ret
  exact ⟨rfl, rfl⟩

theorem data_append (a b : ByteArray) : (a ++ b).data.toList = a.data.toList ++ b.data.toList := by
  simp [ByteArray.data_append]
theorem size_len (a : ByteArray) : a.size = a.data.toList.length := by
  rw [Array.length_toList]; rfl
theorem data_reason (what : ByteArray) : (reason what).data.toList = pre.data.toList ++ (what.data.toList ++ suf.data.toList) := by
  unfold reason; rw [data_append, data_append, List.append_assoc]
theorem pre_len : pre.data.toList.length = 23 := by decide +kernel
theorem suf_len : suf.data.toList.length = 80 := by decide +kernel
theorem reason_size (what : ByteArray) : (reason what).size = 23 + what.size + 80 := by
  rw [size_len, data_reason, List.length_append, List.length_append, pre_len, suf_len, size_len]; omega
theorem ba_ext {a b : ByteArray} (h : a.data.toList = b.data.toList) : a = b := by
  apply ByteArray.ext
  exact Array.ext' h
theorem reason_inj {a b : ByteArray} (h : reason a = reason b) : a = b := by
  have := congrArg (fun x : ByteArray => x.data.toList) h
  simp only [data_reason] at this
  have h2 := List.append_cancel_left this
  exact ba_ext (List.append_cancel_right h2)
end Go.Proofs.Qxb6612588a.W
