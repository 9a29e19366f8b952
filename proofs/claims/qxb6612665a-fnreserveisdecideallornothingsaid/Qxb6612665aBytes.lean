import Derived.Test.Qxb6612665aFits
namespace Go.Proofs.Qxb6612665a.W
open Go.RowKit
set_option linter.unusedVariables false

/-- it answers, and the world stands -/
def BPost (w : World) (e : Ending) (w' : World) : Prop := ∃ r, e = .returned (.bool r) ∧ w = w'

set_option maxRecDepth 100000 in
set_option maxHeartbeats 2000000 in
theorem bytes11 (a0 a1 a2 a3 a4 a5 a6 : Option Addr) (n0 c0 n1 c1 n2 c2 n3 c3 n4 c4 n5 c5 n6 c6 : Nat) (z0 z1 : Int) (w : World) :
    Calls Try.prog 11 #[.slice a0 n0 c0, .slice a1 n1 c1, .slice a2 n2 c2, .slice a3 n3 c3, .slice a4 n4 c4, .slice a5 n5 c5, .slice a6 n6 c6, .int .i64 z0, .int .i64 z1] w fun e w' => BPost w e w' := by
  by_cases p0 : (n0 : Int) > 1048576
  · go_enter Try.func11, Try.ntmps11
    go_wp2_with fail
    go_ret
    exact ⟨_, rfl, rfl⟩
  by_cases p1 : (n1 : Int) > 1048576
  · go_enter Try.func11, Try.ntmps11
    go_wp2_with fail
    go_ret
    exact ⟨_, rfl, rfl⟩
  by_cases q1 : (n0 : Int) + (n1 : Int) > 1048576
  · go_enter Try.func11, Try.ntmps11
    go_wp2_with fail
    go_ret
    exact ⟨_, rfl, rfl⟩
  by_cases p2 : (n2 : Int) > 1048576
  · go_enter Try.func11, Try.ntmps11
    go_wp2_with fail
    go_ret
    exact ⟨_, rfl, rfl⟩
  by_cases q2 : (n0 : Int) + (n1 : Int) + (n2 : Int) > 1048576
  · go_enter Try.func11, Try.ntmps11
    go_wp2_with fail
    go_ret
    exact ⟨_, rfl, rfl⟩
  by_cases p3 : (n3 : Int) > 1048576
  · go_enter Try.func11, Try.ntmps11
    go_wp2_with fail
    go_ret
    exact ⟨_, rfl, rfl⟩
  by_cases q3 : (n0 : Int) + (n1 : Int) + (n2 : Int) + (n3 : Int) > 1048576
  · go_enter Try.func11, Try.ntmps11
    go_wp2_with fail
    go_ret
    exact ⟨_, rfl, rfl⟩
  by_cases p4 : (n4 : Int) > 1048576
  · go_enter Try.func11, Try.ntmps11
    go_wp2_with fail
    go_ret
    exact ⟨_, rfl, rfl⟩
  by_cases q4 : (n0 : Int) + (n1 : Int) + (n2 : Int) + (n3 : Int) + (n4 : Int) > 1048576
  · go_enter Try.func11, Try.ntmps11
    go_wp2_with fail
    go_ret
    exact ⟨_, rfl, rfl⟩
  by_cases p5 : (n5 : Int) > 1048576
  · go_enter Try.func11, Try.ntmps11
    go_wp2_with fail
    go_ret
    exact ⟨_, rfl, rfl⟩
  by_cases q5 : (n0 : Int) + (n1 : Int) + (n2 : Int) + (n3 : Int) + (n4 : Int) + (n5 : Int) > 1048576
  · go_enter Try.func11, Try.ntmps11
    go_wp2_with fail
    go_ret
    exact ⟨_, rfl, rfl⟩
  by_cases p6 : (n6 : Int) > 1048576
  · go_enter Try.func11, Try.ntmps11
    go_wp2_with fail
    go_ret
    exact ⟨_, rfl, rfl⟩
  by_cases q6 : (n0 : Int) + (n1 : Int) + (n2 : Int) + (n3 : Int) + (n4 : Int) + (n5 : Int) + (n6 : Int) > 1048576
  · go_enter Try.func11, Try.ntmps11
    go_wp2_with fail
    go_ret
    exact ⟨_, rfl, rfl⟩
  go_enter Try.func11, Try.ntmps11
  go_wp2_with fail
  go_ret
  exact ⟨_, rfl, rfl⟩

set_option maxRecDepth 100000 in
set_option maxHeartbeats 2000000 in
theorem bytes20 (a0 a1 a2 a3 a4 a5 a6 : Option Addr) (n0 c0 n1 c1 n2 c2 n3 c3 n4 c4 n5 c5 n6 c6 : Nat) (z0 z1 z2 : Int) (w : World) :
    Calls Try.prog 20 #[.slice a0 n0 c0, .slice a1 n1 c1, .slice a2 n2 c2, .slice a3 n3 c3, .slice a4 n4 c4, .slice a5 n5 c5, .slice a6 n6 c6, .int .i64 z0, .int .i64 z1, .int .i64 z2] w fun e w' => BPost w e w' := by
  by_cases p0 : (n0 : Int) > 1048576
  · go_enter Try.func20, Try.ntmps20
    go_wp2_with fail
    go_ret
    exact ⟨_, rfl, rfl⟩
  by_cases p1 : (n1 : Int) > 1048576
  · go_enter Try.func20, Try.ntmps20
    go_wp2_with fail
    go_ret
    exact ⟨_, rfl, rfl⟩
  by_cases q1 : (n0 : Int) + (n1 : Int) > 1048576
  · go_enter Try.func20, Try.ntmps20
    go_wp2_with fail
    go_ret
    exact ⟨_, rfl, rfl⟩
  by_cases p2 : (n2 : Int) > 1048576
  · go_enter Try.func20, Try.ntmps20
    go_wp2_with fail
    go_ret
    exact ⟨_, rfl, rfl⟩
  by_cases q2 : (n0 : Int) + (n1 : Int) + (n2 : Int) > 1048576
  · go_enter Try.func20, Try.ntmps20
    go_wp2_with fail
    go_ret
    exact ⟨_, rfl, rfl⟩
  by_cases p3 : (n3 : Int) > 1048576
  · go_enter Try.func20, Try.ntmps20
    go_wp2_with fail
    go_ret
    exact ⟨_, rfl, rfl⟩
  by_cases q3 : (n0 : Int) + (n1 : Int) + (n2 : Int) + (n3 : Int) > 1048576
  · go_enter Try.func20, Try.ntmps20
    go_wp2_with fail
    go_ret
    exact ⟨_, rfl, rfl⟩
  by_cases p4 : (n4 : Int) > 1048576
  · go_enter Try.func20, Try.ntmps20
    go_wp2_with fail
    go_ret
    exact ⟨_, rfl, rfl⟩
  by_cases q4 : (n0 : Int) + (n1 : Int) + (n2 : Int) + (n3 : Int) + (n4 : Int) > 1048576
  · go_enter Try.func20, Try.ntmps20
    go_wp2_with fail
    go_ret
    exact ⟨_, rfl, rfl⟩
  by_cases p5 : (n5 : Int) > 1048576
  · go_enter Try.func20, Try.ntmps20
    go_wp2_with fail
    go_ret
    exact ⟨_, rfl, rfl⟩
  by_cases q5 : (n0 : Int) + (n1 : Int) + (n2 : Int) + (n3 : Int) + (n4 : Int) + (n5 : Int) > 1048576
  · go_enter Try.func20, Try.ntmps20
    go_wp2_with fail
    go_ret
    exact ⟨_, rfl, rfl⟩
  by_cases p6 : (n6 : Int) > 1048576
  · go_enter Try.func20, Try.ntmps20
    go_wp2_with fail
    go_ret
    exact ⟨_, rfl, rfl⟩
  by_cases q6 : (n0 : Int) + (n1 : Int) + (n2 : Int) + (n3 : Int) + (n4 : Int) + (n5 : Int) + (n6 : Int) > 1048576
  · go_enter Try.func20, Try.ntmps20
    go_wp2_with fail
    go_ret
    exact ⟨_, rfl, rfl⟩
  go_enter Try.func20, Try.ntmps20
  go_wp2_with fail
  go_ret
  exact ⟨_, rfl, rfl⟩
end Go.Proofs.Qxb6612665a.W
