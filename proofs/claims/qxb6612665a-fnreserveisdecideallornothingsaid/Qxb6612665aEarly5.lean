import Derived.Test.Qxb6612665aMake
namespace Go.Proofs.Qxb6612665a.W
open Go.RowKit
set_option linter.unusedVariables false

set_option maxRecDepth 100000 in
set_option maxHeartbeats 4000000 in
theorem law5_early (a0 a1 a2 a3 a4 a5 a6 : Option Addr) (n0 c0 n1 c1 n2 c2 n3 c3 n4 c4 n5 c5 n6 c6 : Nat) (z7 z8 : Int) (w : World) (h : ¬ (n0 ≤ 8192 ∧ n1 = n0 ∧ n2 = n0 ∧ n3 = n0 ∧ n4 = n0 ∧ n5 = n0 ∧ n6 = n0)) :
    Calls Try.prog 5 #[.slice a0 n0 c0, .slice a1 n1 c1, .slice a2 n2 c2, .slice a3 n3 c3, .slice a4 n4 c4, .slice a5 n5 c5, .slice a6 n6 c6, .int .i64 z7, .int .i64 z8] w fun e w' => e = .returned (.bool true) ∧ Below w.heap.size w w' := by
  by_cases p0 : (n0 : Int) > 8192
  · clear h
    go_enter Try.func5, Try.ntmps5
    go_wp2_with fail
    refine (bytes11 a0 a1 a2 a3 a4 a5 a6 n0 c0 n1 c1 n2 c2 n3 c3 n4 c4 n5 c5 n6 c6 z7 z8 w).mono ?_
    rintro e w' ⟨r, rfl, rfl⟩
    cases r
    · go_wp2_with fail
      go_ret
      exact ⟨rfl, Below.refl _ _⟩
    · go_wp2_with fail
      go_ret
      exact ⟨rfl, Below.refl _ _⟩
  · skip
    by_cases p1 : (n1 : Int) > 8192
    · clear h
      go_enter Try.func5, Try.ntmps5
      go_wp2_with fail
      refine (bytes11 a0 a1 a2 a3 a4 a5 a6 n0 c0 n1 c1 n2 c2 n3 c3 n4 c4 n5 c5 n6 c6 z7 z8 w).mono ?_
      rintro e w' ⟨r, rfl, rfl⟩
      cases r
      · go_wp2_with fail
        go_ret
        exact ⟨rfl, Below.refl _ _⟩
      · go_wp2_with fail
        go_ret
        exact ⟨rfl, Below.refl _ _⟩
    · skip
      by_cases p2 : (n2 : Int) > 8192
      · clear h
        go_enter Try.func5, Try.ntmps5
        go_wp2_with fail
        refine (bytes11 a0 a1 a2 a3 a4 a5 a6 n0 c0 n1 c1 n2 c2 n3 c3 n4 c4 n5 c5 n6 c6 z7 z8 w).mono ?_
        rintro e w' ⟨r, rfl, rfl⟩
        cases r
        · go_wp2_with fail
          go_ret
          exact ⟨rfl, Below.refl _ _⟩
        · go_wp2_with fail
          go_ret
          exact ⟨rfl, Below.refl _ _⟩
      · skip
        by_cases p3 : (n3 : Int) > 8192
        · clear h
          go_enter Try.func5, Try.ntmps5
          go_wp2_with fail
          refine (bytes11 a0 a1 a2 a3 a4 a5 a6 n0 c0 n1 c1 n2 c2 n3 c3 n4 c4 n5 c5 n6 c6 z7 z8 w).mono ?_
          rintro e w' ⟨r, rfl, rfl⟩
          cases r
          · go_wp2_with fail
            go_ret
            exact ⟨rfl, Below.refl _ _⟩
          · go_wp2_with fail
            go_ret
            exact ⟨rfl, Below.refl _ _⟩
        · skip
          by_cases p4 : (n4 : Int) > 8192
          · clear h
            go_enter Try.func5, Try.ntmps5
            go_wp2_with fail
            refine (bytes11 a0 a1 a2 a3 a4 a5 a6 n0 c0 n1 c1 n2 c2 n3 c3 n4 c4 n5 c5 n6 c6 z7 z8 w).mono ?_
            rintro e w' ⟨r, rfl, rfl⟩
            cases r
            · go_wp2_with fail
              go_ret
              exact ⟨rfl, Below.refl _ _⟩
            · go_wp2_with fail
              go_ret
              exact ⟨rfl, Below.refl _ _⟩
          · skip
            by_cases p5 : (n5 : Int) > 8192
            · clear h
              go_enter Try.func5, Try.ntmps5
              go_wp2_with fail
              refine (bytes11 a0 a1 a2 a3 a4 a5 a6 n0 c0 n1 c1 n2 c2 n3 c3 n4 c4 n5 c5 n6 c6 z7 z8 w).mono ?_
              rintro e w' ⟨r, rfl, rfl⟩
              cases r
              · go_wp2_with fail
                go_ret
                exact ⟨rfl, Below.refl _ _⟩
              · go_wp2_with fail
                go_ret
                exact ⟨rfl, Below.refl _ _⟩
            · skip
              by_cases p6 : (n6 : Int) > 8192
              · clear h
                go_enter Try.func5, Try.ntmps5
                go_wp2_with fail
                refine (bytes11 a0 a1 a2 a3 a4 a5 a6 n0 c0 n1 c1 n2 c2 n3 c3 n4 c4 n5 c5 n6 c6 z7 z8 w).mono ?_
                rintro e w' ⟨r, rfl, rfl⟩
                cases r
                · go_wp2_with fail
                  go_ret
                  exact ⟨rfl, Below.refl _ _⟩
                · go_wp2_with fail
                  go_ret
                  exact ⟨rfl, Below.refl _ _⟩
              · skip
                by_cases q1 : n1 = n0
                · have e1 : ((n1 : Int) != (n0 : Int)) = false := by rw [q1]; simp
                  by_cases q2 : n2 = n0
                  · have e2 : ((n2 : Int) != (n0 : Int)) = false := by rw [q2]; simp
                    by_cases q3 : n3 = n0
                    · have e3 : ((n3 : Int) != (n0 : Int)) = false := by rw [q3]; simp
                      by_cases q4 : n4 = n0
                      · have e4 : ((n4 : Int) != (n0 : Int)) = false := by rw [q4]; simp
                        by_cases q5 : n5 = n0
                        · have e5 : ((n5 : Int) != (n0 : Int)) = false := by rw [q5]; simp
                          by_cases q6 : n6 = n0
                          · have e6 : ((n6 : Int) != (n0 : Int)) = false := by rw [q6]; simp
                            exact absurd ⟨by omega, q1, q2, q3, q4, q5, q6⟩ h
                          · have e6 : ((n6 : Int) != (n0 : Int)) = true := by simp; omega
                            clear h q1 q2 q3 q4 q5 q6
                            go_enter Try.func5, Try.ntmps5
                            go_wp2_with fail
                            refine (bytes11 a0 a1 a2 a3 a4 a5 a6 n0 c0 n1 c1 n2 c2 n3 c3 n4 c4 n5 c5 n6 c6 z7 z8 w).mono ?_
                            rintro e w' ⟨r, rfl, rfl⟩
                            cases r
                            · go_wp2_with fail
                              go_ret
                              exact ⟨rfl, Below.refl _ _⟩
                            · go_wp2_with fail
                              go_ret
                              exact ⟨rfl, Below.refl _ _⟩
                        · have e5 : ((n5 : Int) != (n0 : Int)) = true := by simp; omega
                          clear h q1 q2 q3 q4 q5
                          go_enter Try.func5, Try.ntmps5
                          go_wp2_with fail
                          refine (bytes11 a0 a1 a2 a3 a4 a5 a6 n0 c0 n1 c1 n2 c2 n3 c3 n4 c4 n5 c5 n6 c6 z7 z8 w).mono ?_
                          rintro e w' ⟨r, rfl, rfl⟩
                          cases r
                          · go_wp2_with fail
                            go_ret
                            exact ⟨rfl, Below.refl _ _⟩
                          · go_wp2_with fail
                            go_ret
                            exact ⟨rfl, Below.refl _ _⟩
                      · have e4 : ((n4 : Int) != (n0 : Int)) = true := by simp; omega
                        clear h q1 q2 q3 q4
                        go_enter Try.func5, Try.ntmps5
                        go_wp2_with fail
                        refine (bytes11 a0 a1 a2 a3 a4 a5 a6 n0 c0 n1 c1 n2 c2 n3 c3 n4 c4 n5 c5 n6 c6 z7 z8 w).mono ?_
                        rintro e w' ⟨r, rfl, rfl⟩
                        cases r
                        · go_wp2_with fail
                          go_ret
                          exact ⟨rfl, Below.refl _ _⟩
                        · go_wp2_with fail
                          go_ret
                          exact ⟨rfl, Below.refl _ _⟩
                    · have e3 : ((n3 : Int) != (n0 : Int)) = true := by simp; omega
                      clear h q1 q2 q3
                      go_enter Try.func5, Try.ntmps5
                      go_wp2_with fail
                      refine (bytes11 a0 a1 a2 a3 a4 a5 a6 n0 c0 n1 c1 n2 c2 n3 c3 n4 c4 n5 c5 n6 c6 z7 z8 w).mono ?_
                      rintro e w' ⟨r, rfl, rfl⟩
                      cases r
                      · go_wp2_with fail
                        go_ret
                        exact ⟨rfl, Below.refl _ _⟩
                      · go_wp2_with fail
                        go_ret
                        exact ⟨rfl, Below.refl _ _⟩
                  · have e2 : ((n2 : Int) != (n0 : Int)) = true := by simp; omega
                    clear h q1 q2
                    go_enter Try.func5, Try.ntmps5
                    go_wp2_with fail
                    refine (bytes11 a0 a1 a2 a3 a4 a5 a6 n0 c0 n1 c1 n2 c2 n3 c3 n4 c4 n5 c5 n6 c6 z7 z8 w).mono ?_
                    rintro e w' ⟨r, rfl, rfl⟩
                    cases r
                    · go_wp2_with fail
                      go_ret
                      exact ⟨rfl, Below.refl _ _⟩
                    · go_wp2_with fail
                      go_ret
                      exact ⟨rfl, Below.refl _ _⟩
                · have e1 : ((n1 : Int) != (n0 : Int)) = true := by simp; omega
                  clear h q1
                  go_enter Try.func5, Try.ntmps5
                  go_wp2_with fail
                  refine (bytes11 a0 a1 a2 a3 a4 a5 a6 n0 c0 n1 c1 n2 c2 n3 c3 n4 c4 n5 c5 n6 c6 z7 z8 w).mono ?_
                  rintro e w' ⟨r, rfl, rfl⟩
                  cases r
                  · go_wp2_with fail
                    go_ret
                    exact ⟨rfl, Below.refl _ _⟩
                  · go_wp2_with fail
                    go_ret
                    exact ⟨rfl, Below.refl _ _⟩
end Go.Proofs.Qxb6612665a.W
