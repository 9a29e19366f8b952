import Derived.Test.Qxb6612610aWarn
import Derived.Deep.QuietTactic
import Derived.BigQuiet
namespace Go.Proofs.Qxb6612610a.W
open Go.RowKit

/-- A RECORD OF FAULTS at ⟨fb, fo⟩ in a block of type T: its file, its row v of warnings, which are L: of each its line and whether a fault was handed in. -/
structure Rec (B fb fo T : Nat) (file : ByteArray) (L : List (Int × Bool)) (v : Value) (w : World) : Prop where
  block : ∃ cs, w.heap[fb]? = some (.cells cs T (0, 0)) ∧ cs[fo]? = some (.string file) ∧ cs[fo + 2]? = some v
  row : ∃ xs, w.ownsRow B 34 1 v L.length xs ∧ ∀ i (h : i < L.length), ∃ eb err, xs[i]? = some (.pointer (some ⟨eb, 0, none⟩)) ∧
    w.heap[eb]? = some (.cells #[.string file, .int .i64 L[i].1, .string ⟨#[]⟩, err] 52 (0, 0)) ∧ ErrIs err L[i].2
  base : B ≤ fb
  kind : T ≠ 34 ∧ T ≠ 52

theorem block_lt {w : World} {k : Nat} {o : Obj} (h : w.heap[k]? = some o) : k < w.heap.size := by
  rcases Nat.lt_or_ge k w.heap.size with hlt | hge
  · exact hlt
  · rw [Array.getElem?_eq_none hge] at h; cases h

/-- what lies in v's own row's block -/
theorem own_kind {w : World} {B n : Nat} {v : Value} {xs : List Value} (h : w.ownsRow B 34 1 v n xs) {g : Nat} (hg : v.ownBlock = some g) : ∃ cur, w.heap[g]? = some (.cells cur 34 (0, 0)) := by
  rcases h.2 with ⟨rfl, _⟩ | ⟨g', cap, cur, rfl, _, h2, _⟩
  · cases hg
  · injection hg with e; subst e; exact ⟨cur, h2⟩
theorem own_ne {w : World} {B n : Nat} {v : Value} {xs : List Value} (h : w.ownsRow B 34 1 v n xs) {k T : Nat} {cs : Array Value} (hk : w.heap[k]? = some (.cells cs T (0, 0))) (hT : T ≠ 34) : v.ownBlock ≠ some k := by
  intro e
  obtain ⟨cur, hc⟩ := own_kind h e
  rw [hk] at hc
  injection hc with hc
  injection hc with _ hc
  exact hT hc

theorem Warned.of_alloc {B fb fo T n : Nat} {cs : Array Value} {file : ByteArray} {line : Int} {err v : Value} {xs : List Value} {w w' : World} (o : Obj) (h : Warned B fb fo T n cs file line err v xs (w.alloc o) w') : Warned B fb fo T n cs file line err v xs w w' := by
  obtain ⟨g, cap, eb, h1, h2, h3, h4, h5, h6, h7, h8, h9, h10⟩ := h
  have hs : (w.alloc o).heap.size = w.heap.size + 1 := by simp
  refine ⟨g, cap, eb, h1, h2, ?_, by omega, h5, ?_, h7, h8, h9, by omega⟩
  · rcases h3 with h | h
    · exact .inl h
    · exact .inr (by omega)
  · intro k hk a b
    rw [h6 k (by omega) a b, Below.heap_alloc w o k hk]

/-- what became of the world when the record at fb, its row v, took one warning more -/
structure Took (B fb : Nat) (v v' : Value) (w w' : World) : Prop where
  keeps : ∀ k, k < w.heap.size → k ≠ fb → some k ≠ v.ownBlock → w'.heap[k]? = w.heap[k]?
  lies : ∀ g, v'.ownBlock = some g → v.ownBlock = some g ∨ w.heap.size ≤ g
  os : w'.os = w.os
  tape : w'.tape = w.tape
  output : w'.output = w.output
  size : w.heap.size ≤ w'.heap.size

theorem rec_step {B fb fo T : Nat} {cs : Array Value} {file : ByteArray} {L : List (Int × Bool)} {line : Int} {b : Bool} {err v : Value} {xs : List Value} {w w' : World}
    (hcs : w.heap[fb]? = some (.cells cs T (0, 0)) ∧ cs[fo]? = some (.string file) ∧ cs[fo + 2]? = some v)
    (hx : w.ownsRow B 34 1 v L.length xs) (hxs : ∀ i (h : i < L.length), ∃ eb err, xs[i]? = some (.pointer (some ⟨eb, 0, none⟩)) ∧
      w.heap[eb]? = some (.cells #[.string file, .int .i64 L[i].1, .string ⟨#[]⟩, err] 52 (0, 0)) ∧ ErrIs err L[i].2)
    (hB : B ≤ fb) (hT : T ≠ 34 ∧ T ≠ 52) (he : ErrIs err b)
    (h : Warned B fb fo T L.length cs file line err v xs w w') : ∃ v', Rec B fb fo T file (L ++ [(line, b)]) v' w' ∧ Took B fb v v' w w' := by
  obtain ⟨g, cap, eb, h1, h2, h3, h4, h5, h6, h7, h8, h9, h10⟩ := h
  obtain ⟨c1, c2, c3⟩ := hcs
  have hsz : fo + 2 < cs.size := by
    rcases Nat.lt_or_ge (fo + 2) cs.size with hlt | hge
    · exact hlt
    · rw [Array.getElem?_eq_none hge] at c3; cases c3
  refine ⟨_, ⟨⟨_, h1, ?_, ?_⟩, ⟨xs ++ [.pointer (some ⟨eb, 0, none⟩)], by simpa using h2, ?_⟩, hB, hT⟩, ⟨h6, ?_, h7, h8, h9, h10⟩⟩
  · rw [Array.getElem?_setIfInBounds_ne (by omega)]; exact c2
  · rw [Array.getElem?_setIfInBounds_self, if_pos hsz]
  · intro i hi
    have hl : xs.length = L.length := by simpa using hx.1
    by_cases hlt : i < L.length
    · obtain ⟨e, er, q1, q2, q3⟩ := hxs i hlt
      refine ⟨e, er, ?_, ?_, ?_⟩
      · rw [List.getElem?_append_left (by omega)]; exact q1
      · have hne : e ≠ fb := by
          intro hh; subst hh
          rw [c1] at q2; injection q2 with q2; injection q2 with _ q2
          exact hT.2 q2
        rw [h6 e (block_lt q2) hne (Ne.symm (own_ne hx q2 (by decide))), q2]
        simp [List.getElem_append_left hlt]
      · simpa [List.getElem_append_left hlt] using q3
    · have hi' : i = L.length := by simp at hi; omega
      subst hi'
      refine ⟨eb, err, ?_, ?_, ?_⟩
      · rw [List.getElem?_append_right (by omega), hl]; simp
      · rw [h5]; simp
      · simpa using he
  · intro g' hg'
    injection hg' with hg'
    subst hg'
    exact h3

theorem rec_other {B fb fo T fb2 : Nat} {file : ByteArray} {L : List (Int × Bool)} {v v2 v2' : Value} {w w' : World} (h : Rec B fb fo T file L v w) (hT : Took B fb2 v2 v2' w w') (hne : fb ≠ fb2)
    (hv : ∀ g, v.ownBlock = some g → v2.ownBlock ≠ some g) {x2 : List Value} {n2 : Nat} (ho2 : w.ownsRow B 34 1 v2 n2 x2) {cs2 : Array Value} {T2 : Nat} (hb2 : w.heap[fb2]? = some (.cells cs2 T2 (0, 0))) (hT2 : T2 ≠ 34 ∧ T2 ≠ 52) : Rec B fb fo T file L v w' := by
  obtain ⟨⟨cs, c1, c2, c3⟩, ⟨xs, x1, xe⟩, hB, hK⟩ := h
  refine ⟨⟨cs, ?_, c2, c3⟩, ⟨xs, ?_, ?_⟩, hB, hK⟩
  · rw [hT.keeps fb (block_lt c1) hne (Ne.symm (own_ne ho2 c1 hK.1)), c1]
  · refine ⟨x1.1, ?_⟩
    rcases x1.2 with h | ⟨g, cap, cur, rfl, q2, q3, q4⟩
    · exact .inl h
    · have hg2 : g ≠ fb2 := by
        intro hh; subst hh
        rw [hb2] at q3; injection q3 with q3; injection q3 with _ q3
        exact hT2.1 q3
      exact .inr ⟨g, cap, cur, rfl, q2, by rw [hT.keeps g (block_lt q3) hg2 (Ne.symm (hv g rfl)), q3], q4⟩
  · intro i hi
    obtain ⟨e, er, q1, q2, q3⟩ := xe i hi
    have hne' : e ≠ fb2 := by
      intro hh; subst hh
      rw [hb2] at q2; injection q2 with q2; injection q2 with _ q2
      exact hT2.2 q2
    exact ⟨e, er, q1, by rw [hT.keeps e (block_lt q2) hne' (Ne.symm (own_ne ho2 q2 (by decide))), q2], q3⟩

theorem took_below {B fb : Nat} {v v' : Value} {W w w' : World} {xs : List Value} {n : Nat} (h : Below B W w) (hT : Took B fb v v' w w') (hB : B ≤ fb) (ho : w.ownsRow B 34 1 v n xs) (hs : B ≤ w.heap.size) : Below B W w' :=
  h.trans ⟨hT.os, hT.tape, hT.output, hT.size, fun k hk => hT.keeps k (by omega) (by omega) (fun e => by have := (ho.lt k e.symm).1; omega)⟩

theorem rec_alloc {B fb fo T : Nat} {file : ByteArray} {L : List (Int × Bool)} {v : Value} {w : World} (h : Rec B fb fo T file L v w) (o : Obj) : Rec B fb fo T file L v (w.alloc o) := by
  obtain ⟨⟨cs, c1, c2, c3⟩, ⟨xs, x1, xe⟩, hB, hK⟩ := h
  refine ⟨⟨cs, by rw [Below.heap_alloc w o _ (block_lt c1), c1], c2, c3⟩, ⟨xs, x1.alloc o, fun i hi => ?_⟩, hB, hK⟩
  obtain ⟨e, er, q1, q2, q3⟩ := xe i hi
  exact ⟨e, er, q1, by rw [Below.heap_alloc w o _ (block_lt q2), q2], q3⟩
theorem took_alloc {B fb : Nat} {v v' : Value} {w w' : World} (o : Obj) (h : Took B fb v v' (w.alloc o) w') : Took B fb v v' w w' := by
  obtain ⟨h6, h3, h7, h8, h9, h10⟩ := h
  have hs : (w.alloc o).heap.size = w.heap.size + 1 := by simp
  refine ⟨fun k hk a b => by rw [h6 k (by omega) a b, Below.heap_alloc w o k hk], fun g hg => ?_, h7, h8, h9, by omega⟩
  rcases h3 g hg with h | h
  · exact .inl h
  · exact .inr (by omega)

theorem warn_rec (B fb fo T : Nat) (file : ByteArray) (L : List (Int × Bool)) (line : Int) (b : Bool) (err v : Value) (w : World) (he : ErrIs err b) (h : Rec B fb fo T file L v w) (hB : B ≤ w.heap.size) (hL : L.length ≤ 32768) :
    Calls Try.prog 18 #[.pointer (some ⟨fb, fo, none⟩), .int .i64 line, err] w fun e w' => e = .returned (.tuple #[]) ∧ ∃ v', Rec B fb fo T file (L ++ [(line, b)]) v' w' ∧ Took B fb v v' w w' := by
  obtain ⟨⟨cs, c1, c2, c3⟩, ⟨xs, x1, xe⟩, hfb, hK⟩ := h
  have hm : L.length + 1 ≤ maxLen := by unfold maxLen; omega
  have k0 : w.cell? ⟨fb, fo, none⟩ = some (.string file) := by rw [cell_of_row w fb fo cs T (0, 0) c1, c2]
  have k2 : w.cell? ⟨fb, fo + 2, none⟩ = some v := by rw [cell_of_row w fb (fo + 2) cs T (0, 0) c1, c3]
  have z2 : w.frozen? ⟨fb, fo + 2, none⟩ = false := by simp [World.frozen?, c1]
  have av := own_ne x1 c1 hK.1
  cases b with
  | false =>
    have he' : err = .nilIface := he
    subst he'
    refine (warn_nil B fb fo T L.length cs file line v xs w c1 k0 k2 z2 x1 hB hm (by omega) av).mono ?_
    rintro e w' ⟨rfl, hw⟩
    exact ⟨rfl, rec_step ⟨c1, c2, c3⟩ x1 xe hfb hK he hw⟩
  | true =>
    obtain ⟨a, rfl⟩ := he
    refine (warn_err a B fb fo T L.length cs file line v xs w c1 k0 k2 z2 x1 hB hm (by omega) av).mono ?_
    rintro e w' ⟨rfl, hw⟩
    exact ⟨rfl, rec_step ⟨c1, c2, c3⟩ x1 xe hfb hK ⟨a, rfl⟩ hw⟩

theorem prevNil (B pb : Nat) (file : ByteArray) (L : List (Int × Bool)) (line : Int) (v : Value) (w : World) (h : Rec B pb 4 61 file L v w) (hB : B ≤ w.heap.size) (hL : L.length ≤ 32768) :
    Calls Try.prog 17 #[.pointer (some ⟨pb, 0, none⟩), .int .i64 line] w fun e w' => e = .returned (.tuple #[]) ∧ ∃ v', Rec B pb 4 61 file (L ++ [(line, false)]) v' w' ∧ Took B pb v v' w w' := by
  go_enter Try.func17, Try.ntmps17
  go_wp2_with fail
  refine (warn_rec B pb 4 61 file L line false .nilIface v _ rfl h hB hL).mono ?_
  rintro e w' ⟨rfl, hw⟩
  have HW := hide hw
  clear hw
  go_wp2_with fail
  go_end0
  exact ⟨rfl, HW⟩
theorem prevErr (B pb : Nat) (file col : ByteArray) (L : List (Int × Bool)) (line : Int) (v : Value) (w : World) (h : Rec B pb 4 61 file L v w) (hB : B ≤ w.heap.size) (hL : L.length ≤ 32768) :
    Calls Try.prog 16 #[.pointer (some ⟨pb, 0, none⟩), .int .i64 line, .string col] w fun e w' => e = .returned (.tuple #[]) ∧ ∃ v', Rec B pb 4 61 file (L ++ [(line, true)]) v' w' ∧ Took B pb v v' w w' := by
  go_enter Try.func16, Try.ntmps16
  go_wp2_with fail
  refine (warn_rec B pb 4 61 file L line true _ v _ ⟨_, rfl⟩ (rec_alloc h _) (by simp; omega) hL).mono ?_
  rintro e w' ⟨rfl, v', h1, h2⟩
  have HW := hide (⟨v', h1, took_alloc _ h2⟩ : ∃ v', Rec B pb 4 61 file (L ++ [(line, true)]) v' w' ∧ Took B pb v v' w w')
  clear h1 h2
  go_wp2_with fail
  go_end0
  exact ⟨rfl, HW⟩
theorem faultsNil (B pb : Nat) (file : ByteArray) (L : List (Int × Bool)) (line : Int) (v : Value) (w : World) (h : Rec B pb 0 47 file L v w) (hB : B ≤ w.heap.size) (hL : L.length ≤ 32768) :
    Calls Try.prog 9 #[.pointer (some ⟨pb, 0, none⟩), .int .i64 line] w fun e w' => e = .returned (.tuple #[]) ∧ ∃ v', Rec B pb 0 47 file (L ++ [(line, false)]) v' w' ∧ Took B pb v v' w w' := by
  go_enter Try.func9, Try.ntmps9
  go_wp2_with fail
  refine (warn_rec B pb 0 47 file L line false .nilIface v _ rfl h hB hL).mono ?_
  rintro e w' ⟨rfl, hw⟩
  have HW := hide hw
  clear hw
  go_wp2_with fail
  go_end0
  exact ⟨rfl, HW⟩
theorem faultsErr (B pb : Nat) (file col : ByteArray) (L : List (Int × Bool)) (line : Int) (v : Value) (w : World) (h : Rec B pb 0 47 file L v w) (hB : B ≤ w.heap.size) (hL : L.length ≤ 32768) :
    Calls Try.prog 8 #[.pointer (some ⟨pb, 0, none⟩), .int .i64 line, .string col] w fun e w' => e = .returned (.tuple #[]) ∧ ∃ v', Rec B pb 0 47 file (L ++ [(line, true)]) v' w' ∧ Took B pb v v' w w' := by
  go_enter Try.func8, Try.ntmps8
  go_wp2_with fail
  refine (warn_rec B pb 0 47 file L line true _ v _ ⟨_, rfl⟩ (rec_alloc h _) (by simp; omega) hL).mono ?_
  rintro e w' ⟨rfl, v', h1, h2⟩
  have HW := hide (⟨v', h1, took_alloc _ h2⟩ : ∃ v', Rec B pb 0 47 file (L ++ [(line, true)]) v' w' ∧ Took B pb v v' w w')
  clear h1 h2
  go_wp2_with fail
  go_end0
  exact ⟨rfl, HW⟩
theorem newPrev (B : Nat) (file : ByteArray) (w : World) (hB : B ≤ w.heap.size) :
    Calls Try.prog 14 #[.string file] w fun e w' => e = .returned (.pointer (some ⟨w.heap.size, 0, none⟩)) ∧ ∃ o, w' = w.alloc o ∧ Rec B w.heap.size 4 61 file [] (.slice none 0 0) (w.alloc o) := by
  go_enter Try.func14, Try.ntmps14
  go_wp2_with fail
  go_ret
  refine ⟨rfl, _, rfl, ⟨⟨_, heap_alloc_new w _, by simp, by simp⟩, ⟨[], World.ownsRow_nil _ _ _ _, fun i hi => by simp at hi⟩, hB, by decide, by decide⟩⟩
theorem newFaults (B : Nat) (file : ByteArray) (w : World) (hB : B ≤ w.heap.size) :
    Calls Try.prog 7 #[.string file] w fun e w' => e = .returned (.pointer (some ⟨w.heap.size, 0, none⟩)) ∧ ∃ o, w' = w.alloc o ∧ Rec B w.heap.size 0 47 file [] (.slice none 0 0) (w.alloc o) := by
  go_enter Try.func7, Try.ntmps7
  go_wp2_with fail
  go_ret
  refine ⟨rfl, _, rfl, ⟨⟨_, heap_alloc_new w _, by simp, by simp⟩, ⟨[], World.ownsRow_nil _ _ _ _, fun i hi => by simp at hi⟩, hB, by decide, by decide⟩⟩
theorem warnings_any (B pb : Nat) (file : ByteArray) (L : List (Int × Bool)) (v : Value) (w : World) (h : Rec B pb 4 61 file L v w) :
    Calls Try.prog 15 #[.pointer (some ⟨pb, 0, none⟩)] w fun e w' => e = .returned v ∧ w = w' := by
  obtain ⟨⟨cs, c1, c2, c3⟩, _⟩ := h
  have k2 : w.cell? ⟨pb, 6, none⟩ = some v := by rw [cell_of_row w pb 6 cs 61 (0, 0) c1]; exact c3
  clear c1 c2 c3
  go_enter Try.func15, Try.ntmps15
  go_wp2_with fail
  go_ret
  exact ⟨rfl, rfl⟩
theorem fwarnings_any (B pb : Nat) (file : ByteArray) (L : List (Int × Bool)) (v : Value) (w : World) (h : Rec B pb 0 47 file L v w) :
    Calls Try.prog 10 #[.pointer (some ⟨pb, 0, none⟩)] w fun e w' => e = .returned v ∧ w = w' := by
  obtain ⟨⟨cs, c1, c2, c3⟩, _⟩ := h
  have k2 : w.cell? ⟨pb, 2, none⟩ = some v := by rw [cell_of_row w pb 2 cs 47 (0, 0) c1]; exact c3
  clear c1 c2 c3
  go_enter Try.func10, Try.ntmps10
  go_wp2_with fail
  go_ret
  exact ⟨rfl, rfl⟩
theorem matches_any (eb : Nat) (file : ByteArray) (line : Int) (b : Bool) (err : Value) (w : World) (hb : w.heap[eb]? = some (.cells #[.string file, .int .i64 line, .string ⟨#[]⟩, err] 52 (0, 0))) (he : ErrIs err b) :
    Calls Try.prog 11 #[.pointer (some ⟨eb, 0, none⟩), .string file, .int .i64 line, .bool b] w fun e w' => e = .returned (.bool true) ∧ w = w' := by
  have k0 : w.cell? ⟨eb, 0, none⟩ = some (.string file) := by rw [cell_of_row w eb 0 _ 52 (0, 0) hb]; rfl
  have k1 : w.cell? ⟨eb, 1, none⟩ = some (.int .i64 line) := by rw [cell_of_row w eb 1 _ 52 (0, 0) hb]; rfl
  have k2 : w.cell? ⟨eb, 2, none⟩ = some (.string ⟨#[]⟩) := by rw [cell_of_row w eb 2 _ 52 (0, 0) hb]; rfl
  have k3 : w.cell? ⟨eb, 3, none⟩ = some err := by rw [cell_of_row w eb 3 _ 52 (0, 0) hb]; rfl
  clear hb
  cases b with
  | false =>
    have he' : err = .nilIface := he
    subst he'
    clear he
    go_enter Try.func11, Try.ntmps11
    go_wp2_with fail
    go_ret
    exact ⟨by simp, rfl⟩
  | true =>
    obtain ⟨a, rfl⟩ := he
    go_enter Try.func11, Try.ntmps11
    go_wp2_with fail
    go_ret
    exact ⟨by simp, rfl⟩
theorem matches_quiet (eb : Nat) (file : ByteArray) (line : Int) (b : Bool) (err : Value) (w : World) (n' n : Nat) (hb : w.heap[eb]? = some (.cells #[.string file, .int .i64 line, .string ⟨#[]⟩, err] 52 (0, 0))) (he : ErrIs err b) :
    Calls Try.prog 11 #[.pointer (some ⟨eb, 0, none⟩), .string file, .int .i64 line, .bool b] (w.drewN (n' + n)) fun e w'' => e = .returned (.bool true) ∧ ∃ m, w'' = w.drewN (n' + m) :=
  (matches_any eb file line b err (w.drewN (n' + n)) hb he).mono fun _ _ ⟨h, hw⟩ => ⟨h, n, hw.symm⟩

/-- A record's row, read: nil where it is empty; else its elements, in order. -/
theorem rec_read {B fb fo T : Nat} {file : ByteArray} {L : List (Int × Bool)} {v : Value} {w : World} (h : Rec B fb fo T file L v w) :
    (v = .slice none 0 0 ∧ L.length = 0) ∨ ∃ g cap, v = .slice (some ⟨g, 0, none⟩) L.length cap ∧ ∀ i (hi : i < L.length), ∃ eb err, w.cell? ⟨g, i, none⟩ = some (.pointer (some ⟨eb, 0, none⟩)) ∧
      w.heap[eb]? = some (.cells #[.string file, .int .i64 L[i].1, .string ⟨#[]⟩, err] 52 (0, 0)) ∧ ErrIs err L[i].2 := by
  obtain ⟨xs, x1, xe⟩ := h.row
  have hc := fun g hg => World.ownsRow.cells x1 (g := g) hg
  rcases x1.2 with ⟨h1, h2⟩ | ⟨g, cap, cur, rfl, _⟩
  · exact .inl ⟨h1, h2⟩
  · refine .inr ⟨g, cap, rfl, fun i hi => ?_⟩
    obtain ⟨eb, err, q1, q2, q3⟩ := xe i hi
    refine ⟨eb, err, ?_, q2, q3⟩
    have := hc g rfl i _ q1
    have e : (⟨g, 0, none⟩ : Addr).add i = ⟨g, i, none⟩ := by unfold Addr.add; split <;> simp_all
    rwa [e] at this
end Go.Proofs.Qxb6612610a.W
