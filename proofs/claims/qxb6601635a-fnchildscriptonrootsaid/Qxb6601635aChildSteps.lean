import Derived.Test.Qxb6601635aChildSmall
namespace Go.Proofs.Qxb6601635a.child
open Go.RowKit Go.Maps
set_option linter.unusedVariables false

/-- a row of steps from the place off of block b on -/
def StepsAt (w : World) (b off : Nat) (sts : List Step) : Prop := ∀ j (hj : j < sts.length), w.cell? ⟨b, off + j * 2, none⟩ = some (.string sts[j].1) ∧ w.cell? ⟨b, off + j * 2 + 1, none⟩ = some (.int .i64 sts[j].2)
/-- the answer is a bool; if it is false, p -/
def Ans (e : Ending) (p : Prop) : Prop := ∃ t : Bool, e = .returned (.bool t) ∧ (t = false → p)

theorem tooBig_any (b off cap : Nat) (sts : List Step) (w : World) (hn : sts.length ≤ maxLen) (h : StepsAt w b off sts) :
    Calls Try.prog 12 #[.slice (some ⟨b, off, none⟩) sts.length cap] w fun e w' => Ans e (sts.length ≤ 4096) ∧ w' = w := by
  unfold maxLen at hn
  by_cases hb : 4096 < sts.length
  · go_enter Try.func12, Try.ntmps12
    go_wp2
    go_ret
    exact ⟨⟨true, rfl, fun h => by cases h⟩, rfl⟩
  · go_enter Try.func12, Try.ntmps12
    go_wp2
    go_loop [3, 4] (fun t i => ∃ (k : Nat) (q : Int), k ≤ sts.length ∧ i = .int .i64 k ∧ t = .int .i64 q) (fun _ i => sts.length - (intOf i).toNat)
    case atStart => exact ⟨0, _, Nat.zero_le _, rfl, rfl⟩
    case round =>
      obtain ⟨k, q, hk, rfl, rfl⟩ := hrel
      by_cases hlt : k < sts.length
      · have hc := (h k hlt).1
        go_wp2
        · go_ret
          exact ⟨⟨true, rfl, fun h => by cases h⟩, rfl⟩
        · go_round
          case rel => exact ⟨k + 1, _, by omega, by go_num, rfl⟩
          case measure => simp [intOf]; omega
      · go_wp2
        go_ret
        exact ⟨⟨false, rfl, fun _ => by omega⟩, rfl⟩
theorem tooBig_none (a : Option Addr) (cap : Nat) (w : World) :
    Calls Try.prog 12 #[.slice a 0 cap] w fun e w' => Ans e True ∧ w' = w := by
  go_enter Try.func12, Try.ntmps12
  go_wp2
  refine wp_loop_rounds 1 ?_
  rw [rounds_succ]
  go_wp2
  go_ret
  exact ⟨⟨false, rfl, fun _ => trivial⟩, rfl⟩
theorem bytes25_any (b off cap : Nat) (sts : List Step) (w : World) (hn : sts.length ≤ maxLen) (h : StepsAt w b off sts) :
    Calls Try.prog 25 #[.slice (some ⟨b, off, none⟩) sts.length cap] w fun e w' => Ans e True ∧ w' = w := by
  unfold maxLen at hn
  by_cases hb : 1048576 < sts.length
  · go_enter Try.func25, Try.ntmps25
    go_wp2
    go_ret
    exact ⟨⟨false, rfl, fun h => trivial⟩, rfl⟩
  · have hz : ¬ (1048576 : Int) < (sts.length : Int) := by omega
    go_enter Try.func25, Try.ntmps25
    go_wp2
    go_loop [3, 4] (fun t i => ∃ (k : Nat) (q : Int), k ≤ sts.length ∧ i = .int .i64 k ∧ t = .int .i64 q) (fun _ i => sts.length - (intOf i).toNat)
    case atStart => exact ⟨0, _, Nat.zero_le _, rfl, rfl⟩
    case round =>
      obtain ⟨k, q, hk, rfl, rfl⟩ := hrel
      by_cases hlt : k < sts.length
      · have hc := (h k hlt).1
        go_wp2
        · go_ret
          exact ⟨⟨false, rfl, fun h => trivial⟩, rfl⟩
        · go_ret
          exact ⟨⟨false, rfl, fun h => trivial⟩, rfl⟩
        · go_round
          case rel => exact ⟨k + 1, _, by omega, by go_num, rfl⟩
          case measure => simp [intOf]; omega
      · go_wp2
        go_ret
        exact ⟨⟨true, rfl, fun _ => trivial⟩, rfl⟩
theorem bytes25_none (a : Option Addr) (cap : Nat) (w : World) :
    Calls Try.prog 25 #[.slice a 0 cap] w fun e w' => Ans e True ∧ w' = w := by
  go_enter Try.func25, Try.ntmps25
  go_wp2
  refine wp_loop_rounds 1 ?_
  rw [rounds_succ]
  go_wp2
  go_ret
  exact ⟨⟨true, rfl, fun _ => trivial⟩, rfl⟩
theorem bytes11_any (x : Bool) (b off cap : Nat) (sts : List Step) (w : World) (hn : sts.length ≤ maxLen) (h : StepsAt w b off sts) :
    Calls Try.prog 11 #[.bool x, .slice (some ⟨b, off, none⟩) sts.length cap] w fun e w' => Ans e True ∧ w' = w := by
  unfold maxLen at hn
  by_cases hb : 1048576 < sts.length
  · go_enter Try.func11, Try.ntmps11
    go_wp2
    go_ret
    exact ⟨⟨false, rfl, fun h => trivial⟩, rfl⟩
  · have hz : ¬ (1048576 : Int) < (sts.length : Int) := by omega
    go_enter Try.func11, Try.ntmps11
    go_wp2
    go_loop [5, 6] (fun t i => ∃ (k : Nat) (q : Int), k ≤ sts.length ∧ i = .int .i64 k ∧ t = .int .i64 q) (fun _ i => sts.length - (intOf i).toNat)
    case atStart => exact ⟨0, _, Nat.zero_le _, rfl, rfl⟩
    case round =>
      obtain ⟨k, q, hk, rfl, rfl⟩ := hrel
      by_cases hlt : k < sts.length
      · have hc := (h k hlt).1
        go_wp2
        · go_ret
          exact ⟨⟨false, rfl, fun h => trivial⟩, rfl⟩
        · go_ret
          exact ⟨⟨false, rfl, fun h => trivial⟩, rfl⟩
        · go_round
          case rel => exact ⟨k + 1, _, by omega, by go_num, rfl⟩
          case measure => simp [intOf]; omega
      · go_wp2
        go_ret
        exact ⟨⟨true, rfl, fun _ => trivial⟩, rfl⟩
theorem bytes11_none (x : Bool) (a : Option Addr) (cap : Nat) (w : World) :
    Calls Try.prog 11 #[.bool x, .slice a 0 cap] w fun e w' => Ans e True ∧ w' = w := by
  go_enter Try.func11, Try.ntmps11
  go_wp2
  refine wp_loop_rounds 1 ?_
  rw [rounds_succ]
  go_wp2
  go_ret
  exact ⟨⟨true, rfl, fun _ => trivial⟩, rfl⟩

theorem info36 : (Try.prog.info? 36).map (fun i => (i.zero, i.size, i.bytes)) = some (some (.agg #[.string ⟨#[]⟩, .int .i64 0]), 2, 24) := by kernel_rfl

/-- the first k steps lie in the row g -/
structure Filled (B : Nat) (w wr : World) (sts : List Step) (k : Nat) (cur : Array Value) : Prop where
  row : wr.heap[w.heap.size]? = some (.cells cur 36 (0, 0))
  size : cur.size = sts.length * 2
  done : ∀ j (hj : j < sts.length), j < k → cur[j * 2]? = some (.string sts[j].1) ∧ cur[j * 2 + 1]? = some (.int .i64 sts[j].2)
  below : Below w.heap.size w wr
theorem Filled.start {w w1 : World} {sts : List Step} {xs : List Value} (h : w1.ownsRow w.heap.size 36 2 (.slice (some ⟨w.heap.size, 0, none⟩) sts.length sts.length) sts.length xs) (hg : w.grownBy w1 none) : ∃ cur, Filled w.heap.size w w1 sts 0 cur := by
  obtain ⟨_, h | ⟨g, cap, cur, hv, _, hh, _, _, hs, _⟩⟩ := h
  · cases h.1
  · injection hv with h1 h2 h3
    injection h1 with h1
    injection h1 with h1
    subst h1
    subst h3
    exact ⟨cur, hh, hs, fun j _ h => absurd h (Nat.not_lt_zero _), (Below.refl _ _).grown hg (Nat.le_refl _) (fun k h => by cases h)⟩
theorem Filled.step {w wr : World} {sts : List Step} {k : Nat} {cur : Array Value} (h : Filled w.heap.size w wr sts k cur) (hk : k < sts.length) :
    Filled w.heap.size w ((wr.setCell ⟨w.heap.size, k * 2, none⟩ (.string sts[k].1)).setCell ⟨w.heap.size, k * 2 + 1, none⟩ (.int .i64 sts[k].2)) sts (k + 1) ((cur.setIfInBounds (k * 2) (.string sts[k].1)).setIfInBounds (k * 2 + 1) (.int .i64 sts[k].2)) := by
  have hs := h.size
  refine ⟨heap_setCell_same _ _ _ _ _ _ (heap_setCell_same _ _ _ _ _ _ h.row), by simpa using hs, fun j hj hjk => ?_, (h.below.setCell (Nat.le_refl _) _).setCell (Nat.le_refl _) _⟩
  by_cases e : j = k
  · subst e
    constructor
    · rw [Array.getElem?_setIfInBounds_ne (by omega), Array.getElem?_setIfInBounds_self_of_lt (by omega)]
    · rw [Array.getElem?_setIfInBounds_self_of_lt (by simp; omega)]
  · have := h.done j hj (by omega)
    rw [Array.getElem?_setIfInBounds_ne (by omega), Array.getElem?_setIfInBounds_ne (by omega), Array.getElem?_setIfInBounds_ne (by omega), Array.getElem?_setIfInBounds_ne (by omega)]
    exact this
theorem Filled.finish {w wr : World} {sts : List Step} {cur : Array Value} (h : Filled w.heap.size w wr sts sts.length cur) : StepsAt wr w.heap.size 0 sts := by
  intro j hj
  have := h.done j hj hj
  rw [Nat.zero_add, cell_of h.row, cell_of h.row]
  exact this

theorem copy_any (b off cap : Nat) (sts : List Step) (w : World) (hn : sts.length ≤ 4096) (hbl : b < w.heap.size) (h : StepsAt w b off sts) :
    Calls Try.prog 13 #[.slice (some ⟨b, off, none⟩) sts.length cap] w fun e w' => e = .returned (.slice (some ⟨w.heap.size, 0, none⟩) sts.length sts.length) ∧ Below w.heap.size w w' ∧ (∃ cur, w'.heap[w.heap.size]? = some (.cells cur 36 (0, 0))) ∧ StepsAt w' w.heap.size 0 sts := by
  obtain ⟨i0, hi, hz0, hz1, hz2⟩ := info_parts info36
  have q26 : ∀ (w : World) a n c, (binOp .eql 26 (.slice a n c) (.slice none 0 0)).run Try.prog w = .ok (.bool a.isNone) w := fun w a n c => Lib.run_eql_slice_nil w _ _ _ _ _ _ _ Try.underlying26
  go_enter Try.func13, Try.ntmps13
  go_wp2_with (at_make; refine wpList_make_full _ rfl _ _ 26 rfl w.heap.size 36 i0 (.agg #[.string ⟨#[]⟩, .int .i64 0]) 2 Try.underlying26 hi hz0 hz1 _ _ _ _ sts.length rfl rfl rfl rfl (by rw [hz2]; omega) (by unfold maxLen; omega) (Nat.le_refl _) ?_)
  intro w1 hown hgrow
  obtain ⟨cur0, hF0⟩ := Filled.start hown hgrow
  clear hown hgrow
  go_wp2
  go_loopw [4] (fun i wr => ∃ (k : Nat) (cur : Array Value), k ≤ sts.length ∧ i = .int .i64 k ∧ Filled w.heap.size w wr sts k cur) (fun i _ => sts.length - (intOf i).toNat)
  case atStart => exact ⟨0, cur0, Nat.zero_le _, rfl, hF0⟩
  case round =>
    clear hF0
    obtain ⟨k, cur, hk, rfl, hF⟩ := hrel
    by_cases hlt : k < sts.length
    · have s1 := (hF.below.cell (p := ⟨b, off + k * 2, none⟩) hbl).trans (h k hlt).1
      have s2 := (hF.below.cell (p := ⟨b, off + k * 2 + 1, none⟩) hbl).trans (h k hlt).2
      obtain ⟨v1, d1⟩ : ∃ v, wr.cell? ⟨w.heap.size, k * 2, none⟩ = some v := ⟨cur[k * 2]'(by have := hF.size; omega), by rw [cell_of hF.row, Array.getElem?_eq_getElem]⟩
      obtain ⟨v2, d2⟩ : ∃ v, wr.cell? ⟨w.heap.size, k * 2 + 1, none⟩ = some v := ⟨cur[k * 2 + 1]'(by have := hF.size; omega), by rw [cell_of hF.row, Array.getElem?_eq_getElem]⟩
      have f1 := free_of hF.row (k * 2)
      have f2 := free_of hF.row (k * 2 + 1)
      go_wp2
      go_roundw
      case rel => exact ⟨k + 1, _, by omega, by go_num, hF.step hlt⟩
      case measure => simp [intOf]; omega
    · have ek : k = sts.length := by omega
      subst ek
      go_wp2
      go_ret
      exact ⟨rfl, hF.below, ⟨cur, hF.row⟩, hF.finish⟩
theorem copy_nil (cap : Nat) (w : World) : Calls Try.prog 13 #[.slice none 0 0] w fun e w' => e = .returned (.slice none 0 0) ∧ Below w.heap.size w w' := by
  have q26 : ∀ (w : World) a n c, (binOp .eql 26 (.slice a n c) (.slice none 0 0)).run Try.prog w = .ok (.bool a.isNone) w := fun w a n c => Lib.run_eql_slice_nil w _ _ _ _ _ _ _ Try.underlying26
  go_enter Try.func13, Try.ntmps13
  go_wp2
  go_ret
  exact ⟨rfl, Below.refl _ _⟩
theorem copy_empty (a : Addr) (cap : Nat) (w : World) : Calls Try.prog 13 #[.slice (some a) 0 cap] w fun e w' => e = .returned (.slice (some ⟨w.heap.size, 0, none⟩) 0 0) ∧ Below w.heap.size w w' := by
  obtain ⟨i0, hi, hz0, hz1, hz2⟩ := info_parts info36
  have q26 : ∀ (w : World) a n c, (binOp .eql 26 (.slice a n c) (.slice none 0 0)).run Try.prog w = .ok (.bool a.isNone) w := fun w a n c => Lib.run_eql_slice_nil w _ _ _ _ _ _ _ Try.underlying26
  go_enter Try.func13, Try.ntmps13
  go_wp2_with (at_make; refine wpList_make_full _ rfl _ _ 26 rfl w.heap.size 36 i0 (.agg #[.string ⟨#[]⟩, .int .i64 0]) 2 Try.underlying26 hi hz0 hz1 _ _ _ _ 0 rfl rfl rfl rfl (by rw [hz2]; omega) (by unfold maxLen; omega) (Nat.le_refl _) ?_)
  intro w1 hown hgrow
  have hb := (Below.refl w.heap.size w).grown hgrow (Nat.le_refl _) (fun k h => by cases h)
  clear hown hgrow
  go_wp2
  refine wp_loop_rounds 1 ?_
  rw [rounds_succ]
  go_wp2
  go_ret
  exact ⟨rfl, hb⟩
end Go.Proofs.Qxb6601635a.child
