import Derived.Test.Qxb6601635aChildCalls
import Derived.LaidEqlPtr
import Derived.Lib.Builder
namespace Go.Proofs.Qxb6601635a.child
open Go.RowKit Go.Maps
set_option linter.unusedVariables false
theorem info45 : (Try.prog.info? 45).map (fun i => i.size) = some 3 := by kernel_rfl
theorem info45' : ∃ j, Try.prog.info? 45 = some j ∧ j.size = 3 := by
  obtain ⟨i, hi, h⟩ := Option.map_eq_some_iff.1 info45
  exact ⟨i, hi, h⟩
theorem neq30 (w : World) (a : Addr) : (binOp .neq 30 (.pointer (some a)) (.pointer (some a))).run Try.prog w = .ok (.bool false) w := by
  obtain ⟨j, hj, _⟩ := info45'
  exact Lib.run_neq_ptr_same w a Try.underlying30 hj
theorem eql30 (w : World) (a b : Nat) (hne : a ≠ b) {ca cb : Array Value} {ta tb : TypeId} (ha : w.heap[a]? = some (.cells ca ta (0, 0))) (hb : w.heap[b]? = some (.cells cb tb (0, 0))) : (binOp .eql 30 (.pointer (some ⟨a, 0, none⟩)) (.pointer (some ⟨b, 0, none⟩))).run Try.prog w = .ok (.bool false) w := by
  obtain ⟨j, hj, hs⟩ := info45'
  exact run_eql_ptr_other w Try.underlying30 hj (by omega) (fun h => hne (by injection h)) ha hb
theorem hide {p : Prop} (h : p) : Hid p := h
section
variable {B r : Nat} {wh : Bool} {nm ne : Nat} {L : Step → Nat} {w : World}

theorem fresh_any (h : Proj B w r wh nm ne L) : Calls Try.prog 18 #[.pointer (some ⟨r, 0, none⟩)] w fun e w' => e = .returned (.bool (!wh && decide (nm = 0) && decide (ne = 0))) ∧ w' = w := by
  have h1 := whole_any h
  have h2 := memNil_any h
  have h3 := eleNil_any h
  clear h
  cases wh
  · cases e2 : decide (nm = 0)
    · rw [e2] at h2
      go_enter Try.func18, Try.ntmps18
      go_wp2_with (first | (go_at_call 19; refine h1.mono ?_; rintro e w' ⟨rfl, rfl⟩) | (go_at_call 22; refine h2.mono ?_; rintro e w' ⟨rfl, rfl⟩) | (go_at_call 23; refine h3.mono ?_; rintro e w' ⟨rfl, rfl⟩))
      go_ret
      exact ⟨rfl, rfl⟩
    · rw [e2] at h2
      go_enter Try.func18, Try.ntmps18
      go_wp2_with (first | (go_at_call 19; refine h1.mono ?_; rintro e w' ⟨rfl, rfl⟩) | (go_at_call 22; refine h2.mono ?_; rintro e w' ⟨rfl, rfl⟩) | (go_at_call 23; refine h3.mono ?_; rintro e w' ⟨rfl, rfl⟩))
      go_ret
      exact ⟨rfl, rfl⟩
  · go_enter Try.func18, Try.ntmps18
    go_wp2_with (first | (go_at_call 19; refine h1.mono ?_; rintro e w' ⟨rfl, rfl⟩) | (go_at_call 22; refine h2.mono ?_; rintro e w' ⟨rfl, rfl⟩) | (go_at_call 23; refine h3.mono ?_; rintro e w' ⟨rfl, rfl⟩))
    go_ret
    exact ⟨rfl, rfl⟩

theorem lookup_any (h : Proj B w r wh nm ne L) (st : Step) (hs : st.1.size ≤ maxLen) (hi : (Lit.int .i64 st.2).wf = true) :
    Calls Try.prog 24 #[.pointer (some ⟨r, 0, none⟩), .agg #[.string st.1, .int .i64 st.2]] w fun e w' => e = .returned (ptrV (L st)) ∧ Below w.heap.size w w' := by
  obtain ⟨s, i⟩ := st
  have hb : ∀ o, Below w.heap.size w (w.alloc o) := fun o => (Below.refl _ _).alloc (Nat.le_refl _) _
  have hP := fun o => h.below (hb o)
  by_cases e : i = -1
  · subst e
    have H := fun o => member_any (hP o) s hs
    clear hP h hi hs
    go_enter Try.func24, Try.ntmps24
    go_wp2_with (go_at_call 29; refine (H _).mono ?_; rintro e w' ⟨rfl, rfl⟩)
    go_ret
    exact ⟨rfl, hb _⟩
  · have H := fun o => element_any (hP o) s i hi e
    have e' : (i == -1) = false := by simpa using e
    clear hP h hi hs e
    go_enter Try.func24, Try.ntmps24
    go_wp2_with (go_at_call 30; refine (H _).mono ?_; rintro e w' ⟨rfl, rfl⟩)
    go_ret
    exact ⟨rfl, hb _⟩

/-- holdsOnly says true of a node that has just the one child c, under st -/
theorem holds_any (h : Proj B w r wh nm ne L) (st : Step) (hs : st.1.size ≤ maxLen) (hi : (Lit.int .i64 st.2).wf = true) (c : Nat) (hL : L st = c + 1) (hm : nm = mems st 0) (he : ne = eles st 0) :
    Calls Try.prog 26 #[.pointer (some ⟨r, 0, none⟩), .agg #[.string st.1, .int .i64 st.2], .pointer (some ⟨c, 0, none⟩)] w fun e w' => e = .returned (.bool true) ∧ Below w.heap.size w w' := by
  obtain ⟨s, i⟩ := st
  have hb : ∀ o, Below w.heap.size w (w.alloc o) := fun o => (Below.refl _ _).alloc (Nat.le_refl _) _
  have hP := fun o => h.below (hb o)
  have hrl := h.lt
  have q30 := neq30
  have H24 := fun o => lookup_any (hP o) (s, i) hs hi
  rw [hL] at H24
  simp only [ptrV] at H24
  subst hm he
  clear h
  by_cases e : i = -1
  · subst e
    have m0 : mems (s, -1) 0 = 1 := rfl
    have e0 : eles (s, -1) 0 = 0 := rfl
    rw [m0, e0] at hP
    clear m0 e0
    go_enter Try.func26, Try.ntmps26
    go_wp2_with (first | (go_at_call 24; refine (H24 _).mono ?_; rintro e w1 ⟨rfl, hb1⟩; have hP1 := (hP _).below hb1; have hc1 := hb1.cell (p := ⟨w.heap.size, 1, none⟩) (by simp)) | (go_at_call 20; refine (memCount_any hP1).mono ?_; rintro e w2 ⟨rfl, rfl⟩) | (go_at_call 23; refine (eleNil_any hP1).mono ?_; rintro e w3 ⟨rfl, rfl⟩))
    go_ret
    exact ⟨rfl, (hb _).trans (hb1.mono (by simp))⟩
  · have e' : (i == -1) = false := by simpa using e
    have m0 : mems (s, i) 0 = 0 := by simp [mems, e]
    have e0 : eles (s, i) 0 = 1 := by simp [eles, e]
    rw [m0, e0] at hP
    clear e m0 e0
    go_enter Try.func26, Try.ntmps26
    go_wp2_with (first | (go_at_call 24; refine (H24 _).mono ?_; rintro e w1 ⟨rfl, hb1⟩; have hP1 := (hP _).below hb1; have hc1 := hb1.cell (p := ⟨w.heap.size, 1, none⟩) (by simp)) | (go_at_call 21; refine (eleCount_any hP1).mono ?_; rintro e w2 ⟨rfl, rfl⟩) | (go_at_call 22; refine (memNil_any hP1).mono ?_; rintro e w3 ⟨rfl, rfl⟩))
    go_ret
    exact ⟨rfl, (hb _).trans (hb1.mono (by simp))⟩
theorem new_any (w : World) : Calls Try.prog 14 #[] w fun e w' => e = .returned (.pointer (some ⟨w.heap.size, 0, none⟩)) ∧ w' = w.alloc (.cells #[.bool false, .map none, .map none] 45) := by
  go_enter Try.func14, Try.ntmps14
  go_wp2
  go_ret
  exact ⟨rfl, rfl⟩
theorem setWhole_any (w : World) (r : Nat) (b b' : Bool) (h : w.cell? ⟨r, 0, none⟩ = some (.bool b)) (hf : w.frozen? ⟨r, 0, none⟩ = false) : Calls Try.prog 15 #[.pointer (some ⟨r, 0, none⟩), .bool b'] w fun e w' => e = .returned (.tuple #[]) ∧ w' = w.setCell ⟨r, 0, none⟩ (.bool b') := by
  go_enter Try.func15, Try.ntmps15
  go_wp2
  go_end0
  exact ⟨rfl, rfl⟩
theorem str_eq (s t : ByteArray) : (s.toList == t.toList) = same (s, -1) (t, -1) := by
  rw [ByteArray.toList_eq, ByteArray.toList_eq, Bool.eq_iff_iff]
  simp [same]
theorem same_any (a b : Step) (w : World) : Calls Try.prog 16 #[.agg #[.string a.1, .int .i64 a.2], .agg #[.string b.1, .int .i64 b.2]] w fun e w' => e = .returned (.bool (same a b)) ∧ Below w.heap.size w w' := by
  obtain ⟨s, i⟩ := a
  obtain ⟨t, j⟩ := b
  go_enter Try.func16, Try.ntmps16
  go_wp2
  all_goals go_ret
  · rename_i h1 h2
    exact ⟨ret_bool (by simp only [beq_iff_eq] at h1; subst h1; subst h2; exact str_eq s t), ((Below.refl _ _).alloc (Nat.le_refl _) _).alloc (by simp) _⟩
  · exact ⟨ret_bool (by simp_all [same]), ((Below.refl _ _).alloc (Nat.le_refl _) _).alloc (by simp) _⟩
  · exact ⟨ret_bool (by simp_all [same]; rfl), ((Below.refl _ _).alloc (Nat.le_refl _) _).alloc (by simp) _⟩
end
end Go.Proofs.Qxb6601635a.child
