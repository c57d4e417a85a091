/-
  Seat b6601635a. A slice of steps among the arguments, opened: its cells.
-/
import Derived.Test.Qxb6601635aChildSteps
import Derived.ProofKit
import Derived.Deep.Slices
namespace Go.Proofs.Qxb6601635a.child
open Go.RowKit Go.Maps

/-- what the walks are told of a slice of steps: it has none; or its steps lie in a row, each with a name of a length and an index of its kind -/
def IsSteps (W : World) (a : Option Addr) (len cap : Nat) : Prop :=
  (len = 0 ∧ (a = none → cap = 0)) ∨
  ∃ (b off : Nat) (sts : List Step), a = some ⟨b, off, none⟩ ∧ sts.length = len ∧ 0 < sts.length ∧ sts.length ≤ maxLen ∧ b < W.heap.size ∧ StepsAt W b off sts ∧ ∀ j (hj : j < sts.length), sts[j].1.size ≤ maxLen ∧ (Lit.int .i64 sts[j].2).wf = true

theorem cells36 : Try.prog.cellsOf 36 = 2 := by kernel_rfl
theorem cells9 : Try.prog.cellsOf 9 = 1 := by kernel_rfl
theorem cells3 : Try.prog.cellsOf 3 = 1 := by kernel_rfl

theorem open_steps {H : Type} {enc : TypeId × Value → H} {W : World} {base : Nat} {sp : Nat → Bool} {held : Bool} {fuel : Nat} {x : DataW H × List MemPlace} {a : Option Addr} {len cap : Nat}
    (h : DataW.trod enc Try.prog W base sp held fuel 26 (Value.slice a len cap).cells.toList = some x) : IsSteps W a len cap := by
  rcases Deep.open_slice Try.underlying26 h with ⟨hcs, _⟩ | ⟨y, len', cap', m, n, D, Pl, hcs, hb, hl, hm, hmm, _, hx⟩
  · simp [Value.cells] at hcs
    obtain ⟨rfl, rfl, rfl⟩ := hcs
    exact .inl ⟨rfl, fun _ => rfl⟩
  · simp [Value.cells] at hcs
    obtain ⟨rfl, rfl, rfl⟩ := hcs
    by_cases hz : len = 0
    · exact .inl ⟨hz, fun h => by cases h⟩
    · refine .inr ?_
      have hlm : len ≤ m := by rw [hmm]; split <;> omega
      rw [cells36] at hx
      have hy : y.spot = none := by
        obtain ⟨cs', h1, _⟩ := hx 0 (by omega)
        obtain ⟨_, hlen, h3⟩ := World.cells?_some h1
        have h4 := h3 0 (by omega)
        have h5 : cs'[0]? = some (cs'[0]'(by omega)) := List.getElem?_eq_getElem _
        rw [h5] at h4
        have := World.cell?_spot h4
        simpa [Addr.add] using this
      obtain ⟨b, off, spot⟩ := y
      obtain rfl : spot = none := hy
      obtain ⟨f, hf⟩ := Deep.choose_lt (α := Step) (n := len) (p := fun i st => (W.cell? ⟨b, off + i * 2, none⟩ = some (.string st.1) ∧ W.cell? ⟨b, off + i * 2 + 1, none⟩ = some (.int .i64 st.2)) ∧ st.1.size ≤ maxLen ∧ (Lit.int .i64 st.2).wf = true) (fun i hi => by
        obtain ⟨cs', h1, h2⟩ := hx i (by omega)
        obtain ⟨_, hlen, h3⟩ := World.cells?_some h1
        obtain ⟨y0, y1, n', _, _, t0, t1⟩ := ChangeShapes.trod_struct2 Try.underlying36 h2
        match cs', hlen with
        | [c0, c1], _ =>
          have t0' : DataW.trod enc Try.prog W base sp held n' 9 [c0] = some y0 := by simpa [cells9] using t0
          have t1' : DataW.trod enc Try.prog W base sp held n' 3 [c1] = some y1 := by simpa [cells3] using t1
          obtain ⟨s, e0, _, hs⟩ := DataW.trod_string Try.underlying9 t0'
          obtain ⟨j, e1, _, hj⟩ := DataW.trod_int Try.underlying3 t1'
          simp at e0 e1
          subst e0 e1
          have a0 := h3 0 (by omega)
          have a1 := h3 1 (by omega)
          simp only [WideShapes.add_plain] at a0 a1
          exact ⟨(s, j), ⟨a0, a1⟩, hs, hj⟩)
      refine ⟨b, off, (List.range len).map f, rfl, by simp, by simp; omega, by simp; omega, ?_, ?_, ?_⟩
      · exact World.block_lt_of_cell? W ⟨b, off + 0 * 2, none⟩ (hf 0 (by omega)).1.1
      · intro j hj
        have hj' : j < len := by simpa using hj
        simpa using (hf j hj').1
      · intro j hj
        have hj' : j < len := by simpa using hj
        simpa using (hf j hj').2
end Go.Proofs.Qxb6601635a.child
