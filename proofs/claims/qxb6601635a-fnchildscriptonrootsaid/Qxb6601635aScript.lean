/-
  Seat b6601635a. What a script of calls of child on one node keeps: no walk in sight.
-/
import Derived.Test.Qxb6601635aChildWalked
namespace Go.Proofs.Qxb6601635a.child
open Go.RowKit Go.Maps
set_option linter.unusedVariables false

/-- the cells of an empty node -/
def freshCells : Array Value := #[.bool false, .map none, .map none]
theorem Proj.isFresh {B : Nat} {w : World} {r : Nat} {L : Step → Nat} (h : Proj B w r false 0 0 L) : w.heap[r]? = some (.cells freshCells 45 (0, 0)) := by
  obtain ⟨vm, ve, fm, fe, _, h2, h3, h4, _⟩ := h
  rcases h3 with ⟨rfl, _⟩ | ⟨b, _, _, h, _⟩
  · rcases h4 with ⟨rfl, _⟩ | ⟨b, _, _, h, _⟩
    · exact h2
    · omega
  · omega
/-- two steps that lead to one child have one node under them -/
theorem Proj.coh {B : Nat} {w : World} {r : Nat} {wh : Bool} {nm ne : Nat} {L : Step → Nat} (h : Proj B w r wh nm ne L) {a b : Step} (hs : same a b = true) : L a = L b := by
  obtain ⟨vm, ve, fm, fe, _, _, _, _, _, h6⟩ := h
  rw [h6, h6]
  obtain ⟨s, i⟩ := a
  obtain ⟨t, j⟩ := b
  unfold same at hs
  unfold look
  by_cases e : i = -1
  · simp only [e, if_true, Bool.and_eq_true, decide_eq_true_eq] at hs
    simp [e, hs.1, hs.2]
  · simp only [e, if_false, decide_eq_true_eq] at hs
    simp [e, hs]
/-- a store into the row of the nodes leaves a node as it is -/
theorem Proj.store {B : Nat} {w : World} {r q i : Nat} {wh : Bool} {nm ne : Nat} {L : Step → Nat} {cq : Array Value} (h : Proj B w r wh nm ne L) (hq : w.heap[q]? = some (.cells cq 30 (0, 0))) (u : Value) : Proj B (w.setCell ⟨q, i, none⟩ u) r wh nm ne L := by
  obtain ⟨cb, hb⟩ := h.isCells
  refine h.kept (Below.heap_setCell _ _ _ _ ?_) (fun b' _ hb' => Below.heap_setCell _ _ _ _ ?_)
  · intro e
    have e' : r = q := e
    rw [e', hq] at hb
    cases hb
  · intro e
    have e' : b' = q := e
    obtain ⟨es, clock, hb'⟩ := hb'
    rw [e', hq] at hb'
    cases hb'

/-- the first k calls of the script have been made: c j is the block of the node that the j-th handed back; r the node on which they were made; g the row of the steps, q the row of the nodes -/
structure Script (B : Nat) (w wr : World) (g q r : Nat) (wh : Bool) (sts : List Step) (k nm ne : Nat) (L : Step → Nat) (c : Nat → Nat) : Prop where
  root : Proj B wr r wh nm ne L
  node : ∀ j, j < k → B ≤ c j ∧ c j ≠ r ∧ wr.heap[c j]? = some (.cells freshCells 45 (0, 0))
  hit : ∀ j (hj : j < sts.length), j < k → L sts[j] = c j + 1
  all : ∀ st, L st ≠ 0 → ∃ j, ∃ hj : j < sts.length, j < k ∧ same sts[j] st = true
  steps : StepsAt wr g 0 sts
  rowg : ∃ cur, wr.heap[g]? = some (.cells cur 36 (0, 0))
  rowq : ∃ cur, wr.heap[q]? = some (.cells cur 30 (0, 0)) ∧ cur.size = sts.length ∧ ∀ j, j < k → cur[j]? = some (.pointer (some ⟨c j, 0, none⟩))
  below : Below B w wr
  base : B ≤ w.heap.size
  baseq : B ≤ q
  nmk : nm ≤ k
  nek : ne ≤ k

section
variable {B g q r k nm ne : Nat} {w wr : World} {wh : Bool} {sts : List Step} {L : Step → Nat} {c : Nat → Nat}

theorem Script.baser (h : Script B w wr g q r wh sts k nm ne L c) : B ≤ wr.heap.size := Nat.le_trans h.base h.below.size
theorem Script.keep {wx : World} (h : Script B w wr g q r wh sts k nm ne L c) (hb : Below wr.heap.size wr wx) : Script B w wx g q r wh sts k nm ne L c := by
  obtain ⟨cg, hg⟩ := h.rowg
  obtain ⟨cq, hq, hq2⟩ := h.rowq
  exact ⟨h.root.below hb, fun j hj => ⟨(h.node j hj).1, (h.node j hj).2.1, (hb.block _ (lt_of (h.node j hj).2.2)).trans (h.node j hj).2.2⟩, h.hit, h.all, h.steps.same (hb.block g (lt_of hg)), ⟨cg, (hb.block g (lt_of hg)).trans hg⟩,
    ⟨cq, (hb.block q (lt_of hq)).trans hq, hq2⟩, h.below.trans (hb.mono h.baser), h.base, h.baseq, h.nmk, h.nek⟩
theorem Script.drew (h : Script B w wr g q r wh sts k nm ne L c) : Script B w wr.drew g q r wh sts k nm ne L c := h.keep ⟨rfl, rfl, rfl, Nat.le_refl _, fun _ _ => rfl⟩
theorem Script.cells (h : Script B w wr g q r wh sts k nm ne L c) (j : Nat) (hj : j < sts.length) : wr.cell? ⟨g, j * 2, none⟩ = some (.string sts[j].1) ∧ wr.cell? ⟨g, j * 2 + 1, none⟩ = some (.int .i64 sts[j].2) := by
  have := h.steps j hj
  rw [Nat.zero_add] at this
  exact this
theorem Script.nodeAt (h : Script B w wr g q r wh sts k nm ne L c) (j : Nat) (hj : j < k) : wr.cell? ⟨q, j, none⟩ = some (.pointer (some ⟨c j, 0, none⟩)) := by
  obtain ⟨cq, hq, _, hq2⟩ := h.rowq
  rw [cell_of hq]
  exact hq2 j hj
theorem Script.room (h : Script B w wr g q r wh sts k nm ne L c) (j : Nat) (hj : j < sts.length) : ∃ v, wr.cell? ⟨q, j, none⟩ = some v ∧ wr.frozen? ⟨q, j, none⟩ = false := by
  obtain ⟨cq, hq, hs, _⟩ := h.rowq
  exact ⟨cq[j]'(by omega), by rw [cell_of hq, Array.getElem?_eq_getElem], free_of hq j⟩
theorem Script.proj (h : Script B w wr g q r wh sts k nm ne L c) (j : Nat) (hj : j < k) : Proj B wr (c j) false 0 0 (fun _ => 0) := Proj.fresh (h.node j hj).1 (h.node j hj).2.2
/-- no step before has the key of st: nothing stands under it -/
theorem Script.absent (h : Script B w wr g q r wh sts k nm ne L c) (st : Step) (hn : ∀ j (hj : j < sts.length), j < k → same sts[j] st = false) : L st = 0 := by
  cases e : L st with
  | zero => rfl
  | succ n =>
    obtain ⟨j, hj, hk, hs⟩ := h.all st (by omega)
    rw [hn j hj hk] at hs
    cases hs
/-- c with n at k -/
def at' (c : Nat → Nat) (k n : Nat) : Nat → Nat := fun j => if j = k then n else c j
theorem at_same (c : Nat → Nat) (k n : Nat) : at' c k n k = n := by unfold at'; rw [if_pos rfl]
theorem at_other (c : Nat → Nat) (k n j : Nat) (h : j ≠ k) : at' c k n j = c j := by unfold at'; rw [if_neg h]

/-- the node that was there is handed back, and laid into the row -/
theorem Script.old (h : Script B w wr g q r wh sts k nm ne L c) (hk : k < sts.length) (f : Nat) (hf : f < k) (hs : same (sts[f]'(by omega)) sts[k] = true) :
    Script B w (wr.setCell ⟨q, k, none⟩ (.pointer (some ⟨c f, 0, none⟩))) g q r wh sts (k + 1) nm ne L (at' c k (c f)) := by
  obtain ⟨cg, hg⟩ := h.rowg
  obtain ⟨cq, hq, hq1, hq2⟩ := h.rowq
  have ngq : g ≠ q := by intro e; rw [e, hq] at hg; cases hg
  have nq : ∀ {b : Nat} {cs : Array Value}, wr.heap[b]? = some (.cells cs 45 (0, 0)) → b ≠ q := by intro b cs hb e; rw [e, hq] at hb; cases hb
  have hL : L sts[k] = c f + 1 := by rw [← h.root.coh hs]; exact h.hit f (by omega) hf
  refine ⟨h.root.store hq _, ?_, ?_, ?_, h.steps.same (Below.heap_setCell _ _ _ _ ngq), ⟨cg, (Below.heap_setCell _ _ _ _ ngq).trans hg⟩, ?_, h.below.setCell h.baseq _, h.base, h.baseq, Nat.le_succ_of_le h.nmk, Nat.le_succ_of_le h.nek⟩
  · intro j hj
    have : ∃ j', j' < k ∧ at' c k (c f) j = c j' := by
      by_cases e : j = k
      · exact ⟨f, hf, by rw [e, at_same]⟩
      · exact ⟨j, by omega, at_other _ _ _ _ e⟩
    obtain ⟨j', hj', e⟩ := this
    rw [e]
    have := h.node j' hj'
    exact ⟨this.1, this.2.1, (Below.heap_setCell _ _ _ _ (nq this.2.2)).trans this.2.2⟩
  · intro j hj hjk
    by_cases e : j = k
    · subst e
      rw [at_same]
      exact hL
    · rw [at_other _ _ _ _ e]
      exact h.hit j hj (by omega)
  · intro st hst
    obtain ⟨j, hj, hjk, hs⟩ := h.all st hst
    exact ⟨j, hj, by omega, hs⟩
  · refine ⟨_, heap_setCell_same _ _ _ _ _ _ hq, by simpa using hq1, fun j hj => ?_⟩
    by_cases e : j = k
    · subst e
      rw [at_same, Array.getElem?_setIfInBounds_self_of_lt (by omega)]
    · rw [Array.getElem?_setIfInBounds_ne (by omega), at_other _ _ _ _ e]
      exact hq2 j (by omega)

/-- behind a call of child that made the node n: what the script keeps, but for the row of the nodes -/
theorem Script.mid {wx : World} {n : Nat} {L' : Step → Nat} {nm' ne' : Nat} (h : Script B w wr g q r wh sts k nm ne L c) (p4 : Others wr wx r nm ne) :
    StepsAt wx g 0 sts ∧ (∃ cur, wx.heap[g]? = some (.cells cur 36 (0, 0))) ∧ (∃ cur, wx.heap[q]? = some (.cells cur 30 (0, 0)) ∧ cur.size = sts.length ∧ ∀ j, j < k → cur[j]? = some (.pointer (some ⟨c j, 0, none⟩))) ∧
      ∀ j, j < k → wx.heap[c j]? = some (.cells freshCells 45 (0, 0)) := by
  obtain ⟨cg, hg⟩ := h.rowg
  obtain ⟨cq, hq, hq2⟩ := h.rowq
  obtain ⟨cr, hr⟩ := h.root.isCells
  have ngr : g ≠ r := by intro e; rw [e, hr] at hg; cases hg
  have nqr : q ≠ r := by intro e; rw [e, hr] at hq; cases hq
  have eg : wx.heap[g]? = wr.heap[g]? := p4 g (lt_of hg) ngr (.inl ⟨_, _, _, hg⟩)
  have eq : wx.heap[q]? = wr.heap[q]? := p4 q (lt_of hq) nqr (.inl ⟨_, _, _, hq⟩)
  exact ⟨h.steps.same eg, ⟨cg, eg.trans hg⟩, ⟨cq, eq.trans hq, hq2⟩, fun j hj => (p4 _ (lt_of (h.node j hj).2.2) (h.node j hj).2.1 (.inl ⟨_, _, _, (h.node j hj).2.2⟩)).trans (h.node j hj).2.2⟩

theorem Script.new {wx : World} {n : Nat} (h : Script B w wr g q r wh sts k nm ne L c) (hk : k < sts.length) (hn : wr.heap.size ≤ n) (p1 : Proj B wx n false 0 0 (fun _ => 0))
    (p2 : Proj B wx r wh (mems sts[k] nm) (eles sts[k] ne) (put L sts[k] (n + 1))) (p3 : Below B wr wx) (p4 : Others wr wx r nm ne) (h0 : L sts[k] = 0) :
    Script B w (wx.setCell ⟨q, k, none⟩ (.pointer (some ⟨n, 0, none⟩))) g q r wh sts (k + 1) (mems sts[k] nm) (eles sts[k] ne) (put L sts[k] (n + 1)) (at' c k n) := by
  obtain ⟨hst, ⟨cg, hg⟩, ⟨cq, hq, hq1, hq2⟩, hnodes⟩ := h.mid (n := n) (L' := L) (nm' := 0) (ne' := 0) p4
  have ngq : g ≠ q := by intro e; rw [e, hq] at hg; cases hg
  have nq : ∀ {b : Nat} {cs : Array Value}, wx.heap[b]? = some (.cells cs 45 (0, 0)) → b ≠ q := by intro b cs hb e; rw [e, hq] at hb; cases hb
  have hrl := h.root.lt
  refine ⟨p2.store hq _, ?_, ?_, ?_, hst.same (Below.heap_setCell _ _ _ _ ngq), ⟨cg, (Below.heap_setCell _ _ _ _ ngq).trans hg⟩, ?_, (h.below.trans p3).setCell h.baseq _, h.base, h.baseq, ?_, ?_⟩
  · intro j hj
    by_cases e : j = k
    · rw [e, at_same]
      exact ⟨p1.ge, by omega, (Below.heap_setCell _ _ _ _ (nq p1.isFresh)).trans p1.isFresh⟩
    · rw [at_other _ _ _ _ e]
      have := h.node j (by omega)
      exact ⟨this.1, this.2.1, (Below.heap_setCell _ _ _ _ (nq (hnodes j (by omega)))).trans (hnodes j (by omega))⟩
  · intro j hj hjk
    by_cases e : j = k
    · subst e
      rw [at_same, put_self]
    · rw [at_other _ _ _ _ e]
      have h1 := h.hit j hj (by omega)
      unfold put
      rw [if_neg, h1]
      intro hs
      have := h.root.coh hs
      omega
  · intro st hst
    unfold put at hst
    split at hst
    · rename_i hs
      exact ⟨k, hk, by omega, hs⟩
    · obtain ⟨j, hj, hjk, hs⟩ := h.all st hst
      exact ⟨j, hj, by omega, hs⟩
  · refine ⟨_, heap_setCell_same _ _ _ _ _ _ hq, by simpa using hq1, fun j hj => ?_⟩
    by_cases e : j = k
    · subst e
      rw [at_same, Array.getElem?_setIfInBounds_self_of_lt (by omega)]
    · rw [Array.getElem?_setIfInBounds_ne (by omega), at_other _ _ _ _ e]
      exact hq2 j (by omega)
  · have := h.nmk
    unfold mems
    split <;> omega
  · have := h.nek
    unfold eles
    split <;> omega

/-- the script begins: the steps' copy in row g, the empty node r with its flag set, the row q of nil nodes -/
theorem Script.start {w1 w3 : World} {xs : List Value} (hb : Below w.heap.size w w1) (hg : ∃ cur, w1.heap[w.heap.size]? = some (.cells cur 36 (0, 0))) (hs : StepsAt w1 w.heap.size 0 sts)
    (hown : w3.ownsRow w1.heap.size 30 1 (.slice (some ⟨w1.heap.size + 1, 0, none⟩) sts.length sts.length) sts.length xs) (hgrow : (w1.alloc (.cells #[.bool wh, .map none, .map none] 45)).grownBy w3 none) :
    Script w.heap.size w w3 w.heap.size (w1.heap.size + 1) w1.heap.size wh sts 0 0 0 (fun _ => 0) (fun _ => 0) := by
  obtain ⟨cg, hg⟩ := hg
  have e2 : (w1.alloc (.cells #[.bool wh, .map none, .map none] 45)).heap.size = w1.heap.size + 1 := by simp
  have eg : w3.heap[w.heap.size]? = w1.heap[w.heap.size]? := (hgrow.block _ (by have := lt_of hg; omega) (by simp)).trans (Below.heap_alloc _ _ _ (lt_of hg))
  have er : w3.heap[w1.heap.size]? = some (.cells #[.bool wh, .map none, .map none] 45 (0, 0)) := (hgrow.block _ (by omega) (by simp)).trans (heap_alloc_new _ _)
  refine ⟨⟨_, _, fun _ => 0, fun _ => 0, hb.size, er, MapV.none _ _ _, MapV.none _ _ _, fun b h => (by cases h), fun st => by unfold look; split <;> rfl⟩, fun j h => absurd h (Nat.not_lt_zero _), fun j _ h => absurd h (Nat.not_lt_zero _), fun st h => absurd rfl h, hs.same eg, ⟨cg, eg.trans hg⟩, ?_, ?_, Nat.le_refl _, by have := hb.size; omega, Nat.le_refl _, Nat.le_refl _⟩
  · obtain ⟨_, h | ⟨g, cap, cur, hv, _, hh, _, _, hsz, _⟩⟩ := hown
    · cases h.1
    · injection hv with h1 h2 h3
      injection h1 with h1
      injection h1 with h1
      subst h1
      subst h3
      exact ⟨cur, hh, by omega, fun j h => absurd h (Nat.not_lt_zero _)⟩
  · exact (hb.alloc hb.size _).grown hgrow (by have := hb.size; omega) (fun k h => by cases h)
end
end Go.Proofs.Qxb6601635a.child
