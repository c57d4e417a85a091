import Derived.Test.Qxb6601635aChildSteps
import Derived.Deep.LoopGhost
namespace Go.Proofs.Qxb6601635a.child
open Go.RowKit Go.Maps
set_option linter.unusedVariables false

theorem same_refl (st : Step) : same st st = true := by
  unfold same
  split <;> simp_all
theorem put_self (L : Step → Nat) (st : Step) (c : Nat) : put L st c st = c := by
  unfold put
  rw [if_pos (same_refl st)]

/-- the first k steps have been walked: c j is the block of the j-th node; g the row of the steps, q the row of the nodes -/
structure Walked (B : Nat) (w wr : World) (g q : Nat) (sts : List Step) (k : Nat) (c : Nat → Nat) : Prop where
  node : ∀ j (hj : j < sts.length), j < k → Proj B wr (c j) false (mems sts[j] 0) (eles sts[j] 0) (put (fun _ => 0) sts[j] (c (j + 1) + 1))
  last : Proj B wr (c k) false 0 0 (fun _ => 0)
  inj : ∀ i j, i ≤ k → j ≤ k → c i = c j → i = j
  steps : StepsAt wr g 0 sts
  rowg : ∃ cur, wr.heap[g]? = some (.cells cur 36 (0, 0))
  rowq : ∃ cur, wr.heap[q]? = some (.cells cur 30 (0, 0)) ∧ cur.size = sts.length ∧ ∀ j, j < k → cur[j]? = some (.pointer (some ⟨c (j + 1), 0, none⟩))
  below : Below B w wr
  base : B ≤ w.heap.size
  baseq : B ≤ q

section
variable {B g q k : Nat} {w wr : World} {sts : List Step} {c : Nat → Nat}

theorem StepsAt.same {wx : World} {b off : Nat} (h : StepsAt wr b off sts) (e : wx.heap[b]? = wr.heap[b]?) : StepsAt wx b off sts := by
  intro j hj
  obtain ⟨h1, h2⟩ := h j hj
  exact ⟨(World.cell?_of_block (a := ⟨b, off + j * 2, none⟩) e).trans h1, (World.cell?_of_block (a := ⟨b, off + j * 2 + 1, none⟩) e).trans h2⟩
theorem lt_of {w : World} {b : Nat} {o : Obj} (h : w.heap[b]? = some o) : b < w.heap.size := (Array.getElem?_eq_some_iff.1 h).1

theorem Walked.keep {wx : World} (h : Walked B w wr g q sts k c) (hb : Below wr.heap.size wr wx) (hB : B ≤ wr.heap.size) : Walked B w wx g q sts k c := by
  obtain ⟨cg, hg⟩ := h.rowg
  obtain ⟨cq, hq, hq2⟩ := h.rowq
  exact ⟨fun j hj hk => (h.node j hj hk).below hb, h.last.below hb, h.inj, h.steps.same (hb.block g (lt_of hg)), ⟨cg, (hb.block g (lt_of hg)).trans hg⟩, ⟨cq, (hb.block q (lt_of hq)).trans hq, hq2⟩,
    h.below.trans (hb.mono hB), h.base, h.baseq⟩

/-- behind the call of child and what only reads: the next node -/
def next (c : Nat → Nat) (k n : Nat) : Nat → Nat := fun j => if j = k + 1 then n else c j

theorem Walked.step {wx w4 : World} {n : Nat} (h : Walked B w wr g q sts k c) (hk : k < sts.length) (hn : wr.heap.size ≤ n) (p1 : Proj B wx n false 0 0 (fun _ => 0))
    (p2 : Proj B wx (c k) false (mems sts[k] 0) (eles sts[k] 0) (put (fun _ => 0) sts[k] (n + 1))) (p3 : Below B wr wx) (p4 : Others wr wx (c k) 0 0) (h4 : Below wx.heap.size wx w4) :
    Walked B w (w4.setCell ⟨q, k, none⟩ (.pointer (some ⟨n, 0, none⟩))) g q sts (k + 1) (next c k n) := by
  obtain ⟨cg, hg⟩ := h.rowg
  obtain ⟨cq, hq, hq1, hq2⟩ := h.rowq
  obtain ⟨cl, hl⟩ := h.last.isCells
  have hB := Nat.le_trans h.base h.below.size
  have hsx := p3.size
  -- blocks that stay in wx
  have keep : ∀ b, b < wr.heap.size → b ≠ c k → wx.heap[b]? = wr.heap[b]? := fun b h1 h2 => p4 b h1 h2 (.inr ⟨rfl, rfl⟩)
  have ngk : g ≠ c k := by intro e; rw [e, hl] at hg; cases hg
  have nqk : q ≠ c k := by intro e; rw [e, hl] at hq; cases hq
  have hgx : wx.heap[g]? = some (.cells cg 36 (0, 0)) := (keep g (lt_of hg) ngk).trans hg
  have hqx : wx.heap[q]? = some (.cells cq 30 (0, 0)) := (keep q (lt_of hq) nqk).trans hq
  have hg4 : w4.heap[g]? = some (.cells cg 36 (0, 0)) := (h4.block g (lt_of hgx)).trans hgx
  have hq4 : w4.heap[q]? = some (.cells cq 30 (0, 0)) := (h4.block q (lt_of hqx)).trans hqx
  have ngq : g ≠ q := by intro e; rw [e, hq] at hg; cases hg
  -- a node of w4 stays behind the store
  have store : ∀ {b : Nat} {wh : Bool} {nm ne : Nat} {L : Step → Nat}, Proj B w4 b wh nm ne L → Proj B (w4.setCell ⟨q, k, none⟩ (.pointer (some ⟨n, 0, none⟩))) b wh nm ne L := by
    intro b wh nm ne L hp
    obtain ⟨cb, hb⟩ := hp.isCells
    refine hp.kept (Below.heap_setCell _ _ _ _ ?_) (fun b' _ hb' => Below.heap_setCell _ _ _ _ ?_)
    · intro e
      have e' : b = q := e
      rw [e', hq4] at hb
      cases hb
    · intro e
      have e' : b' = q := e
      obtain ⟨es, clock, hb'⟩ := hb'
      rw [e', hq4] at hb'
      cases hb'
  have cn : ∀ j, j ≤ k → next c k n j = c j := fun j hj => by unfold next; rw [if_neg (by omega)]
  have cn1 : next c k n (k + 1) = n := by unfold next; rw [if_pos rfl]
  have clt : ∀ j, j ≤ k → c j < wr.heap.size := by
    intro j hj
    by_cases e : j = k
    · subst e; exact h.last.lt
    · exact (h.node j (by omega) (by omega)).lt
  refine ⟨?_, ?_, ?_, ?_, ?_, ?_, ?_, h.base, h.baseq⟩
  · intro j hj hjk
    refine store (Proj.below ?_ h4)
    by_cases e : j = k
    · subst e
      rw [cn j (Nat.le_refl _), cn1]
      exact p2
    · rw [cn j (by omega), cn (j + 1) (by omega)]
      have hp := h.node j hj (by omega)
      refine hp.kept (keep _ hp.lt (fun e' => e (h.inj j k (by omega) (Nat.le_refl _) e'))) (fun b hb hm => keep b hb (fun e' => ?_))
      obtain ⟨es, clock, hm⟩ := hm
      rw [e', hl] at hm
      cases hm
  · rw [cn1]
    exact store (p1.below h4)
  · intro i j hi hj e
    by_cases ei : i = k + 1
    · by_cases ej : j = k + 1
      · omega
      · rw [ei, cn1, cn j (by omega)] at e
        have := clt j (by omega)
        omega
    · by_cases ej : j = k + 1
      · rw [ej, cn1, cn i (by omega)] at e
        have := clt i (by omega)
        omega
      · rw [cn i (by omega), cn j (by omega)] at e
        exact h.inj i j (by omega) (by omega) e
  · exact ((h.steps.same (hgx.trans hg.symm)).same (hg4.trans hgx.symm)).same (Below.heap_setCell _ _ _ _ (by simpa using ngq))
  · exact ⟨cg, (Below.heap_setCell _ _ _ _ (by simpa using ngq)).trans hg4⟩
  · refine ⟨_, heap_setCell_same _ _ _ _ _ _ hq4, by simpa using hq1, fun j hj => ?_⟩
    by_cases e : j = k
    · subst e
      rw [cn1, Array.getElem?_setIfInBounds_self_of_lt (by omega)]
    · rw [Array.getElem?_setIfInBounds_ne (by omega), cn (j + 1) (by omega)]
      exact hq2 j (by omega)
  · exact ((h.below.trans p3).trans (h4.mono (by omega))).setCell h.baseq _
end
end Go.Proofs.Qxb6601635a.child
