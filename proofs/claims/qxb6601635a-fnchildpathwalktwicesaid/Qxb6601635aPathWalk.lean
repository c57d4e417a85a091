import Derived.Test.Qxb6601635aChildWalked
import Derived.Deep.RegionWith
namespace Go.Proofs.Qxb6601635a.child
open Go.RowKit Go.Maps
set_option linter.unusedVariables false
theorem info30 : (Try.prog.info? 30).map (fun i => (i.zero, i.size, i.bytes)) = some (some (.pointer none), 1, 8) := by kernel_rfl

theorem Proj.drew {B : Nat} {w : World} {r : Nat} {wh : Bool} {nm ne : Nat} {L : Step → Nat} (h : Proj B w r wh nm ne L) : Proj B w.drew r wh nm ne L := h.kept rfl fun _ _ _ => rfl
theorem Walked.cells {B g q k : Nat} {w wr : World} {sts : List Step} {c : Nat → Nat} (h : Walked B w wr g q sts k c) (j : Nat) (hj : j < sts.length) : wr.cell? ⟨g, j * 2, none⟩ = some (.string sts[j].1) ∧ wr.cell? ⟨g, j * 2 + 1, none⟩ = some (.int .i64 sts[j].2) := by
  have := h.steps j hj
  rw [Nat.zero_add] at this
  exact this

/-- behind the call of child: the steps lie there, and there is room for the node -/
theorem Walked.mid {B g q k : Nat} {w wr wx : World} {sts : List Step} {c : Nat → Nat} (h : Walked B w wr g q sts k c) (hk : k < sts.length) (p4 : Others wr wx (c k) 0 0) :
    (wx.cell? ⟨g, k * 2, none⟩ = some (.string sts[k].1) ∧ wx.cell? ⟨g, k * 2 + 1, none⟩ = some (.int .i64 sts[k].2)) ∧
    ∀ w4, Below wx.heap.size wx w4 → ∃ v, w4.cell? ⟨q, k, none⟩ = some v ∧ w4.frozen? ⟨q, k, none⟩ = false := by
  obtain ⟨cg, hg⟩ := h.rowg
  obtain ⟨cq, hq, hq1, _⟩ := h.rowq
  obtain ⟨cl, hl⟩ := h.last.isCells
  have ngk : g ≠ c k := by intro e; rw [e, hl] at hg; cases hg
  have nqk : q ≠ c k := by intro e; rw [e, hl] at hq; cases hq
  have hgx : wx.heap[g]? = wr.heap[g]? := p4 g (lt_of hg) ngk (.inr ⟨rfl, rfl⟩)
  have hqx : wx.heap[q]? = some (.cells cq 30 (0, 0)) := (p4 q (lt_of hq) nqk (.inr ⟨rfl, rfl⟩)).trans hq
  refine ⟨?_, fun w4 h4 => ?_⟩
  · have := (h.steps.same hgx) k hk
    rw [Nat.zero_add] at this
    exact this
  · have hq4 : w4.heap[q]? = some (.cells cq 30 (0, 0)) := (h4.block q (lt_of hqx)).trans hqx
    exact ⟨cq[k]'(by omega), by rw [cell_of hq4, Array.getElem?_eq_getElem], free_of hq4 k⟩

theorem Walked.nodeAt {B g q k : Nat} {w wr : World} {sts : List Step} {c : Nat → Nat} (h : Walked B w wr g q sts k c) (j : Nat) (hj : j < k) : wr.cell? ⟨q, j, none⟩ = some (.pointer (some ⟨c (j + 1), 0, none⟩)) := by
  obtain ⟨cq, hq, _, hq2⟩ := h.rowq
  rw [cell_of hq]
  exact hq2 j hj

theorem Walked.start {w w1 w3 : World} {sts : List Step} {xs : List Value} (hb : Below w.heap.size w w1) (hg : ∃ cur, w1.heap[w.heap.size]? = some (.cells cur 36 (0, 0))) (hs : StepsAt w1 w.heap.size 0 sts)
    (hown : w3.ownsRow w1.heap.size 30 1 (.slice (some ⟨w1.heap.size + 1, 0, none⟩) sts.length sts.length) sts.length xs) (hgrow : (w1.alloc (.cells #[.bool false, .map none, .map none] 45)).grownBy w3 none) :
    Walked w.heap.size w w3 w.heap.size (w1.heap.size + 1) sts 0 (fun _ => w1.heap.size) := by
  obtain ⟨cg, hg⟩ := hg
  have e2 : (w1.alloc (.cells #[.bool false, .map none, .map none] 45)).heap.size = w1.heap.size + 1 := by simp
  have eg : w3.heap[w.heap.size]? = w1.heap[w.heap.size]? := (hgrow.block _ (by have := lt_of hg; omega) (by simp)).trans (Below.heap_alloc _ _ _ (lt_of hg))
  have er : w3.heap[w1.heap.size]? = some (.cells #[.bool false, .map none, .map none] 45 (0, 0)) := (hgrow.block _ (by omega) (by simp)).trans (heap_alloc_new _ _)
  refine ⟨fun j _ h => absurd h (Nat.not_lt_zero _), Proj.fresh hb.size er, fun i j hi hj _ => by omega, hs.same eg, ⟨cg, eg.trans hg⟩, ?_, ?_, Nat.le_refl _, by have := hb.size; omega⟩
  · obtain ⟨_, h | ⟨g, cap, cur, hv, _, hh, _, _, hsz, _⟩⟩ := hown
    · cases h.1
    · injection hv with h1 h2 h3
      injection h1 with h1
      injection h1 with h1
      subst h1
      subst h3
      exact ⟨cur, hh, by omega, fun j h => absurd h (Nat.not_lt_zero _)⟩
  · exact (hb.alloc hb.size _).grown hgrow (by have := hb.size; omega) (fun k h => by cases h)

set_option maxHeartbeats 1000000 in
theorem path_walk (b off cap : Nat) (sts : List Step) (w : World) (h0 : 0 < sts.length) (hn : sts.length ≤ maxLen) (hbl : b < w.heap.size) (h : StepsAt w b off sts) (hok : ∀ j (hj : j < sts.length), sts[j].1.size ≤ maxLen ∧ (Lit.int .i64 sts[j].2).wf = true) :
    Calls Try.prog 6 #[.slice (some ⟨b, off, none⟩) sts.length cap] w fun e w' => e = .returned (.bool true) ∧ Below w.heap.size w w' := by
  obtain ⟨i0, hi, hz0, hz1, hz2⟩ := info_parts info30
  go_enter Try.func6, Try.ntmps6
  go_wp2_with (go_at_call 25; refine (bytes25_any _ _ _ _ _ hn h).mono ?_; rintro e w ⟨⟨t, rfl, _⟩, rfl⟩; cases t)
  · go_ret
    exact ⟨rfl, Below.refl _ _⟩
  · go_wp2_with (go_at_call 12; refine (tooBig_any _ _ _ _ _ hn h).mono ?_; rintro e w ⟨⟨t, rfl, ht⟩, rfl⟩; have HT : Hid (t = false → sts.length ≤ 4096) := ht; clear ht; cases t)
    · have hn' := HT.out (by simp)
      clear HT
      go_wp2_with (first | (go_at_call 13; refine (copy_any _ _ _ _ _ hn' hbl h).mono ?_; rintro e w1 ⟨rfl, hb1, hg1, hs1⟩) | (go_at_call 14; refine (new_any _).mono ?_; rintro e w2 ⟨rfl, rfl⟩) | (at_make; refine wpList_make_full _ rfl _ _ 33 rfl w1.heap.size 30 i0 (.pointer none) 1 Try.underlying33 hi hz0 hz1 _ _ _ _ sts.length rfl rfl rfl rfl (by rw [hz2]; omega) (by unfold maxLen; omega) (by simp) ?_))
      intro w3 hown hgrow
      have hW := Walked.start hb1 hg1 hs1 hown hgrow
      obtain ⟨r, hr⟩ : ∃ r, r = w1.heap.size := ⟨_, rfl⟩
      obtain ⟨q, hq⟩ : ∃ q, q = w1.heap.size + 1 := ⟨_, rfl⟩
      rw [← hq, ← hr] at hW
      rw [← hq]
      rw [← hr]
      clear hown hgrow hq hr hb1 hg1 hs1 h hbl hi hz0 hz1 hz2
      go_wp2
      go_loopg [5, 6] sts.length (fun m cur i wr => ∃ (k : Nat) (c : Nat → Nat), k ≤ sts.length ∧ sts.length - k = m ∧ i = .int .i64 k ∧ c 0 = r ∧ cur = .pointer (some ⟨c k, 0, none⟩) ∧ Walked w.heap.size w wr w.heap.size q sts k c)
      case atStart => exact ⟨0, fun _ => r, Nat.zero_le _, rfl, rfl, rfl, rfl, hW⟩
      case round =>
        clear hW
        obtain ⟨k, c, hk, hgk, rfl, hc0, rfl, hW⟩ := hrel
        have HG := hide hgk
        have HC := hide hc0
        clear hgk hc0
        by_cases hlt : k < sts.length
        · have hB := Nat.le_trans hW.base hW.below.size
          have H := zzchild_new w.heap.size (c k) false 0 0 (fun _ => 0) sts[k] wr.drew (hok k hlt).1 (hok k hlt).2 hB (by unfold maxLen; omega) (by unfold maxLen; omega) hW.last.drew rfl
          obtain ⟨s1, s2⟩ := hW.cells k hlt
          go_upto_region 12 with fail
          go_cut [7] (fun s7 wx => ∃ n, wr.heap.size ≤ n ∧ s7 = .pointer (some ⟨n, 0, none⟩) ∧ Proj w.heap.size wx n false 0 0 (fun _ => 0) ∧ Proj w.heap.size wx (c k) false (mems sts[k] 0) (eles sts[k] 0) (put (fun _ => 0) sts[k] (n + 1)) ∧ Below w.heap.size wr wx ∧ Others wr wx (c k) 0 0)
          case first =>
            go_region_with (go_at_call 17; refine H.mono ?_; rintro e w' ⟨n, hc, rfl, p1, p2, p3, p4⟩)
            all_goals (go_wp2_with fail; go_meet; exact ⟨n, hc, rfl, p1, p2, ⟨p3.os, p3.tape, p3.output, p3.size, p3.block⟩, p4⟩)
          case rest =>
            obtain ⟨n, hn1, rfl, p1, p2, p3, p4⟩ := hcut
            have H18 : Calls Try.prog 18 #[.pointer (some ⟨n, 0, none⟩)] wc fun e w' => e = .returned (.bool true) ∧ w' = wc := by simpa using fresh_any p1
            have H26 := holds_any p2 sts[k] (hok k hlt).1 (hok k hlt).2 n (put_self _ _ _) rfl rfl
            obtain ⟨⟨x1, x2⟩, hroom⟩ := hW.mid hlt p4
            have hstep := fun w4 h4 => hW.step (w4 := w4) hlt hn1 p1 p2 p3 p4 h4
            clear H s1 s2 p1 p2 p3 p4 hB hW
            have HS := hide hstep
            clear hstep
            go_wp2_with (first | (go_at_call 18; refine H18.mono ?_; rintro e w' ⟨rfl, rfl⟩) | (go_at_call 26; refine H26.mono ?_; rintro e w4 ⟨rfl, h4⟩; obtain ⟨v4, c4, f4⟩ := hroom w4 h4))
            go_roundg (gk - 1)
            case measure => have := HG.out; omega
            case rel =>
              refine ⟨k + 1, next c k n, by omega, by have := HG.out; omega, by go_num, ?_, ?_, HS.out w4 h4⟩
              · unfold next; rw [if_neg (by omega)]; exact HC.out
              · unfold next; rw [if_pos rfl]
        · have ek : k = sts.length := by omega
          subst ek
          have hc0 := HC.out
          subst hc0
          clear HC HG hlt hk
          go_wp2
          go_loopg [5, 8] sts.length (fun m cur i wx => ∃ j : Nat, j ≤ sts.length ∧ sts.length - j = m ∧ i = .int .i64 j ∧ cur = .pointer (some ⟨c j, 0, none⟩) ∧ Walked w.heap.size w wx w.heap.size q sts sts.length c)
          case atStart => exact ⟨0, Nat.zero_le _, rfl, rfl, rfl, hW⟩
          case round =>
            clear hW
            obtain ⟨j, hj, hgj, rfl, rfl, hW⟩ := hrel
            have HG := hide hgj
            clear hgj
            by_cases hlt : j < sts.length
            · have hB := Nat.le_trans hW.base hW.below.size
              have hP := hW.node j hlt hlt
              have H := zzchild_old w.heap.size (c j) false _ _ _ sts[j] (c (j + 1)) wr.drew (hok j hlt).1 (hok j hlt).2 hP.drew (put_self _ _ _)
              obtain ⟨s1, s2⟩ := hW.cells j hlt
              clear hP
              go_upto_region 23 with fail
              go_cut [9] (fun s9 wx => s9 = .pointer (some ⟨c (j + 1), 0, none⟩) ∧ Below wr.heap.size wr wx)
              case first =>
                go_region_with (go_at_call 17; refine H.mono ?_; rintro e w' ⟨rfl, p3⟩)
                all_goals (go_wp2_with fail; go_meet; exact ⟨rfl, ⟨p3.os, p3.tape, p3.output, p3.size, p3.block⟩⟩)
              case rest =>
                obtain ⟨rfl, p3⟩ := hcut
                have hX := hW.keep p3 hB
                have hBx := Nat.le_trans hB p3.size
                have hP := hX.node j hlt hlt
                have H26 := holds_any hP sts[j] (hok j hlt).1 (hok j hlt).2 (c (j + 1)) (put_self _ _ _) rfl rfl
                obtain ⟨x1, x2⟩ := hX.cells j hlt
                have x3 := hX.nodeAt j hlt
                have q30 := neq30
                clear H s1 s2 p3 hB hW
                go_wp2_with (first | (go_at_call 26; refine H26.mono ?_; rintro e w4 ⟨rfl, h4⟩; have hP4 := hP.below h4) | (go_at_call 19; refine (whole_any hP4).mono ?_; rintro e w5 ⟨rfl, rfl⟩))
                go_roundg (gk - 1)
                case measure => have := HG.out; omega
                case rel => exact ⟨j + 1, by omega, by have := HG.out; omega, by go_num, rfl, hX.keep h4 hBx⟩
            · have ej : j = sts.length := by omega
              subst ej
              have H18 : Calls Try.prog 18 #[.pointer (some ⟨c sts.length, 0, none⟩)] wr fun e w' => e = .returned (.bool true) ∧ w' = wr := by simpa using fresh_any hW.last
              have hbl := hW.below
              clear hW
              go_wp2_with (go_at_call 18; refine H18.mono ?_; rintro e w9 ⟨rfl, rfl⟩)
              go_ret
              exact ⟨rfl, hbl⟩
    · go_wp2
      go_ret
      exact ⟨rfl, Below.refl _ _⟩
end Go.Proofs.Qxb6601635a.child
