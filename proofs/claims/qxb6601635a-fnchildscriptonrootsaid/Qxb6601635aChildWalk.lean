import Derived.Test.Qxb6601635aChildMap
import Derived.WalkSpells
import Derived.WalkLawsBesides
import Derived.Deep.QuietTactic
import Derived.BigQuiet
import Derived.RegionTactic
import Derived.BigRegion
import Derived.ChangeAlike
import Derived.Deep.DeepCutAuto
import Derived.Deep.CutBlock
namespace Go.Proofs.Qxb6601635a.child
open Go.RowKit Go.Maps
set_option linter.unusedVariables false

theorem cell_of {w : World} {r : Nat} {cs : Array Value} {t : TypeId} (h : w.heap[r]? = some (.cells cs t (0, 0))) (i : Nat) : w.cell? ⟨r, i, none⟩ = cs[i]? := cell_of_row w r i cs t (0, 0) h
theorem free_of {w : World} {r : Nat} {cs : Array Value} {t : TypeId} (h : w.heap[r]? = some (.cells cs t (0, 0))) (i : Nat) : w.frozen? ⟨r, i, none⟩ = false := frozen_of_row w r i cs t h
theorem nil42 (w : World) (x : Option Nat) : (binOp .eql 42 (.map x) (.map none)).run Try.prog w = .ok (.bool x.isNone) w := run_eql_map_nil w _ _ _ x Try.underlying42
theorem nil43 (w : World) (x : Option Nat) : (binOp .eql 43 (.map x) (.map none)).run Try.prog w = .ok (.bool x.isNone) w := run_eql_map_nil w _ _ _ x Try.underlying43

theorem child_m_old (r mb n : Nat) (s : ByteArray) (hs : s.size ≤ maxLen) (wh : Bool) (ve : Value) (f : Lit → Nat) (c : Nat) (w : World)
    (hr : w.heap[r]? = some (.cells #[.bool wh, .map (some mb), ve] 45 (0, 0))) (hm : MapIs w 9 mb n f) (hf : f (.string s.data.toList) = c + 1) :
    Calls Try.prog 28 #[.pointer (some ⟨r, 0, none⟩), .agg #[.string s, .int .i64 (-1)]] w fun e w' => e = .returned (.pointer (some ⟨c, 0, none⟩)) ∧ Below w.heap.size w w' := by
  have hrl : r < w.heap.size := (Array.getElem?_eq_some_iff.1 hr).1
  have c1 : w.cell? ⟨r, 1, none⟩ = some (.map (some mb)) := cell_of hr 1
  have hmw : MapIs (w.alloc (.cells #[.string s, .int .i64 (-1)] 48)) 9 mb n f := hm.same (Below.heap_alloc _ _ _ hm.lt)
  have hl : ∀ q, (Instr.lookup 42 (.map (some mb)) (.string s) false).run Try.prog ((w.alloc (.cells #[.string s, .int .i64 (-1)] 48)).drewN q) = .ok (.pointer (some ⟨c, 0, none⟩)) ((w.alloc (.cells #[.string s, .int .i64 (-1)] 48)).drewN q) := by
    intro q
    have := MapIs.look (w := (w.alloc (.cells #[.string s, .int .i64 (-1)] 48)).drewN q) (hmw.same rfl) law9 Try.underlying42 (WideMaps.keyOf_string_mk Try.underlying9 hs)
    rw [hf] at this
    exact this
  have n42 := nil42
  clear hr hm hmw hf
  go_enter Try.func28, Try.ntmps28
  go_wp2
  go_quiet (fail)
  go_wp2
  go_quiet (fail)
  go_wp2
  go_ret
  exact ⟨rfl, below_drewN (below_drewN ((Below.refl _ _).alloc (Nat.le_refl _) _) _) _⟩

theorem child_e_old (r mb n : Nat) (s : ByteArray) (i : Int) (hi : (Lit.int .i64 i).wf = true) (hne : i ≠ -1) (wh : Bool) (vm : Value) (f : Lit → Nat) (c : Nat) (w : World)
    (hr : w.heap[r]? = some (.cells #[.bool wh, vm, .map (some mb)] 45 (0, 0))) (hm : MapIs w 3 mb n f) (hf : f (.int .i64 i) = c + 1) :
    Calls Try.prog 28 #[.pointer (some ⟨r, 0, none⟩), .agg #[.string s, .int .i64 i]] w fun e w' => e = .returned (.pointer (some ⟨c, 0, none⟩)) ∧ Below w.heap.size w w' := by
  have hrl : r < w.heap.size := (Array.getElem?_eq_some_iff.1 hr).1
  have c1 : w.cell? ⟨r, 2, none⟩ = some (.map (some mb)) := cell_of hr 2
  have hmw : MapIs (w.alloc (.cells #[.string s, .int .i64 i] 48)) 3 mb n f := hm.same (Below.heap_alloc _ _ _ hm.lt)
  have hl : ∀ q, (Instr.lookup 43 (.map (some mb)) (.int .i64 i) false).run Try.prog ((w.alloc (.cells #[.string s, .int .i64 i] 48)).drewN q) = .ok (.pointer (some ⟨c, 0, none⟩)) ((w.alloc (.cells #[.string s, .int .i64 i] 48)).drewN q) := by
    intro q
    have := MapIs.look (w := (w.alloc (.cells #[.string s, .int .i64 i] 48)).drewN q) (hmw.same rfl) law3 Try.underlying43 (keyOf_int_mk Try.underlying3 hi)
    rw [hf] at this
    exact this
  have n43 := nil43
  clear hr hm hmw hf
  have hne' : (i == -1) = false := by simpa using hne
  go_enter Try.func28, Try.ntmps28
  go_wp2
  go_quiet (fail)
  go_wp2
  go_quiet (fail)
  go_wp2
  go_ret
  exact ⟨rfl, below_drewN (below_drewN ((Below.refl _ _).alloc (Nat.le_refl _) _) _) _⟩

/-- what a call of child on the node r leaves of the other blocks -/
structure Turned (w wx : World) (r : Nat) (vm : Value) : Prop where
  os : wx.os = w.os
  tape : wx.tape = w.tape
  output : wx.output = w.output
  size : w.heap.size ≤ wx.heap.size
  block : ∀ k, k < w.heap.size → k ≠ r → vm ≠ .map (some k) → wx.heap[k]? = w.heap[k]?

theorem Turned.alloc {w wx : World} {r : Nat} {vm : Value} (h : Turned w wx r vm) (o : Obj) : Turned w (wx.alloc o) r vm :=
  ⟨h.os, h.tape, h.output, by have := h.size; simp; omega, fun k a b c => (Below.heap_alloc _ _ _ (by have := h.size; omega)).trans (h.block k a b c)⟩
theorem Turned.refl (w : World) (r : Nat) (vm : Value) : Turned w w r vm := ⟨rfl, rfl, rfl, Nat.le_refl _, fun _ _ _ _ => rfl⟩
theorem Turned.setCell {w wx : World} {r : Nat} {vm : Value} (h : Turned w wx r vm) (i : Nat) (u : Value) : Turned w (wx.setCell ⟨r, i, none⟩ u) r vm :=
  ⟨h.os, h.tape, h.output, by have := h.size; simp; omega, fun k a b c => (Below.heap_setCell _ _ _ _ (by simpa using b)).trans (h.block k a b c)⟩
theorem Turned.drewN {w wx : World} {r : Nat} {vm : Value} (h : Turned w wx r vm) (q : Nat) : Turned w (wx.drewN q) r vm := ⟨h.os, h.tape, h.output, h.size, h.block⟩
/-- a store into the map of the node: the node's own, or one that is new -/
theorem Turned.grown {w wx w' : World} {r mb : Nat} {x : Option Nat} (h : Turned w wx r (.map x)) (hg : wx.grownBy w' (some mb)) (hx : x = some mb ∨ w.heap.size ≤ mb) : Turned w w' r (.map x) := by
  refine ⟨hg.os.trans h.os, hg.tape.trans h.tape, hg.output.trans h.output, Nat.le_trans h.size hg.size, fun k a b c => (hg.block k (by have := h.size; omega) ?_).trans (h.block k a b c)⟩
  intro e
  injection e with e
  subst e
  rcases hx with hx | hx
  · exact c (by rw [hx])
  · omega

theorem ne_map {w : World} {r mb n : Nat} {k : TypeId} {f : Lit → Nat} {cs : Array Value} {t : TypeId} {fz : Nat × Nat} (hr : w.heap[r]? = some (.cells cs t fz)) (hm : MapIs w k mb n f) : r ≠ mb := by
  intro e
  subst e
  obtain ⟨es, clock, h⟩ := hm.isMap
  rw [h] at hr
  cases hr
theorem upd_same (f : Lit → Nat) (l : Lit) (c : Nat) (hl : WideAt.IsKeyLit l) : upd f l c l = c := by
  unfold upd
  rw [if_pos (WideAt.sameKey_self hl)]

/-- what lies there behind the store of the new node -/
theorem stored {w wc w6 : World} {r mb n q : Nat} {k : TypeId} {f f' : Lit → Nat} {cs box : Array Value} (hr : wc.heap[r]? = some (.cells cs 45 (0, 0))) (hbx : wc.heap[w.heap.size]? = some (.cells box 48 (0, 0))) (hm : MapIs wc k mb n f)
    (hg : ((wc.drewN q).alloc (.cells #[.bool false, .map none, .map none] 45)).grownBy w6 (some mb)) :
    w6.heap[r]? = some (.cells cs 45 (0, 0)) ∧ w6.heap[w.heap.size]? = some (.cells box 48 (0, 0)) ∧ w6.heap[wc.heap.size]? = some (.cells #[.bool false, .map none, .map none] 45 (0, 0)) := by
  have l1 := (Array.getElem?_eq_some_iff.1 hr).1
  have l2 := (Array.getElem?_eq_some_iff.1 hbx).1
  have l3 := hm.lt
  have n1 := ne_map hr hm
  have n2 := ne_map hbx hm
  have es : ((wc.drewN q).alloc (.cells #[.bool false, .map none, .map none] 45)).heap.size = wc.heap.size + 1 := by simp
  refine ⟨?_, ?_, ?_⟩
  · rw [hg.block r (by omega) (by intro e; injection e with e; exact n1 e), Below.heap_alloc _ _ _ (by exact l1)]
    exact hr
  · rw [hg.block _ (by omega) (by intro e; injection e with e; exact n2 e), Below.heap_alloc _ _ _ (by exact l2)]
    exact hbx
  · rw [hg.block _ (by omega) (by intro e; injection e with e; omega)]
    exact heap_alloc_new (wc.drewN q) _

theorem made_first {B r : Nat} {w : World} {wh : Bool} {ve : Value} {vm : Value} {f : Lit → Nat} (hr : w.heap[r]? = some (.cells #[.bool wh, vm, ve] 45 (0, 0))) (hBw : B ≤ w.heap.size) (hf : ∀ l, f l = 0) (box : Array Value) (k : TypeId) (x : Option Nat) :
    ∃ mb, (((w.setCell ⟨r, 1, none⟩ (.map (some (w.heap.size + 1)))).alloc (.cells box 48)).alloc (.map #[] 0)).heap[r]? = some (.cells #[.bool wh, .map (some mb), ve] 45 (0, 0)) ∧
      (((w.setCell ⟨r, 1, none⟩ (.map (some (w.heap.size + 1)))).alloc (.cells box 48)).alloc (.map #[] 0)).heap[w.heap.size]? = some (.cells box 48 (0, 0)) ∧
      MapIs (((w.setCell ⟨r, 1, none⟩ (.map (some (w.heap.size + 1)))).alloc (.cells box 48)).alloc (.map #[] 0)) k mb 0 f ∧ B ≤ mb ∧ (x = some mb ∨ w.heap.size ≤ mb) ∧
      mb < (((w.setCell ⟨r, 1, none⟩ (.map (some (w.heap.size + 1)))).alloc (.cells box 48)).alloc (.map #[] 0)).heap.size ∧
      w.heap.size < (((w.setCell ⟨r, 1, none⟩ (.map (some (w.heap.size + 1)))).alloc (.cells box 48)).alloc (.map #[] 0)).heap.size ∧
      Turned w (((w.setCell ⟨r, 1, none⟩ (.map (some (w.heap.size + 1)))).alloc (.cells box 48)).alloc (.map #[] 0)) r (.map x) := by
  have hrl : r < w.heap.size := (Array.getElem?_eq_some_iff.1 hr).1
  have e1 : (w.setCell ⟨r, 1, none⟩ (.map (some (w.heap.size + 1)))).heap.size = w.heap.size := by simp
  have e2 : ((w.setCell ⟨r, 1, none⟩ (.map (some (w.heap.size + 1)))).alloc (.cells box 48)).heap.size = w.heap.size + 1 := by simp
  have ef : f = fun _ => 0 := funext hf
  refine ⟨w.heap.size + 1, ?_, ?_, ?_, by omega, .inr (by omega), by simp, by simp; omega, (((Turned.refl _ _ _).setCell _ _).alloc _).alloc _⟩
  · rw [Below.heap_alloc _ _ _ (by omega), Below.heap_alloc _ _ _ (by omega), heap_setCell_same w r 1 _ 45 _ hr]
    rfl
  · rw [Below.heap_alloc _ _ _ (by omega)]
    have := heap_alloc_new (w.setCell ⟨r, 1, none⟩ (.map (some (w.heap.size + 1)))) (.cells box 48)
    rw [e1] at this
    exact this
  · have := MapIs.made ((w.setCell ⟨r, 1, none⟩ (.map (some (w.heap.size + 1)))).alloc (.cells box 48)) k
    rw [e2, ← ef] at this
    exact this

theorem made_first2 {B r : Nat} {w : World} {wh : Bool} {ve : Value} {vm : Value} {f : Lit → Nat} (hr : w.heap[r]? = some (.cells #[.bool wh, vm, ve] 45 (0, 0))) (hBw : B ≤ w.heap.size) (hf : ∀ l, f l = 0) (box : Array Value) (k : TypeId) (x : Option Nat) :
    ∃ mb, (((w.setCell ⟨r, 2, none⟩ (.map (some (w.heap.size + 1)))).alloc (.cells box 48)).alloc (.map #[] 0)).heap[r]? = some (.cells #[.bool wh, vm, .map (some mb)] 45 (0, 0)) ∧
      (((w.setCell ⟨r, 2, none⟩ (.map (some (w.heap.size + 1)))).alloc (.cells box 48)).alloc (.map #[] 0)).heap[w.heap.size]? = some (.cells box 48 (0, 0)) ∧
      MapIs (((w.setCell ⟨r, 2, none⟩ (.map (some (w.heap.size + 1)))).alloc (.cells box 48)).alloc (.map #[] 0)) k mb 0 f ∧ B ≤ mb ∧ (x = some mb ∨ w.heap.size ≤ mb) ∧
      mb < (((w.setCell ⟨r, 2, none⟩ (.map (some (w.heap.size + 1)))).alloc (.cells box 48)).alloc (.map #[] 0)).heap.size ∧
      w.heap.size < (((w.setCell ⟨r, 2, none⟩ (.map (some (w.heap.size + 1)))).alloc (.cells box 48)).alloc (.map #[] 0)).heap.size ∧
      Turned w (((w.setCell ⟨r, 2, none⟩ (.map (some (w.heap.size + 1)))).alloc (.cells box 48)).alloc (.map #[] 0)) r (.map x) := by
  have hrl : r < w.heap.size := (Array.getElem?_eq_some_iff.1 hr).1
  have e1 : (w.setCell ⟨r, 2, none⟩ (.map (some (w.heap.size + 1)))).heap.size = w.heap.size := by simp
  have e2 : ((w.setCell ⟨r, 2, none⟩ (.map (some (w.heap.size + 1)))).alloc (.cells box 48)).heap.size = w.heap.size + 1 := by simp
  have ef : f = fun _ => 0 := funext hf
  refine ⟨w.heap.size + 1, ?_, ?_, ?_, by omega, .inr (by omega), by simp, by simp; omega, (((Turned.refl _ _ _).setCell _ _).alloc _).alloc _⟩
  · rw [Below.heap_alloc _ _ _ (by omega), Below.heap_alloc _ _ _ (by omega), heap_setCell_same w r 2 _ 45 _ hr]
    rfl
  · rw [Below.heap_alloc _ _ _ (by omega)]
    have := heap_alloc_new (w.setCell ⟨r, 2, none⟩ (.map (some (w.heap.size + 1)))) (.cells box 48)
    rw [e1] at this
    exact this
  · have := MapIs.made ((w.setCell ⟨r, 2, none⟩ (.map (some (w.heap.size + 1)))).alloc (.cells box 48)) k
    rw [e2, ← ef] at this
    exact this

theorem child_m_new (B r n : Nat) (s : ByteArray) (hs : s.size ≤ maxLen) (wh : Bool) (vm ve : Value) (f : Lit → Nat) (w : World) (hn : n < maxLen)
    (hr : w.heap[r]? = some (.cells #[.bool wh, vm, ve] 45 (0, 0))) (hBw : B ≤ w.heap.size) (hm : MapV B w 9 vm n f) (hf : f (.string s.data.toList) = 0) :
    Calls Try.prog 28 #[.pointer (some ⟨r, 0, none⟩), .agg #[.string s, .int .i64 (-1)]] w fun e w' => ∃ c mb, w.heap.size ≤ c ∧ B ≤ mb ∧ (vm = .map (some mb) ∨ w.heap.size ≤ mb) ∧ e = .returned (.pointer (some ⟨c, 0, none⟩)) ∧
      w'.heap[c]? = some (.cells #[.bool false, .map none, .map none] 45 (0, 0)) ∧ w'.heap[r]? = some (.cells #[.bool wh, .map (some mb), ve] 45 (0, 0)) ∧ MapIs w' 9 mb (n + 1) (upd f (.string s.data.toList) (c + 1)) ∧ Turned w w' r vm := by
  obtain ⟨x, rfl⟩ : ∃ x, vm = .map x := by
    rcases hm with ⟨h, _⟩ | ⟨b, h, _⟩
    · exact ⟨_, h⟩
    · exact ⟨_, h⟩
  have hrl : r < w.heap.size := (Array.getElem?_eq_some_iff.1 hr).1
  have c1 : w.cell? ⟨r, 1, none⟩ = some (.map x) := cell_of hr 1
  have f1 : w.frozen? ⟨r, 1, none⟩ = false := free_of hr 1
  have n42 := nil42
  have hmk := @run_makeMap Try.prog
  go_enter Try.func28, Try.ntmps28
  go_upto_if 12 with fail
  go_cut [] (fun wx => ∃ mb, wx.heap[r]? = some (.cells #[.bool wh, .map (some mb), ve] 45 (0, 0)) ∧ wx.heap[w.heap.size]? = some (.cells #[.string s, .int .i64 (-1)] 48 (0, 0)) ∧ MapIs wx 9 mb n f ∧ B ≤ mb ∧ (x = some mb ∨ w.heap.size ≤ mb) ∧ mb < wx.heap.size ∧ w.heap.size < wx.heap.size ∧ Turned w wx r (.map x))
  case first =>
    rcases hm with ⟨h1, rfl, h3⟩ | ⟨b, h1, h2, h3, h4⟩
    · obtain rfl : x = none := by injection h1
      go_wp2
      go_meet
      exact made_first hr hBw h3 _ 9 _
    · obtain rfl : x = some b := by injection h1
      go_wp2
      go_meet
      exact ⟨b, (Below.heap_alloc _ _ _ hrl).trans hr, heap_alloc_new _ _, h4.same (Below.heap_alloc _ _ _ h4.lt), h2, .inl rfl, by have := h4.lt; simp; omega, by simp, (Turned.refl _ _ _).alloc _⟩
  case rest =>
    obtain ⟨mb, hr', hbx, hm', hB, hxm, hmb, hwc, ht⟩ := hcut
    clear hm hr c1 f1 n42 hmk
    have c1 : wc.cell? ⟨r, 1, none⟩ = some (.map (some mb)) := cell_of hr' 1
    have cb : wc.cell? ⟨w.heap.size, 0, none⟩ = some (.string s) := cell_of hbx 0
    have hrc : r < wc.heap.size := Nat.lt_trans hrl hwc
    have cbA : ∀ q o, ((wc.drewN q).alloc o).cell? ⟨w.heap.size, 0, none⟩ = some (.string s) := fun q o => (World.cell?_alloc_lt _ _ _ hwc).trans cb
    have c1A : ∀ q o, ((wc.drewN q).alloc o).cell? ⟨r, 1, none⟩ = some (.map (some mb)) := fun q o => (World.cell?_alloc_lt _ _ _ hrc).trans c1
    have hl : ∀ q, (Instr.lookup 42 (.map (some mb)) (.string s) false).run Try.prog (wc.drewN q) = .ok (.pointer none) (wc.drewN q) := by
      intro q
      have := MapIs.look (w := wc.drewN q) (hm'.same rfl) law9 Try.underlying42 (WideMaps.keyOf_string_mk Try.underlying9 hs)
      rw [hf] at this
      exact this
    go_wp2
    go_quiet (fail)
    go_wp2
    obtain ⟨w6, hst, hm6, hg6⟩ := MapIs.store (w := (wc.drewN (nq + 1)).alloc (.cells #[.bool false, .map none, .map none] 45)) (hm'.same (Below.heap_alloc _ _ _ hmb)) law9 Try.underlying42 hn (WideMaps.keyOf_string_mk Try.underlying9 hs) hf wc.heap.size
    go_region
    obtain ⟨hr6, hb6, hn6⟩ := stored (w := w) (f' := f) hr' hbx hm' hg6
    have c6 : w6.cell? ⟨r, 1, none⟩ = some (.map (some mb)) := cell_of hr6 1
    have cb6 : w6.cell? ⟨w.heap.size, 0, none⟩ = some (.string s) := cell_of hb6 0
    have hl6 : ∀ q, (Instr.lookup 42 (.map (some mb)) (.string s) false).run Try.prog (w6.drewN q) = .ok (.pointer (some ⟨wc.heap.size, 0, none⟩)) (w6.drewN q) := by
      intro q
      have := MapIs.look (w := w6.drewN q) (hm6.same rfl) law9 Try.underlying42 (WideMaps.keyOf_string_mk Try.underlying9 hs)
      rw [upd_same _ (.string s.data.toList) _ trivial] at this
      exact this
    have ht6 := (((ht.drewN (nq + 1)).alloc (.cells #[.bool false, .map none, .map none] 45))).grown hg6 hxm
    clear hl c1 cb cbA c1A hst hg6 ht hr' hbx hm'
    go_wp2
    go_quiet (fail)
    go_wp2
    go_ret
    exact ⟨wc.heap.size, mb, Nat.le_of_lt hwc, hB, (by rcases hxm with h | h; exact .inl (by rw [h]); exact .inr h), rfl, hn6, hr6, hm6.same rfl, ht6.drewN _⟩
theorem child_e_new (B r n : Nat) (s : ByteArray) (i : Int) (hi : (Lit.int .i64 i).wf = true) (hne : i ≠ -1) (wh : Bool) (vm ve : Value) (f : Lit → Nat) (w : World) (hn : n < maxLen)
    (hr : w.heap[r]? = some (.cells #[.bool wh, vm, ve] 45 (0, 0))) (hBw : B ≤ w.heap.size) (hm : MapV B w 3 ve n f) (hf : f (.int .i64 i) = 0) :
    Calls Try.prog 28 #[.pointer (some ⟨r, 0, none⟩), .agg #[.string s, .int .i64 i]] w fun e w' => ∃ c mb, w.heap.size ≤ c ∧ B ≤ mb ∧ (ve = .map (some mb) ∨ w.heap.size ≤ mb) ∧ e = .returned (.pointer (some ⟨c, 0, none⟩)) ∧
      w'.heap[c]? = some (.cells #[.bool false, .map none, .map none] 45 (0, 0)) ∧ w'.heap[r]? = some (.cells #[.bool wh, vm, .map (some mb)] 45 (0, 0)) ∧ MapIs w' 3 mb (n + 1) (upd f (.int .i64 i) (c + 1)) ∧ Turned w w' r ve := by
  obtain ⟨x, rfl⟩ : ∃ x, ve = .map x := by
    rcases hm with ⟨h, _⟩ | ⟨b, h, _⟩
    · exact ⟨_, h⟩
    · exact ⟨_, h⟩
  have hrl : r < w.heap.size := (Array.getElem?_eq_some_iff.1 hr).1
  have c1 : w.cell? ⟨r, 2, none⟩ = some (.map x) := cell_of hr 2
  have f1 : w.frozen? ⟨r, 2, none⟩ = false := free_of hr 2
  have n43 := nil43
  have hmk := @run_makeMap Try.prog
  have hne' : (i == -1) = false := by simpa using hne
  go_enter Try.func28, Try.ntmps28
  go_upto_if 43 with fail
  go_cut [] (fun wx => ∃ mb, wx.heap[r]? = some (.cells #[.bool wh, vm, .map (some mb)] 45 (0, 0)) ∧ wx.heap[w.heap.size]? = some (.cells #[.string s, .int .i64 i] 48 (0, 0)) ∧ MapIs wx 3 mb n f ∧ B ≤ mb ∧ (x = some mb ∨ w.heap.size ≤ mb) ∧ mb < wx.heap.size ∧ w.heap.size < wx.heap.size ∧ Turned w wx r (.map x))
  case first =>
    rcases hm with ⟨h1, rfl, h3⟩ | ⟨b, h1, h2, h3, h4⟩
    · obtain rfl : x = none := by injection h1
      go_wp2
      go_meet
      exact made_first2 hr hBw h3 _ 3 _
    · obtain rfl : x = some b := by injection h1
      go_wp2
      go_meet
      exact ⟨b, (Below.heap_alloc _ _ _ hrl).trans hr, heap_alloc_new _ _, h4.same (Below.heap_alloc _ _ _ h4.lt), h2, .inl rfl, by have := h4.lt; simp; omega, by simp, (Turned.refl _ _ _).alloc _⟩
  case rest =>
    obtain ⟨mb, hr', hbx, hm', hB, hxm, hmb, hwc, ht⟩ := hcut
    clear hm hr c1 f1 n43 hmk
    have c1 : wc.cell? ⟨r, 2, none⟩ = some (.map (some mb)) := cell_of hr' 2
    have cb : wc.cell? ⟨w.heap.size, 1, none⟩ = some (.int .i64 i) := cell_of hbx 1
    have hrc : r < wc.heap.size := Nat.lt_trans hrl hwc
    have cbA : ∀ q o, ((wc.drewN q).alloc o).cell? ⟨w.heap.size, 1, none⟩ = some (.int .i64 i) := fun q o => (World.cell?_alloc_lt _ _ _ hwc).trans cb
    have c1A : ∀ q o, ((wc.drewN q).alloc o).cell? ⟨r, 2, none⟩ = some (.map (some mb)) := fun q o => (World.cell?_alloc_lt _ _ _ hrc).trans c1
    have hl : ∀ q, (Instr.lookup 43 (.map (some mb)) (.int .i64 i) false).run Try.prog (wc.drewN q) = .ok (.pointer none) (wc.drewN q) := by
      intro q
      have := MapIs.look (w := wc.drewN q) (hm'.same rfl) law3 Try.underlying43 (keyOf_int_mk Try.underlying3 hi)
      rw [hf] at this
      exact this
    go_wp2
    go_quiet (fail)
    go_wp2
    obtain ⟨w6, hst, hm6, hg6⟩ := MapIs.store (w := (wc.drewN (nq + 1)).alloc (.cells #[.bool false, .map none, .map none] 45)) (hm'.same (Below.heap_alloc _ _ _ hmb)) law3 Try.underlying43 hn (keyOf_int_mk Try.underlying3 hi) hf wc.heap.size
    go_region
    obtain ⟨hr6, hb6, hn6⟩ := stored (w := w) (f' := f) hr' hbx hm' hg6
    have c6 : w6.cell? ⟨r, 2, none⟩ = some (.map (some mb)) := cell_of hr6 2
    have cb6 : w6.cell? ⟨w.heap.size, 1, none⟩ = some (.int .i64 i) := cell_of hb6 1
    have hl6 : ∀ q, (Instr.lookup 43 (.map (some mb)) (.int .i64 i) false).run Try.prog (w6.drewN q) = .ok (.pointer (some ⟨wc.heap.size, 0, none⟩)) (w6.drewN q) := by
      intro q
      have := MapIs.look (w := w6.drewN q) (hm6.same rfl) law3 Try.underlying43 (keyOf_int_mk Try.underlying3 hi)
      rw [upd_same _ (.int .i64 i) _ trivial] at this
      exact this
    have ht6 := (((ht.drewN (nq + 1)).alloc (.cells #[.bool false, .map none, .map none] 45))).grown hg6 hxm
    clear hl c1 cb cbA c1A hst hg6 ht hr' hbx hm'
    go_wp2
    go_quiet (fail)
    go_wp2
    go_ret
    exact ⟨wc.heap.size, mb, Nat.le_of_lt hwc, hB, (by rcases hxm with h | h; exact .inl (by rw [h]); exact .inr h), rfl, hn6, hr6, hm6.same rfl, ht6.drewN _⟩
end Go.Proofs.Qxb6601635a.child
