import Derived.Test.Qxb6601635aScriptWalk
import Derived.Test.Qxb6601635aChildOpen
import Derived.ProofKit
import Derived.OpenShut
import Derived.ShutString
import Derived.ChangeOld
namespace Go.Proofs.Qxb6601635a.child
open Go.RowKit Go.Maps
set_option linter.unusedVariables false

set_option maxRecDepth 100000 in
theorem script_zero (wh : Bool) (a : Option Addr) (cap : Nat) (ha : a = none → cap = 0) (w : World) :
    Calls Try.prog 5 #[.bool wh, .slice a 0 cap] w fun e w' => e = .returned (.bool true) ∧ Below w.heap.size w w' := by
  obtain ⟨i0, hi, hz0, hz1, hz2⟩ := info_parts info30s
  obtain ⟨a', H13⟩ : ∃ a' : World → Option Addr, ∀ w, Calls Try.prog 13 #[.slice a 0 cap] w fun e w' => e = .returned (.slice (a' w) 0 0) ∧ Below w.heap.size w w' := by
    cases a with
    | none =>
      obtain rfl := ha rfl
      exact ⟨fun _ => none, fun w => copy_nil 0 w⟩
    | some a => exact ⟨_, fun w => copy_empty a cap w⟩
  clear ha
  go_enter Try.func5, Try.ntmps5
  go_wp2_with (go_at_call 11; refine (bytes11_none _ _ _ _).mono ?_; rintro e w ⟨⟨t, rfl, _⟩, rfl⟩; cases t)
  · go_ret
    exact ⟨rfl, Below.refl _ _⟩
  · go_wp2_with (go_at_call 12; refine (tooBig_none _ _ _).mono ?_; rintro e w ⟨⟨t, rfl, _⟩, rfl⟩; cases t)
    · go_wp2_with (first | (go_at_call 13; refine (H13 _).mono ?_; rintro e w1 ⟨rfl, hb1⟩) | (go_at_call 14; refine (new_any _).mono ?_; rintro e w2 ⟨rfl, rfl⟩) | (go_at_call 15; refine (setWhole_any _ _ false _ (cell_new0 _) (free_new0 _)).mono ?_; rintro e w2 ⟨rfl, rfl⟩) | (at_make; refine wpList_make_full _ rfl _ _ 33 rfl w1.heap.size 30 i0 (.pointer none) 1 Try.underlying33 hi hz0 hz1 _ _ _ _ 0 rfl rfl rfl rfl (by rw [hz2]; omega) (by unfold maxLen; omega) (by simp) ?_))
      intro w3 hown hgrow
      have hb3 : Below w.heap.size w w3 := (hb1.alloc hb1.size _).grown hgrow (by have := hb1.size; simp; omega) (fun k h => by cases h)
      clear hown hgrow
      go_wp2
      refine wp_loop_rounds 1 ?_
      rw [rounds_succ]
      go_wp2
      refine wp_loop_rounds 1 ?_
      rw [rounds_succ]
      go_wp2
      go_ret
      exact ⟨rfl, hb3⟩
    · go_wp2
      go_ret
      exact ⟨rfl, Below.refl _ _⟩

/-- every slice of steps that can be read -/
theorem script_any (wh : Bool) {a : Option Addr} {len cap : Nat} {W : World} (h : IsSteps W a len cap) : Calls Try.prog 5 #[.bool wh, .slice a len cap] W fun e w' => e = .returned (.bool true) ∧ Below W.heap.size W w' := by
  rcases h with ⟨rfl, ha⟩ | ⟨b, off, sts, rfl, rfl, h0, hn, hb, hs, hok⟩
  · exact script_zero wh a cap ha W
  · exact script_walk wh b off cap sts W h0 hn hb hs hok
end Go.Proofs.Qxb6601635a.child

namespace Go.Proofs.Qxb6601635a.fnChildScriptOnRoot
open Go.ChangeShapes Go.WideShapes Go.ChangeAt Go.RowKit
set_option linter.unusedVariables false

theorem own : ownKnob Try.prog.godebug = none := by kernel_rfl
theorem laidOut : laidOutB Try.prog = true := by kernel_rfl

set_option maxRecDepth 100000 in
theorem lifted (os : Os) (started : os.Started) (H : Type) (enc : TypeId × Value → H) :
    ReturnsInHanded {} Try.checked os 5 .any (Rows.fnChildScriptOnRootSpec.pre6 enc Try.prog Try.f5 Rows.fnChildScriptOnRootRow.domain false) (Rows.fnChildScriptOnRootSpec.post enc Try.prog Try.f5 false true false false) := by
  refine returnsInHanded_of_change (C := Try.checked) own started (by kernel_rfl) Try.func5
    (ChangeSpec.witness6 (enc := enc) (C := Try.checked) false ⟨#[], #[.bool false, .slice none 0 0], []⟩ 8 (by kernel_rfl) (by kernel_rfl) (by kernel_rfl) (by kernel_rfl)) ?_
  intro W base args ds gs before hval0 hW hcnd _
  have hval : ∀ (j : Nat) t v, Try.f5.params[j]? = some t → args[j]? = some v → Value.okWide Try.prog W .any base t v := hval0
  have hW' := hW
  obtain ⟨p, q, hA0, hV, rfl, hfz, hnd⟩ := hW
  have hA : DataW.TrodAll enc Try.prog W 0 (fun _ => true) true Try.f5.params.toList args.toList ds p := hA0
  rw [Try.params5] at hA hval
  obtain ⟨v0, vs0, d0, ds0, p0, q0, hargs, rfl, rfl, h0, r0⟩ := trodAll_cons hA
  obtain ⟨v1, vs1, d1, ds1, p1, q1, rfl, rfl, rfl, h1, r1⟩ := trodAll_cons r0
  obtain ⟨rfl, rfl, rfl⟩ := trodAll_nil r1
  obtain rfl : args = #[v0, v1] := by cases args; simp_all
  obtain ⟨rfl, rfl⟩ := trodVars_none hV
  obtain ⟨a0, rfl, rfl, rfl⟩ := open_bool Try.underlying4 (hval 0 4 v0 rfl rfl) h0
  obtain ⟨a1, len1, cap1, rfl⟩ := okWide_slice Try.underlying26 (hval 1 26 v1 rfl rfl)
  have k1 := h1
  have lt1 : ∀ x ∈ p1, x.block < W.heap.size := by obtain ⟨m, hm⟩ := k1; exact DataW.trod_lt m _ _ _ hm
  have w1 : child.IsSteps W a1 len1 cap1 := by
    obtain ⟨fuel, hf⟩ := h1
    exact child.open_steps hf
  clear hA0 hval0
  refine (child.script_any a0 w1).mono fun e W' ⟨he, bel⟩ => ?_
  subst he
  exact ⟨_, rfl, _, _, _, [], _, [], hW', trodAll_mk1 (shut_bool Try.underlying4 _), (trodAll_cons_mk (shut_bool Try.underlying4 _) (trodAll_cons_mk (Below.trod laidOut (by kernel_rfl) (of_decide_eq_true (by kernel_rfl)) k1 bel lt1) trodAll_mk0)), rfl, bel.frame _, fun h => by cases h⟩

theorem over : Rows.fnChildScriptOnRootRow.holds Try.pinned (OpenSpec.ofChange Rows.fnChildScriptOnRootSpec) :=
  OpenClaim.holds_of_wide 5 Try.f5 rfl rfl rfl rfl rfl rfl rfl ⟨rfl, rfl, rfl, rfl, rfl⟩ rfl rfl rfl rfl rfl (by kernel_rfl) Try.func5 (by kernel_rfl)
    (of_decide_eq_true (by kernel_rfl)) (by unfold Func.isWrapper; first | (rw [if_pos (by decide +kernel)]; kernel_rfl) | (rw [if_neg (by decide +kernel)]; exact ⟨rfl, rfl⟩))
    (fun os started H enc _ => lifted os started H enc)

/-- THE STATEMENT -/
theorem proved : Rows.FnChildScriptOnRootSaid := over
#print axioms proved
end Go.Proofs.Qxb6601635a.fnChildScriptOnRoot
