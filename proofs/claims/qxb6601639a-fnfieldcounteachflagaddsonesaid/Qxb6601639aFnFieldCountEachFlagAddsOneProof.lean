import Derived.Test.Qxb6601639aRows
import Derived.WalkKit
import Derived.ProofKit
import Derived.OpenShut
import Derived.ShutString
import Derived.WalkSpells
import Derived.WalkLawsBesides
namespace Go.Proofs.Qxb6601639a.fnFieldCountEachFlagAddsOne
open Go.ChangeShapes Go.WideShapes Go.ChangeAt Go.RowKit
open Go.ChangeMaps (open_string shut_string)
set_option linter.unusedVariables false      -- a walk need not use every 'w<i>' (that an integer argument fits its kind)

theorem own : ownKnob Try.prog.godebug = none := by kernel_rfl

def one (b : Bool) : Int := if b then 1 else 0
def cnt (a b c : Bool) : Int := 3 + one a + one b + one c
theorem one_t : one true = 1 := rfl
theorem one_f : one false = 0 := rfl
theorem one_bd (b : Bool) : 0 ≤ one b ∧ one b ≤ 1 := by cases b <;> decide
theorem ret_int {k : IntKind} {a b : Int} (h : a = b) : Ending.returned (.int k a) = .returned (.int k b) := by rw [h]

theorem count_any (a0 a1 a2 a3 a4 a5 a6 : Bool) (a7 : Int) (w : World) :
    Calls Try.prog 7 #[.agg #[.bool a0, .bool a1, .bool a2, .bool a3, .bool a4, .bool a5, .bool a6, .int .i64 a7]] w fun e w' => e = .returned (.int .i64 (cnt a0 a1 a2)) ∧ Grown w w' := by
  have b0 := one_bd a0
  have b1 := one_bd a1
  go_enter Try.func7, Try.ntmps7
  go_wp2
  go_loop [3, 14] (fun n i => ∃ t : Int, n = .int .i64 t ∧ 3 ≤ t ∧ t ≤ 6 ∧ ((i = .int .i64 0 ∧ t = 3) ∨ (i = .int .i64 1 ∧ t = 3 + one a0) ∨ (i = .int .i64 2 ∧ t = 3 + one a0 + one a1) ∨ (i = .int .i64 3 ∧ t = 3 + one a0 + one a1 + one a2))) (fun _ i => 3 - (intOf i).toNat)
  case atStart => exact ⟨3, rfl, by omega, by omega, .inl ⟨rfl, rfl⟩⟩
  case round =>
    obtain ⟨t, rfl, t3, t6, h | h | h | h⟩ := hrel
    · obtain ⟨rfl, ht⟩ := h
      have HT : Hid (t = 3) := ht
      have tb : t ≤ 3 := by omega
      clear ht
      cases a0
      all_goals
        go_wp2
        go_round
        case rel => exact ⟨_, rfl, by omega, by omega, .inr (.inl ⟨rfl, by rw [HT.out]; rfl⟩)⟩
        case measure => simp [intOf]
    · obtain ⟨rfl, ht⟩ := h
      have HT : Hid (t = 3 + one a0) := ht
      have tb : t ≤ 4 := by omega
      clear ht
      cases a1
      all_goals
        go_wp2
        go_round
        case rel => exact ⟨_, rfl, by omega, by omega, .inr (.inr (.inl ⟨rfl, by rw [HT.out]; first | rfl | simp [one]⟩))⟩
        case measure => simp [intOf]
    · obtain ⟨rfl, ht⟩ := h
      have HT : Hid (t = 3 + one a0 + one a1) := ht
      have tb : t ≤ 5 := by omega
      clear ht
      cases a2
      all_goals
        go_wp2
        go_round
        case rel => exact ⟨_, rfl, by omega, by omega, .inr (.inr (.inr ⟨rfl, by rw [HT.out]; first | rfl | simp [one]⟩))⟩
        case measure => simp [intOf]
    · obtain ⟨rfl, ht⟩ := h
      have HT : Hid (t = 3 + one a0 + one a1 + one a2) := ht
      clear ht
      go_wp2
      go_ret
      exact ⟨ret_int HT.out, by repeat (first | exact Grown.refl _ | apply Grown.drew | apply Grown.alloc)⟩

theorem zz_any (a0 a1 a2 a3 a4 a5 a6 : Bool) (a7 : Int) (w : World) :
    Calls Try.prog 5 #[.bool a0, .bool a1, .bool a2, .bool a3, .bool a4, .bool a5, .bool a6, .int .i64 a7] w fun e w' => e = .returned (.int .i64 (cnt a0 a1 a2)) ∧ Grown w w' := by
  go_enter Try.func5, Try.ntmps5
  go_wp2_with (go_at_call 7; refine (count_any _ _ _ _ _ _ _ _ _).mono ?_; rintro e w' ⟨rfl, hg⟩)
  go_ret
  exact ⟨rfl, hg⟩

theorem grown_trans {a b c : World} (h : Grown a b) (g : Grown b c) : Grown a c :=
  ⟨World.keptBut_trans h.1 g.1, fun x => (g.2.1 x).trans (h.2.1 x), Nat.le_trans h.2.2 g.2.2⟩

theorem walk (a0 : Bool) (a1 : Bool) (a2 : Bool) (a3 : Bool) (a4 : Bool) (a5 : Bool) (a6 : Bool) (a7 : Int) (w7 : (Lit.int .i64 a7).wf = true) (w : World) :
    Calls Try.prog 4 #[.bool a0, .bool a1, .bool a2, .bool a3, .bool a4, .bool a5, .bool a6, .int .i64 a7] w fun e w' => e = .returned (.bool true) ∧ Grown w w' := by
  have c0 : cnt false false false = 3 := rfl
  have c1 : cnt false false true = 4 := rfl
  have c2 : cnt false true false = 4 := rfl
  have c3 : cnt false true true = 5 := rfl
  have c4 : cnt true false false = 4 := rfl
  have c5 : cnt true false true = 5 := rfl
  have c6 : cnt true true false = 5 := rfl
  have c7 : cnt true true true = 6 := rfl
  cases a0 <;> cases a1 <;> cases a2
  all_goals
    go_enter Try.func4, Try.ntmps4
    go_wp2_with (go_at_call 5; refine (zz_any _ _ _ _ _ _ _ _ _).mono ?_; rintro e w' ⟨rfl, hg⟩)
    go_ret
    refine ⟨rfl, ?_⟩
    repeat (first | exact Grown.refl _ | refine grown_trans ?_ (by assumption))

/-! ### THE ROW's STEP: WRITTEN OUT: LEAVE IT -/
set_option maxRecDepth 100000 in
theorem lifted (os : Os) (started : os.Started) (H : Type) (enc : TypeId × Value → H) :
    ReturnsInHanded {} Try.checked os 4 .any (Rows.fnFieldCountEachFlagAddsOneSpec.pre6 enc Try.prog Try.f4 Rows.fnFieldCountEachFlagAddsOneRow.domain false) (Rows.fnFieldCountEachFlagAddsOneSpec.post enc Try.prog Try.f4 false true false false) := by
  refine returnsInHanded_of_change (C := Try.checked) own started (by kernel_rfl) Try.func4
    (ChangeSpec.witness6 (enc := enc) (C := Try.checked) false ⟨#[], #[.bool false, .bool false, .bool false, .bool false, .bool false, .bool false, .bool false, .int .i64 0], []⟩ 8 (by kernel_rfl) (by kernel_rfl) (by kernel_rfl) (by kernel_rfl)) ?_
  intro W base args ds gs before hval0 hW hcnd _
  have hval : ∀ (j : Nat) t v, Try.f4.params[j]? = some t → args[j]? = some v → Value.okWide Try.prog W .any base t v := hval0
  have hW' := hW
  obtain ⟨p, q, hA0, hV, rfl, hfz, hnd⟩ := hW
  have hA : DataW.TrodAll enc Try.prog W 0 (fun _ => true) true Try.f4.params.toList args.toList ds p := hA0
  rw [Try.params4] at hA hval
  obtain ⟨v0, vs0, d0, ds0, p0, q0, hargs, rfl, rfl, h0, r0⟩ := trodAll_cons hA
  obtain ⟨v1, vs1, d1, ds1, p1, q1, rfl, rfl, rfl, h1, r1⟩ := trodAll_cons r0
  obtain ⟨v2, vs2, d2, ds2, p2, q2, rfl, rfl, rfl, h2, r2⟩ := trodAll_cons r1
  obtain ⟨v3, vs3, d3, ds3, p3, q3, rfl, rfl, rfl, h3, r3⟩ := trodAll_cons r2
  obtain ⟨v4, vs4, d4, ds4, p4, q4, rfl, rfl, rfl, h4, r4⟩ := trodAll_cons r3
  obtain ⟨v5, vs5, d5, ds5, p5, q5, rfl, rfl, rfl, h5, r5⟩ := trodAll_cons r4
  obtain ⟨v6, vs6, d6, ds6, p6, q6, rfl, rfl, rfl, h6, r6⟩ := trodAll_cons r5
  obtain ⟨v7, vs7, d7, ds7, p7, q7, rfl, rfl, rfl, h7, r7⟩ := trodAll_cons r6
  obtain ⟨rfl, rfl, rfl⟩ := trodAll_nil r7
  obtain rfl : args = #[v0, v1, v2, v3, v4, v5, v6, v7] := by cases args; simp_all
  obtain ⟨rfl, rfl⟩ := trodVars_none hV
  obtain ⟨a0, rfl, rfl, rfl⟩ := open_bool Try.underlying4 (hval 0 4 v0 rfl rfl) h0
  obtain ⟨a1, rfl, rfl, rfl⟩ := open_bool Try.underlying4 (hval 1 4 v1 rfl rfl) h1
  obtain ⟨a2, rfl, rfl, rfl⟩ := open_bool Try.underlying4 (hval 2 4 v2 rfl rfl) h2
  obtain ⟨a3, rfl, rfl, rfl⟩ := open_bool Try.underlying4 (hval 3 4 v3 rfl rfl) h3
  obtain ⟨a4, rfl, rfl, rfl⟩ := open_bool Try.underlying4 (hval 4 4 v4 rfl rfl) h4
  obtain ⟨a5, rfl, rfl, rfl⟩ := open_bool Try.underlying4 (hval 5 4 v5 rfl rfl) h5
  obtain ⟨a6, rfl, rfl, rfl⟩ := open_bool Try.underlying4 (hval 6 4 v6 rfl rfl) h6
  obtain ⟨a7, rfl, rfl, rfl, w7⟩ := open_int Try.underlying3 (hval 7 3 v7 rfl rfl) h7
  clear hA0 hval0
  simp only [List.append_nil] at hW'
  refine (walk a0 a1 a2 a3 a4 a5 a6 a7 w7 W).mono fun e W' ⟨he, hg⟩ => ?_
  subst he
  exact ⟨_, rfl, post_of_same (pa := []) (pv := []) hW' (fun _ _ _ => (trodAll_cons_mk (shut_bool Try.underlying4 _) trodAll_mk0)) (fun sp _ => (trodAll_cons_mk (shut_bool Try.underlying4 _) (trodAll_cons_mk (shut_bool Try.underlying4 _) (trodAll_cons_mk (shut_bool Try.underlying4 _) (trodAll_cons_mk (shut_bool Try.underlying4 _) (trodAll_cons_mk (shut_bool Try.underlying4 _) (trodAll_cons_mk (shut_bool Try.underlying4 _) (trodAll_cons_mk (shut_bool Try.underlying4 _) (trodAll_cons_mk (shut_int Try.underlying3 w7) trodAll_mk0))))))))) (fun _ _ => rfl) rfl
    (hg.frame _) hg.2.1 (ok_one (by kernel_rfl) rfl (okWide_bool_mk Try.underlying4 _))⟩

theorem over : Rows.fnFieldCountEachFlagAddsOneRow.holds Try.pinned (OpenSpec.ofChange Rows.fnFieldCountEachFlagAddsOneSpec) :=
  OpenClaim.holds_of_wide 4 Try.f4 rfl rfl rfl rfl rfl rfl rfl ⟨rfl, rfl, rfl, rfl, rfl⟩ rfl rfl rfl rfl rfl (by kernel_rfl) Try.func4 (by kernel_rfl)
    (of_decide_eq_true (by kernel_rfl)) (by unfold Func.isWrapper; first | (rw [if_pos (by decide +kernel)]; kernel_rfl) | (rw [if_neg (by decide +kernel)]; exact ⟨rfl, rfl⟩))
    (fun os started H enc _ => lifted os started H enc)

/-- ████ THE STATEMENT ████ -/
theorem proved : Rows.FnFieldCountEachFlagAddsOneSaid :=
  over
#print axioms proved
end Go.Proofs.Qxb6601639a.fnFieldCountEachFlagAddsOne
