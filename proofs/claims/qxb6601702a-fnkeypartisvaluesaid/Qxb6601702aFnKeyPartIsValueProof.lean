import Derived.Test.Qxb6601702aRows
import Derived.WalkKit
import Derived.ProofKit
import Derived.OpenShut
import Derived.ShutString
import Derived.WalkSpells
import Derived.WalkLawsBesides
namespace Go.Proofs.Qxb6601702a.fnKeyPartIsValue
open Go.ChangeShapes Go.WideShapes Go.ChangeAt Go.RowKit
open Go.ChangeMaps (open_string shut_string)
set_option linter.unusedVariables false      -- a walk need not use every 'w<i>' (that an integer argument fits its kind)

theorem own : ownKnob Try.prog.godebug = none := by kernel_rfl

theorem ret_bool {a b : Bool} (h : a = b) : Ending.returned (.bool a) = .returned (.bool b) := by rw [h]
/-- byte k of s, as a number -/
def byteN (s : ByteArray) (k : Nat) : Int := ((s.data.toList.getD k 0).toNat : Int)
theorem byte_get (s : ByteArray) (k : Nat) (h : k < s.size) : (s[k].toNat : Int) = byteN s k := by
  unfold byteN
  have h' : k < s.data.toList.length := by simpa using h
  rw [List.getD_eq_getElem?_getD, List.getElem?_eq_getElem h']
  rfl
/-- may the byte c stand at place k of a key? -/
def okB (c : Int) (k : Nat) (d : Bool) : Bool := decide ((97 ≤ c ∧ c ≤ 122) ∨ (48 ≤ c ∧ c ≤ 57 ∧ (0 < k ∨ d = true)) ∨ (0 < k ∧ (c = 95 ∨ c = 45 ∨ c = 42 ∨ c = 47)))
def keyB (s : ByteArray) (m : Int) (d : Bool) : Bool := decide (0 < s.size) && (decide ((s.size : Int) ≤ m) && (List.range s.size).all fun j => okB (byteN s j) j d)
theorem keyB_no0 {s : ByteArray} {m : Int} {d : Bool} (h : s.size = 0) : keyB s m d = false := by simp [keyB, h]
theorem keyB_nom {s : ByteArray} {m : Int} {d : Bool} (h : m < s.size) : keyB s m d = false := by
  have : decide ((s.size : Int) ≤ m) = false := by simpa using h
  simp [keyB, this]
theorem keyB_nok {s : ByteArray} {m : Int} {d : Bool} (j : Nat) (h : j < s.size) (hb : okB (byteN s j) j d = false) : keyB s m d = false := by
  cases hk : keyB s m d with
  | false => rfl
  | true =>
    simp only [keyB, Bool.and_eq_true, List.all_eq_true, List.mem_range] at hk
    have := hk.2.2 j h
    rw [hb] at this
    exact absurd this (by decide)
theorem keyB_yes {s : ByteArray} {m : Int} {d : Bool} (h0 : 0 < s.size) (hm : (s.size : Int) ≤ m) (h : ∀ j, j < s.size → okB (byteN s j) j d = true) : keyB s m d = true := by
  simp only [keyB, Bool.and_eq_true, List.all_eq_true, List.mem_range, decide_eq_true_eq]
  exact ⟨h0, hm, h⟩
theorem snoc {k : Nat} {P : Nat → Prop} (h : ∀ j, j < k → P j) (hk : P k) : ∀ j, j < k + 1 → P j := by
  intro j hj
  by_cases e : j = k
  · subst e; exact hk
  · exact h j (by omega)

theorem empty_iff (s : ByteArray) : s.toList.isEmpty = decide (s.size = 0) := by
  rw [ByteArray.toList_eq]
  have h : s.size = s.data.toList.length := by simp
  rw [h]
  cases s.data.toList <;> simp

set_option maxHeartbeats 4000000 in
theorem part_any (s : ByteArray) (hs : s.size ≤ maxLen) (m : Int) (d : Bool) (w : World) :
    Calls Try.prog 16 #[.string s, .int .i64 m, .bool d] w fun e w' => e = .returned (.bool (keyB s m d)) ∧ w' = w := by
  unfold maxLen at hs
  by_cases h0 : s.size = 0
  · have he : s.toList.isEmpty = true := by rw [empty_iff]; simpa using h0
    have H0 : Hid (s.size = 0) := h0
    clear h0
    go_enter Try.func16, Try.ntmps16
    go_wp2
    go_ret
    exact ⟨ret_bool (keyB_no0 H0.out).symm, rfl⟩
  · have he : s.toList.isEmpty = false := by rw [empty_iff]; simpa using h0
    by_cases hm : m < s.size
    · go_enter Try.func16, Try.ntmps16
      go_wp2
      go_ret
      exact ⟨ret_bool (keyB_nom hm).symm, rfl⟩
    · go_enter Try.func16, Try.ntmps16
      go_wp2
      go_loop [19] (fun i => ∃ k : Nat, k ≤ s.size ∧ i = .int .i64 k ∧ ∀ j, j < k → okB (byteN s j) j d = true) (fun i => s.size - (intOf i).toNat)
      case atStart => exact ⟨0, Nat.zero_le _, rfl, fun j hj => absurd hj (Nat.not_lt_zero _)⟩
      case round =>
        obtain ⟨k, hk, rfl, hj⟩ := hrel
        have HJ : Hid (∀ j, j < k → okB (byteN s j) j d = true) := hj
        clear hj
        by_cases hlt : k < s.size
        · have HT : Hid ((s[k].toNat : Int) = byteN s k) := byte_get s k hlt
          by_cases hk0 : 0 < k <;> cases d
          all_goals
            go_wp2
            all_goals
              try simp only [beq_iff_eq, beq_eq_false_iff_ne, ne_eq] at *
              first
              | (go_round
                 case rel => exact ⟨k + 1, by omega, by go_num, snoc HJ.out (by rw [← HT.out]; simp [okB]; omega)⟩
                 case measure => simp [intOf]; omega)
              | (go_ret
                 exact ⟨ret_bool (keyB_nok k hlt (by rw [← HT.out]; simp [okB]; omega)).symm, rfl⟩)
        · go_wp2
          go_ret
          exact ⟨ret_bool (keyB_yes (by omega) (by omega) fun j hj => HJ.out j (by omega)).symm, rfl⟩


def valB (c : Int) : Bool := decide (32 ≤ c ∧ c ≤ 126 ∧ c ≠ 61)
theorem ok_val {c : Int} {k : Nat} {d : Bool} (h : okB c k d = true) : 32 ≤ c ∧ c ≤ 126 ∧ c ≠ 61 := by
  unfold okB at h
  simp only [decide_eq_true_eq] at h
  omega
theorem key_out {s : ByteArray} {m : Int} {d : Bool} (h : keyB s m d = true) : 0 < s.size ∧ ∀ j, j < s.size → okB (byteN s j) j d = true := by
  simp only [keyB, Bool.and_eq_true, List.all_eq_true, List.mem_range, decide_eq_true_eq] at h
  exact ⟨h.1, h.2.2⟩
theorem value_any (s : ByteArray) (h0 : 0 < s.size) (h1 : s.size ≤ 256) (hv : ∀ j, j < s.size → 32 ≤ byteN s j ∧ byteN s j ≤ 126 ∧ byteN s j ≠ 61) (w : World) :
    Calls Try.prog 18 #[.string s] w fun e w' => e = .returned (.bool true) ∧ w' = w := by
  have he : s.toList.isEmpty = false := by rw [empty_iff, decide_eq_false_iff_not]; omega
  have HV : Hid _ := hv
  clear hv
  go_enter Try.func18, Try.ntmps18
  go_wp2
  go_loop [14] (fun i => ∃ k : Nat, k ≤ s.size ∧ i = .int .i64 k) (fun i => s.size - (intOf i).toNat)
  case atStart => exact ⟨0, Nat.zero_le _, rfl⟩
  case round =>
    obtain ⟨k, hk, rfl⟩ := hrel
    by_cases hlt : k < s.size
    · have hv := HV.out k hlt
      rw [← byte_get s k hlt] at hv
      obtain ⟨v1, v2, v3⟩ := hv
      have v4 : ((s[k].toNat : Int) == 61) = false := by simpa using v3
      clear v3
      go_wp2
      go_round
      case rel => exact ⟨k + 1, by omega, by go_num⟩
      case measure => simp [intOf]; omega
    · go_wp2
      go_ret
      exact ⟨rfl, rfl⟩
theorem zzvalue_any (s : ByteArray) (h0 : 0 < s.size) (h1 : s.size ≤ 256) (hv : ∀ j, j < s.size → 32 ≤ byteN s j ∧ byteN s j ≤ 126 ∧ byteN s j ≠ 61) (w : World) :
    Calls Try.prog 14 #[.string s] w fun e w' => e = .returned (.bool true) ∧ w' = w := by
  have HV := value_any s h0 h1 hv
  clear hv
  go_enter Try.func14, Try.ntmps14
  go_wp2_with (go_at_call 18; refine (HV _).mono ?_; rintro e w' ⟨rfl, rfl⟩)
  go_ret
  exact ⟨rfl, rfl⟩

theorem zz_any (s : ByteArray) (hs : s.size ≤ maxLen) (m : Int) (d : Bool) (w : World) :
    Calls Try.prog 9 #[.string s, .int .i64 m, .bool d] w fun e w' => e = .returned (.bool (keyB s m d)) ∧ w' = w := by
  go_enter Try.func9, Try.ntmps9
  go_wp2_with (go_at_call 16; refine (part_any _ hs _ _ _).mono ?_; rintro e w' ⟨rfl, rfl⟩)
  go_ret
  exact ⟨rfl, rfl⟩

theorem walk (a0 : ByteArray) (a1 : Int) (a2 : Bool) (w0 : a0.size ≤ maxLen) (w1 : (Lit.int .i64 a1).wf = true) (w : World) :
    Calls Try.prog 6 #[.string a0, .int .i64 a1, .bool a2] w fun e w' => e = .returned (.bool true) ∧ Grown w w' := by
  have W0 := w0
  unfold maxLen at w0
  by_cases hb : 1048576 < a0.size
  · go_enter Try.func6, Try.ntmps6
    go_wp2
    go_ret
    exact ⟨rfl, Grown.refl _⟩
  · cases hk : keyB a0 a1 a2
    · go_enter Try.func6, Try.ntmps6
      go_wp2_with (first | (go_at_call 13; go_in) | (go_at_call 9; refine (zz_any _ W0 _ _ _).mono ?_; rintro e w' ⟨rfl, rfl⟩))
      go_ret
      exact ⟨rfl, Grown.refl _⟩
    · by_cases hl : 256 < a0.size
      · go_enter Try.func6, Try.ntmps6
        go_wp2_with (first | (go_at_call 13; go_in) | (go_at_call 9; refine (zz_any _ W0 _ _ _).mono ?_; rintro e w' ⟨rfl, rfl⟩))
        go_ret
        exact ⟨rfl, Grown.refl _⟩
      · have HV := zzvalue_any a0 (key_out hk).1 (by omega) fun j hj => ok_val ((key_out hk).2 j hj)
        go_enter Try.func6, Try.ntmps6
        go_wp2_with (first | (go_at_call 13; go_in) | (go_at_call 9; refine (zz_any _ W0 _ _ _).mono ?_; rintro e w' ⟨rfl, rfl⟩) | (go_at_call 14; refine (HV _).mono ?_; rintro e w' ⟨rfl, rfl⟩))
        go_ret
        exact ⟨rfl, Grown.refl _⟩

/-! ### THE ROW's STEP: WRITTEN OUT: LEAVE IT -/
set_option maxRecDepth 100000 in
theorem lifted (os : Os) (started : os.Started) (H : Type) (enc : TypeId × Value → H) :
    ReturnsInHanded {} Try.checked os 6 .any (Rows.fnKeyPartIsValueSpec.pre6 enc Try.prog Try.f6 Rows.fnKeyPartIsValueRow.domain false) (Rows.fnKeyPartIsValueSpec.post enc Try.prog Try.f6 false true false false) := by
  refine returnsInHanded_of_change (C := Try.checked) own started (by kernel_rfl) Try.func6
    (ChangeSpec.witness6 (enc := enc) (C := Try.checked) false ⟨#[], #[.string ByteArray.empty, .int .i64 0, .bool false], []⟩ 8 (by kernel_rfl) (by kernel_rfl) (by kernel_rfl) (by kernel_rfl)) ?_
  intro W base args ds gs before hval0 hW hcnd _
  have hval : ∀ (j : Nat) t v, Try.f6.params[j]? = some t → args[j]? = some v → Value.okWide Try.prog W .any base t v := hval0
  have hW' := hW
  obtain ⟨p, q, hA0, hV, rfl, hfz, hnd⟩ := hW
  have hA : DataW.TrodAll enc Try.prog W 0 (fun _ => true) true Try.f6.params.toList args.toList ds p := hA0
  rw [Try.params6] at hA hval
  obtain ⟨v0, vs0, d0, ds0, p0, q0, hargs, rfl, rfl, h0, r0⟩ := trodAll_cons hA
  obtain ⟨v1, vs1, d1, ds1, p1, q1, rfl, rfl, rfl, h1, r1⟩ := trodAll_cons r0
  obtain ⟨v2, vs2, d2, ds2, p2, q2, rfl, rfl, rfl, h2, r2⟩ := trodAll_cons r1
  obtain ⟨rfl, rfl, rfl⟩ := trodAll_nil r2
  obtain rfl : args = #[v0, v1, v2] := by cases args; simp_all
  obtain ⟨rfl, rfl⟩ := trodVars_none hV
  obtain ⟨a0, rfl, rfl, rfl, w0⟩ := open_string Try.underlying9 (hval 0 9 v0 rfl rfl) h0
  obtain ⟨a1, rfl, rfl, rfl, w1⟩ := open_int Try.underlying3 (hval 1 3 v1 rfl rfl) h1
  obtain ⟨a2, rfl, rfl, rfl⟩ := open_bool Try.underlying4 (hval 2 4 v2 rfl rfl) h2
  clear hA0 hval0
  simp only [List.append_nil] at hW'
  refine (walk a0 a1 a2 w0 w1 W).mono fun e W' ⟨he, hg⟩ => ?_
  subst he
  exact ⟨_, rfl, post_of_same (pa := []) (pv := []) hW' (fun _ _ _ => (trodAll_cons_mk (shut_bool Try.underlying4 _) trodAll_mk0)) (fun sp _ => (trodAll_cons_mk (shut_string Try.underlying9 w0) (trodAll_cons_mk (shut_int Try.underlying3 w1) (trodAll_cons_mk (shut_bool Try.underlying4 _) trodAll_mk0)))) (fun _ _ => rfl) rfl
    (hg.frame _) hg.2.1 (ok_one (by kernel_rfl) rfl (okWide_bool_mk Try.underlying4 _))⟩

theorem over : Rows.fnKeyPartIsValueRow.holds Try.pinned (OpenSpec.ofChange Rows.fnKeyPartIsValueSpec) :=
  OpenClaim.holds_of_wide 6 Try.f6 rfl rfl rfl rfl rfl rfl rfl ⟨rfl, rfl, rfl, rfl, rfl⟩ rfl rfl rfl rfl rfl (by kernel_rfl) Try.func6 (by kernel_rfl)
    (of_decide_eq_true (by kernel_rfl)) (by unfold Func.isWrapper; first | (rw [if_pos (by decide +kernel)]; kernel_rfl) | (rw [if_neg (by decide +kernel)]; exact ⟨rfl, rfl⟩))
    (fun os started H enc _ => lifted os started H enc)

/-- ████ THE STATEMENT ████ -/
theorem proved : Rows.FnKeyPartIsValueSaid :=
  over
#print axioms proved
end Go.Proofs.Qxb6601702a.fnKeyPartIsValue
