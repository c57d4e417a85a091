import Derived.Test.Qxb6601702aRows
import Derived.WalkKit
import Derived.ProofKit
import Derived.OpenShut
import Derived.ShutString
import Derived.WalkSpells
import Derived.WalkLawsBesides
namespace Go.Proofs.Qxb6601702a.fnKeyPartMatchesModel
open Go.ChangeShapes Go.WideShapes Go.ChangeAt Go.RowKit
open Go.ChangeMaps (open_string shut_string)
set_option linter.unusedVariables false      -- a walk need not use every 'w<i>' (that an integer argument fits its kind)

theorem own : ownKnob Try.prog.godebug = none := by kernel_rfl

theorem ret_bool {a b : Bool} (h : a = b) : Ending.returned (.bool a) = .returned (.bool b) := by rw [h]
/-- byte k of s, as a number -/
def byteN (s : ByteArray) (k : Nat) : Int := ((s.data.toList.getD k 0).toNat : Int)
theorem byte_get (s : ByteArray) (k : Nat) (h : k < s.size) : (s[k].toNat : Int) = byteN s k := by
  unfold byteN
  have h' : k < s.data.toList.length := by simpa using h
  rw [List.getD_eq_getElem?_getD, List.getElem?_eq_getElem h']
  rfl
/-- may the byte c stand at place k of a key? -/
def okB (c : Int) (k : Nat) (d : Bool) : Bool := decide ((97 ≤ c ∧ c ≤ 122) ∨ (48 ≤ c ∧ c ≤ 57 ∧ (0 < k ∨ d = true)) ∨ (0 < k ∧ (c = 95 ∨ c = 45 ∨ c = 42 ∨ c = 47)))
def keyB (s : ByteArray) (m : Int) (d : Bool) : Bool := decide (0 < s.size) && (decide ((s.size : Int) ≤ m) && (List.range s.size).all fun j => okB (byteN s j) j d)
theorem keyB_no0 {s : ByteArray} {m : Int} {d : Bool} (h : s.size = 0) : keyB s m d = false := by simp [keyB, h]
theorem keyB_nom {s : ByteArray} {m : Int} {d : Bool} (h : m < s.size) : keyB s m d = false := by
  have : decide ((s.size : Int) ≤ m) = false := by simpa using h
  simp [keyB, this]
theorem keyB_nok {s : ByteArray} {m : Int} {d : Bool} (j : Nat) (h : j < s.size) (hb : okB (byteN s j) j d = false) : keyB s m d = false := by
  cases hk : keyB s m d with
  | false => rfl
  | true =>
    simp only [keyB, Bool.and_eq_true, List.all_eq_true, List.mem_range] at hk
    have := hk.2.2 j h
    rw [hb] at this
    exact absurd this (by decide)
theorem keyB_yes {s : ByteArray} {m : Int} {d : Bool} (h0 : 0 < s.size) (hm : (s.size : Int) ≤ m) (h : ∀ j, j < s.size → okB (byteN s j) j d = true) : keyB s m d = true := by
  simp only [keyB, Bool.and_eq_true, List.all_eq_true, List.mem_range, decide_eq_true_eq]
  exact ⟨h0, hm, h⟩
theorem snoc {k : Nat} {P : Nat → Prop} (h : ∀ j, j < k → P j) (hk : P k) : ∀ j, j < k + 1 → P j := by
  intro j hj
  by_cases e : j = k
  · subst e; exact hk
  · exact h j (by omega)

theorem empty_iff (s : ByteArray) : s.toList.isEmpty = decide (s.size = 0) := by
  rw [ByteArray.toList_eq]
  have h : s.size = s.data.toList.length := by simp
  rw [h]
  cases s.data.toList <;> simp

set_option maxHeartbeats 4000000 in
theorem part_any (s : ByteArray) (hs : s.size ≤ maxLen) (m : Int) (d : Bool) (w : World) :
    Calls Try.prog 16 #[.string s, .int .i64 m, .bool d] w fun e w' => e = .returned (.bool (keyB s m d)) ∧ w' = w := by
  unfold maxLen at hs
  by_cases h0 : s.size = 0
  · have he : s.toList.isEmpty = true := by rw [empty_iff]; simpa using h0
    have H0 : Hid (s.size = 0) := h0
    clear h0
    go_enter Try.func16, Try.ntmps16
    go_wp2
    go_ret
    exact ⟨ret_bool (keyB_no0 H0.out).symm, rfl⟩
  · have he : s.toList.isEmpty = false := by rw [empty_iff]; simpa using h0
    by_cases hm : m < s.size
    · go_enter Try.func16, Try.ntmps16
      go_wp2
      go_ret
      exact ⟨ret_bool (keyB_nom hm).symm, rfl⟩
    · go_enter Try.func16, Try.ntmps16
      go_wp2
      go_loop [19] (fun i => ∃ k : Nat, k ≤ s.size ∧ i = .int .i64 k ∧ ∀ j, j < k → okB (byteN s j) j d = true) (fun i => s.size - (intOf i).toNat)
      case atStart => exact ⟨0, Nat.zero_le _, rfl, fun j hj => absurd hj (Nat.not_lt_zero _)⟩
      case round =>
        obtain ⟨k, hk, rfl, hj⟩ := hrel
        have HJ : Hid (∀ j, j < k → okB (byteN s j) j d = true) := hj
        clear hj
        by_cases hlt : k < s.size
        · have HT : Hid ((s[k].toNat : Int) = byteN s k) := byte_get s k hlt
          by_cases hk0 : 0 < k <;> cases d
          all_goals
            go_wp2
            all_goals
              try simp only [beq_iff_eq, beq_eq_false_iff_ne, ne_eq] at *
              first
              | (go_round
                 case rel => exact ⟨k + 1, by omega, by go_num, snoc HJ.out (by rw [← HT.out]; simp [okB]; omega)⟩
                 case measure => simp [intOf]; omega)
              | (go_ret
                 exact ⟨ret_bool (keyB_nok k hlt (by rw [← HT.out]; simp [okB]; omega)).symm, rfl⟩)
        · go_wp2
          go_ret
          exact ⟨ret_bool (keyB_yes (by omega) (by omega) fun j hj => HJ.out j (by omega)).symm, rfl⟩

theorem ret_int {k : IntKind} {a b : Int} (h : a = b) : Ending.returned (.int k a) = .returned (.int k b) := by rw [h]
/-- the kind of a key's byte: 1 a lowercase letter, 2 a digit, 3 a mark, 0 anything else -/
def cls (c : Int) : Int := if 97 ≤ c ∧ c ≤ 122 then 1 else if 48 ≤ c ∧ c ≤ 57 then 2 else if c = 95 ∨ c = 45 ∨ c = 42 ∨ c = 47 then 3 else 0
theorem cls_bd (c : Int) : 0 ≤ cls c ∧ cls c ≤ 3 := by
  unfold cls
  repeat' split
  all_goals omega
theorem ok_zero (c : Int) (d : Bool) : okB c 0 d = true ↔ (cls c = 1 ∨ (cls c = 2 ∧ d = true)) := by
  unfold okB cls
  cases d <;> simp only [decide_eq_true_eq] <;> repeat' split
  all_goals first | omega | simp
  all_goals omega
theorem ok_pos (c : Int) (k : Nat) (d : Bool) (h : 0 < k) : okB c k d = true ↔ cls c ≠ 0 := by
  unfold okB cls
  cases d <;> simp only [decide_eq_true_eq] <;> repeat' split
  all_goals first | omega | simp
  all_goals omega

theorem class_any (c : Int) (w : World) :
    Calls Try.prog 17 #[.int .u8 c] w fun e w' => e = .returned (.int .i64 (cls c)) ∧ w' = w := by
  go_enter Try.func17, Try.ntmps17
  go_wp2
  all_goals
    go_ret
    refine ⟨ret_int ?_, rfl⟩
    try simp only [beq_iff_eq, beq_eq_false_iff_ne, ne_eq] at *
    unfold cls
    repeat' split
    all_goals first | rfl | omega

theorem bad_law {s : ByteArray} {m : Int} {d : Bool} (t : Int) (h0 : 0 < s.size) (hm : (s.size : Int) ≤ m) (h1 : okB (byteN s 0) 0 d = true)
    (ht : t = 0 ↔ ∀ j, 1 ≤ j → j < s.size → cls (byteN s j) ≠ 0) : (t == 0) = keyB s m d := by
  by_cases e : t = 0
  · rw [keyB_yes h0 hm]
    · simpa using e
    · intro j hj
      by_cases z : j = 0
      · subst z; exact h1
      · exact (ok_pos _ j d (by omega)).2 (ht.1 e j (by omega) hj)
  · have hn : ¬ ∀ j, 1 ≤ j → j < s.size → cls (byteN s j) ≠ 0 := fun h => e (ht.2 h)
    have : ∃ j, 1 ≤ j ∧ j < s.size ∧ cls (byteN s j) = 0 := by
      refine Classical.byContradiction fun hc => hn fun j a b c => hc ⟨j, a, b, c⟩
    obtain ⟨j, a, b, c⟩ := this
    have : okB (byteN s j) j d = false := by
      cases hb : okB (byteN s j) j d with
      | false => rfl
      | true => exact absurd c ((ok_pos _ j d (by omega)).1 hb)
    rw [keyB_nok j b this]
    simpa using e
theorem bad_step {s : ByteArray} {k : Nat} {t t' : Int} (hk : 1 ≤ k) (h0 : 0 ≤ t) (ht : t = 0 ↔ ∀ j, 1 ≤ j → j < k → cls (byteN s j) ≠ 0)
    (h : (cls (byteN s k) = 0 ∧ t' = t + 1) ∨ (cls (byteN s k) ≠ 0 ∧ t' = t)) : t' = 0 ↔ ∀ j, 1 ≤ j → j < k + 1 → cls (byteN s j) ≠ 0 := by
  rcases h with ⟨hc, rfl⟩ | ⟨hc, rfl⟩
  · constructor
    · intro e; omega
    · intro g; exact absurd hc (g k hk (by omega))
  · rw [ht]
    constructor
    · intro g j a b
      by_cases e : j = k
      · subst e; exact hc
      · exact g j a (by omega)
    · intro g j a b; exact g j a (by omega)

theorem hide {p : Prop} (h : p) : Hid p := h
theorem first_cases (c : Int) (d : Bool) : ((cls c == 1) = true ∧ okB c 0 d = true) ∨ ((cls c == 1) = false ∧ (cls c == 2) = false ∧ okB c 0 d = false) ∨ ((cls c == 1) = false ∧ (cls c == 2) = true ∧ d = true ∧ okB c 0 d = true) ∨ ((cls c == 1) = false ∧ (cls c == 2) = true ∧ d = false ∧ okB c 0 d = false) := by
  have z := ok_zero c d
  by_cases e1 : cls c = 1
  · exact .inl ⟨by simpa using e1, z.2 (.inl e1)⟩
  · have e1' : (cls c == 1) = false := by simpa using e1
    by_cases e2 : cls c = 2
    · have e2' : (cls c == 2) = true := by simpa using e2
      cases d
      · refine .inr (.inr (.inr ⟨e1', e2', rfl, ?_⟩))
        cases hb : okB c 0 false
        · rfl
        · rcases z.1 hb with h | h
          · exact absurd h e1
          · exact absurd h.2 (by decide)
      · exact .inr (.inr (.inl ⟨e1', e2', rfl, z.2 (.inr ⟨e2, rfl⟩)⟩))
    · have e2' : (cls c == 2) = false := by simpa using e2
      refine .inr (.inl ⟨e1', e2', ?_⟩)
      cases hb : okB c 0 d
      · rfl
      · rcases z.1 hb with h | h
        · exact absurd h e1
        · exact absurd h.1 e2

set_option maxHeartbeats 1000000 in
theorem model_any (s : ByteArray) (hs : s.size ≤ maxLen) (m : Int) (d : Bool) (w : World) :
    Calls Try.prog 10 #[.string s, .int .i64 m, .bool d] w fun e w' => e = .returned (.bool (keyB s m d)) ∧ w' = w := by
  unfold maxLen at hs
  by_cases h0 : s.size = 0
  · have hz : ((s.size : Int) == 0) = true := by simpa using h0
    have H0 : Hid (s.size = 0) := h0
    clear h0
    go_enter Try.func10, Try.ntmps10
    go_wp2
    go_ret
    exact ⟨ret_bool (keyB_no0 H0.out).symm, rfl⟩
  · have hz : ((s.size : Int) == 0) = false := by simpa using h0
    have hp : 0 < s.size := by omega
    clear h0
    by_cases hm : m < s.size
    · go_enter Try.func10, Try.ntmps10
      go_wp2
      go_ret
      exact ⟨ret_bool (keyB_nom hm).symm, rfl⟩
    · have HT : Hid ((s[0].toNat : Int) = byteN s 0) := byte_get s 0 hp
      have HF : Hid _ := first_cases (s[0].toNat : Int) d
      rcases HF.out with ⟨a, f⟩ | ⟨a, b, f⟩ | ⟨a, b, rfl, f⟩ | ⟨a, b, rfl, f⟩
      all_goals
        have F := hide f
        clear f HF
        go_enter Try.func10, Try.ntmps10
        go_wp2_with (go_at_call 17; refine (class_any _ _).mono ?_; rintro e w' ⟨rfl, rfl⟩)
      all_goals
        go_loop [10, 11] (fun n i => ∃ (k : Nat) (t : Int), 1 ≤ k ∧ k ≤ s.size ∧ 0 ≤ t ∧ t ≤ k ∧ i = .int .i64 k ∧ n = .int .i64 t ∧ (t = 0 ↔ ∀ j, 1 ≤ j → j < k → cls (byteN s j) ≠ 0)) (fun _ i => s.size - (intOf i).toNat)
        case atStart => exact ⟨1, 0, by omega, by omega, by omega, by omega, rfl, rfl, fun _ j a b => by omega, fun _ => rfl⟩
        case round =>
          obtain ⟨k, t, k1, k2, t1, t2, rfl, rfl, ht⟩ := hrel
          have HB := hide ht
          clear ht
          by_cases hlt : k < s.size
          · have HK := hide (byte_get s k hlt)
            by_cases hc : (cls (s[k].toNat : Int) == 0) = true
            · go_wp2_with (go_at_call 17; refine (class_any _ _).mono ?_; rintro e w' ⟨rfl, rfl⟩)
              go_round
              case rel => exact ⟨k + 1, t + 1, by omega, by omega, by omega, by omega, by go_num, rfl, bad_step k1 t1 HB.out (.inl ⟨by rw [← HK.out]; simpa using hc, rfl⟩)⟩
              case measure => simp [intOf]; omega
            · have hc' : (cls (s[k].toNat : Int) == 0) = false := by simpa using hc
              clear hc
              go_wp2_with (go_at_call 17; refine (class_any _ _).mono ?_; rintro e w' ⟨rfl, rfl⟩)
              go_round
              case rel => exact ⟨k + 1, t, by omega, by omega, by omega, by omega, by go_num, rfl, bad_step k1 t1 HB.out (.inr ⟨by rw [← HK.out]; simpa using hc', rfl⟩)⟩
              case measure => simp [intOf]; omega
          · have ek : k = s.size := by omega
            subst ek
            go_wp2
            go_ret
            first
            | exact ⟨ret_bool (bad_law t hp (by omega) (by rw [← HT.out]; exact F.out) HB.out), rfl⟩
            | exact ⟨ret_bool (keyB_nok 0 hp (by rw [← HT.out]; exact F.out)).symm, rfl⟩

theorem zz_any (s : ByteArray) (hs : s.size ≤ maxLen) (m : Int) (d : Bool) (w : World) :
    Calls Try.prog 9 #[.string s, .int .i64 m, .bool d] w fun e w' => e = .returned (.bool (keyB s m d)) ∧ w' = w := by
  go_enter Try.func9, Try.ntmps9
  go_wp2_with (go_at_call 16; refine (part_any _ hs _ _ _).mono ?_; rintro e w' ⟨rfl, rfl⟩)
  go_ret
  exact ⟨rfl, rfl⟩

theorem walk (a0 : ByteArray) (a1 : Int) (a2 : Bool) (w0 : a0.size ≤ maxLen) (w1 : (Lit.int .i64 a1).wf = true) (w : World) :
    Calls Try.prog 3 #[.string a0, .int .i64 a1, .bool a2] w fun e w' => e = .returned (.bool true) ∧ Grown w w' := by
  have W0 := w0
  unfold maxLen at w0
  by_cases hb : 1048576 < a0.size
  · go_enter Try.func3, Try.ntmps3
    go_wp2
    go_ret
    exact ⟨rfl, Grown.refl _⟩
  · go_enter Try.func3, Try.ntmps3
    go_wp2_with (first | (go_at_call 8; go_in) | (go_at_call 9; refine (zz_any _ W0 _ _ _).mono ?_; rintro e w' ⟨rfl, rfl⟩) | (go_at_call 10; refine (model_any _ W0 _ _ _).mono ?_; rintro e w' ⟨rfl, rfl⟩))
    go_ret
    exact ⟨ret_bool (by simp), Grown.refl _⟩

/-! ### THE ROW's STEP: WRITTEN OUT: LEAVE IT -/
set_option maxRecDepth 100000 in
theorem lifted (os : Os) (started : os.Started) (H : Type) (enc : TypeId × Value → H) :
    ReturnsInHanded {} Try.checked os 3 .any (Rows.fnKeyPartMatchesModelSpec.pre6 enc Try.prog Try.f3 Rows.fnKeyPartMatchesModelRow.domain false) (Rows.fnKeyPartMatchesModelSpec.post enc Try.prog Try.f3 false true false false) := by
  refine returnsInHanded_of_change (C := Try.checked) own started (by kernel_rfl) Try.func3
    (ChangeSpec.witness6 (enc := enc) (C := Try.checked) false ⟨#[], #[.string ByteArray.empty, .int .i64 0, .bool false], []⟩ 8 (by kernel_rfl) (by kernel_rfl) (by kernel_rfl) (by kernel_rfl)) ?_
  intro W base args ds gs before hval0 hW hcnd _
  have hval : ∀ (j : Nat) t v, Try.f3.params[j]? = some t → args[j]? = some v → Value.okWide Try.prog W .any base t v := hval0
  have hW' := hW
  obtain ⟨p, q, hA0, hV, rfl, hfz, hnd⟩ := hW
  have hA : DataW.TrodAll enc Try.prog W 0 (fun _ => true) true Try.f3.params.toList args.toList ds p := hA0
  rw [Try.params3] at hA hval
  obtain ⟨v0, vs0, d0, ds0, p0, q0, hargs, rfl, rfl, h0, r0⟩ := trodAll_cons hA
  obtain ⟨v1, vs1, d1, ds1, p1, q1, rfl, rfl, rfl, h1, r1⟩ := trodAll_cons r0
  obtain ⟨v2, vs2, d2, ds2, p2, q2, rfl, rfl, rfl, h2, r2⟩ := trodAll_cons r1
  obtain ⟨rfl, rfl, rfl⟩ := trodAll_nil r2
  obtain rfl : args = #[v0, v1, v2] := by cases args; simp_all
  obtain ⟨rfl, rfl⟩ := trodVars_none hV
  obtain ⟨a0, rfl, rfl, rfl, w0⟩ := open_string Try.underlying9 (hval 0 9 v0 rfl rfl) h0
  obtain ⟨a1, rfl, rfl, rfl, w1⟩ := open_int Try.underlying3 (hval 1 3 v1 rfl rfl) h1
  obtain ⟨a2, rfl, rfl, rfl⟩ := open_bool Try.underlying4 (hval 2 4 v2 rfl rfl) h2
  clear hA0 hval0
  simp only [List.append_nil] at hW'
  refine (walk a0 a1 a2 w0 w1 W).mono fun e W' ⟨he, hg⟩ => ?_
  subst he
  exact ⟨_, rfl, post_of_same (pa := []) (pv := []) hW' (fun _ _ _ => (trodAll_cons_mk (shut_bool Try.underlying4 _) trodAll_mk0)) (fun sp _ => (trodAll_cons_mk (shut_string Try.underlying9 w0) (trodAll_cons_mk (shut_int Try.underlying3 w1) (trodAll_cons_mk (shut_bool Try.underlying4 _) trodAll_mk0)))) (fun _ _ => rfl) rfl
    (hg.frame _) hg.2.1 (ok_one (by kernel_rfl) rfl (okWide_bool_mk Try.underlying4 _))⟩

theorem over : Rows.fnKeyPartMatchesModelRow.holds Try.pinned (OpenSpec.ofChange Rows.fnKeyPartMatchesModelSpec) :=
  OpenClaim.holds_of_wide 3 Try.f3 rfl rfl rfl rfl rfl rfl rfl ⟨rfl, rfl, rfl, rfl, rfl⟩ rfl rfl rfl rfl rfl (by kernel_rfl) Try.func3 (by kernel_rfl)
    (of_decide_eq_true (by kernel_rfl)) (by unfold Func.isWrapper; first | (rw [if_pos (by decide +kernel)]; kernel_rfl) | (rw [if_neg (by decide +kernel)]; exact ⟨rfl, rfl⟩))
    (fun os started H enc _ => lifted os started H enc)

/-- ████ THE STATEMENT ████ -/
theorem proved : Rows.FnKeyPartMatchesModelSaid :=
  over
#print axioms proved
end Go.Proofs.Qxb6601702a.fnKeyPartMatchesModel
