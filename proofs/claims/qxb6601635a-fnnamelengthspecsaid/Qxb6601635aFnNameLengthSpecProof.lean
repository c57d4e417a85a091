import Derived.Test.Qxb6601635aRows
import Derived.WalkKit
import Derived.ProofKit
import Derived.OpenShut
import Derived.ShutString
import Derived.WalkSpells
import Derived.WalkLawsBesides
namespace Go.Proofs.Qxb6601635a.fnNameLengthSpec
open Go.ChangeShapes Go.WideShapes Go.ChangeAt Go.RowKit
open Go.ChangeMaps (open_string shut_string)
set_option linter.unusedVariables false      -- a walk need not use every 'w<i>' (that an integer argument fits its kind)

theorem own : ownKnob Try.prog.godebug = none := by kernel_rfl

def letB (c : Int) : Bool := decide ((97 ≤ c ∧ c ≤ 122) ∨ (65 ≤ c ∧ c ≤ 90) ∨ c = 95)
def digB (c : Int) : Bool := decide (48 ≤ c ∧ c ≤ 57)
def nameB (c : Int) : Bool := letB c || digB c
theorem ret_bool {a b : Bool} (h : a = b) : Ending.returned (.bool a) = .returned (.bool b) := by rw [h]

def tab : ByteArray := ⟨#[65, 66, 67, 68, 69, 70, 71, 72, 73, 74, 75, 76, 77, 78, 79, 80, 81, 82, 83, 84, 85, 86, 87, 88, 89, 90, 97, 98, 99, 100, 101, 102, 103, 104, 105, 106, 107, 108, 109, 110, 111, 112, 113, 114, 115, 116, 117, 118, 119, 120, 121, 122, 48, 49, 50, 51, 52, 53, 54, 55, 56, 57, 95]⟩
def tabN (k : Nat) : Nat := (tab.data.toList.getD k 0).toNat
theorem tab_get (k : Nat) (h : k < tab.size) : tab[k].toNat = tabN k := by
  unfold tabN
  have h' : k < tab.data.toList.length := by simpa using h
  rw [List.getD_eq_getElem?_getD, List.getElem?_eq_getElem h']
  rfl
theorem tab_hit : ∀ k : Fin 63, nameB (tabN k.val : Int) = true := by decide +kernel
theorem tab_all : ∀ c : Fin 256, nameB (c.val : Int) = true → ∃ k : Fin 63, tabN k.val = c.val := by decide +kernel
theorem name_hit (c : Int) (k : Nat) (hk : k < 63) (h : (tabN k : Int) = c) : nameB c = true := by
  have := tab_hit ⟨k, hk⟩
  simpa [h] using this
theorem name_miss (c : Int) (h0 : 0 ≤ c) (h1 : c ≤ 255) (h : ∀ k, k < 63 → (tabN k : Int) ≠ c) : nameB c = false := by
  cases hn : nameB c with
  | false => rfl
  | true =>
    have := tab_all ⟨c.toNat, by omega⟩ (by simpa [Int.toNat_of_nonneg h0] using hn)
    obtain ⟨k, hk⟩ := this
    exact absurd (by simp at hk; omega) (h k.val k.isLt)

theorem digit_any (c : Int) (w : World) :
    Calls Try.prog 32 #[.int .u8 c] w fun e w' => e = .returned (.bool (digB c)) ∧ w' = w := by
  go_enter Try.func32, Try.ntmps32
  go_wp2
  all_goals go_ret
  all_goals exact ⟨ret_bool (by simp [digB]; try omega), rfl⟩

theorem letter_any (c : Int) (w : World) :
    Calls Try.prog 31 #[.int .u8 c] w fun e w' => e = .returned (.bool (letB c)) ∧ w' = w := by
  go_enter Try.func31, Try.ntmps31
  go_wp2
  all_goals go_ret
  all_goals exact ⟨ret_bool (by rw [Bool.eq_iff_iff]; simp [letB]; try omega), rfl⟩

theorem alpha_any (c : Int) (h0 : 0 ≤ c) (h1 : c ≤ 255) (w : World) :
    Calls Try.prog 9 #[.int .u8 c] w fun e w' => e = .returned (.bool (nameB c)) ∧ w' = w := by
  go_enter Try.func9, Try.ntmps9
  go_wp2
  go_loop [3] (fun i => ∃ k : Nat, k ≤ 63 ∧ i = .int .i64 k ∧ ∀ j, j < k → (tabN j : Int) ≠ c) (fun i => 63 - (intOf i).toNat)
  case atStart => exact ⟨0, Nat.zero_le _, rfl, fun j hj => absurd hj (Nat.not_lt_zero _)⟩
  case round =>
    obtain ⟨k, hk, rfl, hj⟩ := hrel
    have HJ : Hid (∀ j, j < k → (tabN j : Int) ≠ c) := hj
    clear hj
    by_cases hlt : k < 63
    · have ht : tab[k].toNat = tabN k := tab_get k hlt
      have HT : Hid (tab[k].toNat = tabN k) := ht
      clear ht
      go_wp2
      · go_ret
        rename_i hh _
        have hh' : ((tab[k].toNat : Int) == c) = true := hh
        rw [HT.out] at hh'
        exact ⟨ret_bool (name_hit c k hlt (by simpa using hh')).symm, rfl⟩
      · rename_i hh
        have hh' : ((tab[k].toNat : Int) == c) = false := hh
        rw [HT.out] at hh'
        go_round
        case rel => 
          refine ⟨k + 1, by omega, by go_num, fun j hj => ?_⟩
          by_cases e : j = k
          · subst e; simpa using hh'
          · exact HJ.out j (by omega)
        case measure => simp [intOf]; omega
    · go_wp2
      go_ret
      exact ⟨ret_bool (name_miss c h0 h1 fun j hj => HJ.out j (by omega)).symm, rfl⟩

/-- byte k of s, as a number -/
def byteN (s : ByteArray) (k : Nat) : Int := ((s.data.toList.getD k 0).toNat : Int)
theorem byte_get (s : ByteArray) (k : Nat) (h : k < s.size) : (s[k].toNat : Int) = byteN s k := by
  unfold byteN
  have h' : k < s.data.toList.length := by simpa using h
  rw [List.getD_eq_getElem?_getD, List.getElem?_eq_getElem h']
  rfl
theorem byte_bd (s : ByteArray) (k : Nat) (h : k < s.size) : 0 ≤ (s[k].toNat : Int) ∧ (s[k].toNat : Int) ≤ 255 := by
  have := s[k].toNat_lt
  omega

theorem length_any (s : ByteArray) (hs : s.size ≤ maxLen) (w : World) :
    Calls Try.prog 27 #[.string s] w fun e w' => ∃ n : Nat, n ≤ s.size ∧ (∀ j, j < n → nameB (byteN s j) = true) ∧ (n < s.size → nameB (byteN s n) = false) ∧ e = .returned (.int .i64 n) ∧ w' = w := by
  unfold maxLen at hs
  go_enter Try.func27, Try.ntmps27
  go_wp2
  go_loop [3] (fun i => ∃ k : Nat, k ≤ s.size ∧ i = .int .i64 k ∧ ∀ j, j < k → nameB (byteN s j) = true) (fun i => s.size - (intOf i).toNat)
  case atStart => exact ⟨0, Nat.zero_le _, rfl, fun j hj => absurd hj (Nat.not_lt_zero _)⟩
  case round =>
    obtain ⟨k, hk, rfl, hj⟩ := hrel
    have HJ : Hid (∀ j, j < k → nameB (byteN s j) = true) := hj
    clear hj
    by_cases hlt : k < s.size
    · have HT : Hid ((s[k].toNat : Int) = byteN s k) := byte_get s k hlt
      by_cases hl : letB (s[k].toNat : Int) = true
      · go_wp2_with (first | (go_at_call 31; refine (letter_any _ _).mono ?_; rintro e w' ⟨rfl, rfl⟩) | (go_at_call 32; refine (digit_any _ _).mono ?_; rintro e w' ⟨rfl, rfl⟩))
        go_round
        case rel => 
          refine ⟨k + 1, by omega, by go_num, fun j hj => ?_⟩
          by_cases e : j = k
          · subst e; rw [← HT.out]; simp [nameB, hl]
          · exact HJ.out j (by omega)
        case measure => simp [intOf]; omega
      · have hl' : letB (s[k].toNat : Int) = false := by simpa using hl
        clear hl
        by_cases hd : digB (s[k].toNat : Int) = true
        · go_wp2_with (first | (go_at_call 31; refine (letter_any _ _).mono ?_; rintro e w' ⟨rfl, rfl⟩) | (go_at_call 32; refine (digit_any _ _).mono ?_; rintro e w' ⟨rfl, rfl⟩))
          go_round
          case rel => 
            refine ⟨k + 1, by omega, by go_num, fun j hj => ?_⟩
            by_cases e : j = k
            · subst e; rw [← HT.out]; simp [nameB, hd]
            · exact HJ.out j (by omega)
          case measure => simp [intOf]; omega
        · have hd' : digB (s[k].toNat : Int) = false := by simpa using hd
          clear hd
          go_wp2_with (first | (go_at_call 31; refine (letter_any _ _).mono ?_; rintro e w' ⟨rfl, rfl⟩) | (go_at_call 32; refine (digit_any _ _).mono ?_; rintro e w' ⟨rfl, rfl⟩))
          go_ret
          exact ⟨k, hk, HJ.out, fun _ => by rw [← HT.out]; simp [nameB, hl', hd'], rfl, rfl⟩
    · go_wp2
      go_ret
      exact ⟨k, hk, HJ.out, fun h => absurd h hlt, rfl, rfl⟩

theorem zzlength_any (s : ByteArray) (hs : s.size ≤ maxLen) (w : World) :
    Calls Try.prog 8 #[.string s] w fun e w' => ∃ n : Nat, n ≤ s.size ∧ (∀ j, j < n → nameB (byteN s j) = true) ∧ (n < s.size → nameB (byteN s n) = false) ∧ e = .returned (.int .i64 n) ∧ w' = w := by
  go_enter Try.func8, Try.ntmps8
  go_wp2_with (go_at_call 27; refine (length_any _ hs _).mono ?_; rintro e w' ⟨n, h1, h2, h3, rfl, rfl⟩; have H2 : Hid (∀ j, j < n → nameB (byteN s j) = true) := h2; have H3 : Hid (n < s.size → nameB (byteN s n) = false) := h3; clear h2 h3)
  go_ret
  exact ⟨n, h1, H2.out, H3.out, rfl, rfl⟩

theorem walk (a0 : ByteArray) (w0 : a0.size ≤ maxLen) (w : World) :
    Calls Try.prog 3 #[.string a0] w fun e w' => e = .returned (.bool true) ∧ Grown w w' := by
  have W0 := w0
  unfold maxLen at w0
  by_cases hb : 1048576 < a0.size
  · go_enter Try.func3, Try.ntmps3
    go_wp2
    go_ret
    exact ⟨rfl, Grown.refl _⟩
  · go_enter Try.func3, Try.ntmps3
    go_wp2_with (first | (go_at_call 7; go_in) | (go_at_call 8; refine (zzlength_any _ W0 _).mono ?_; rintro e w' ⟨n, h1, h2, h3, rfl, rfl⟩; have H2 : Hid (∀ j, j < n → nameB (byteN a0 j) = true) := h2; have H3 : Hid (n < a0.size → nameB (byteN a0 n) = false) := h3; clear h2 h3; have hz1 : ¬ ((n : Int) < 0) := (by omega); have hz2 : ¬ (a0.size < n) := (by omega)))
    go_loop [4] (fun i => ∃ k : Nat, k ≤ n ∧ i = .int .i64 k) (fun i => n - (intOf i).toNat)
    case atStart => exact ⟨0, Nat.zero_le _, rfl⟩
    case round =>
      obtain ⟨k, hk, rfl⟩ := hrel
      by_cases hlt : k < n
      · have hlt' : k < a0.size := by omega
        have hbd := byte_bd a0 k hlt'
        have hn : nameB (a0[k].toNat : Int) = true := by rw [byte_get a0 k hlt']; exact H2.out k hlt
        go_wp2_with (go_at_call 9; refine (alpha_any _ hbd.1 hbd.2 _).mono ?_; rintro e w' ⟨rfl, rfl⟩)
        go_round
        case rel => exact ⟨k + 1, by omega, by go_num⟩
        case measure => simp [intOf]; omega
      · by_cases hlt2 : n < a0.size
        · have hbd := byte_bd a0 n hlt2
          have hn : nameB (a0[n].toNat : Int) = false := by rw [byte_get a0 n hlt2]; exact H3.out hlt2
          go_wp2_with (go_at_call 9; refine (alpha_any _ hbd.1 hbd.2 _).mono ?_; rintro e w' ⟨rfl, rfl⟩)
          go_ret
          exact ⟨rfl, Grown.refl _⟩
        · go_wp2
          go_ret
          exact ⟨rfl, Grown.refl _⟩

/-! ### THE ROW's STEP: WRITTEN OUT: LEAVE IT -/
set_option maxRecDepth 100000 in
theorem lifted (os : Os) (started : os.Started) (H : Type) (enc : TypeId × Value → H) :
    ReturnsInHanded {} Try.checked os 3 .any (Rows.fnNameLengthSpecSpec.pre6 enc Try.prog Try.f3 Rows.fnNameLengthSpecRow.domain false) (Rows.fnNameLengthSpecSpec.post enc Try.prog Try.f3 false true false false) := by
  refine returnsInHanded_of_change (C := Try.checked) own started (by kernel_rfl) Try.func3
    (ChangeSpec.witness6 (enc := enc) (C := Try.checked) false ⟨#[], #[.string ByteArray.empty], []⟩ 8 (by kernel_rfl) (by kernel_rfl) (by kernel_rfl) (by kernel_rfl)) ?_
  intro W base args ds gs before hval0 hW hcnd _
  have hval : ∀ (j : Nat) t v, Try.f3.params[j]? = some t → args[j]? = some v → Value.okWide Try.prog W .any base t v := hval0
  have hW' := hW
  obtain ⟨p, q, hA0, hV, rfl, hfz, hnd⟩ := hW
  have hA : DataW.TrodAll enc Try.prog W 0 (fun _ => true) true Try.f3.params.toList args.toList ds p := hA0
  rw [Try.params3] at hA hval
  obtain ⟨v0, vs0, d0, ds0, p0, q0, hargs, rfl, rfl, h0, r0⟩ := trodAll_cons hA
  obtain ⟨rfl, rfl, rfl⟩ := trodAll_nil r0
  obtain rfl : args = #[v0] := by cases args; simp_all
  obtain ⟨rfl, rfl⟩ := trodVars_none hV
  obtain ⟨a0, rfl, rfl, rfl, w0⟩ := open_string Try.underlying9 (hval 0 9 v0 rfl rfl) h0
  clear hA0 hval0
  simp only [List.append_nil] at hW'
  refine (walk a0 w0 W).mono fun e W' ⟨he, hg⟩ => ?_
  subst he
  exact ⟨_, rfl, post_of_same (pa := []) (pv := []) hW' (fun _ _ _ => (trodAll_cons_mk (shut_bool Try.underlying4 _) trodAll_mk0)) (fun sp _ => (trodAll_cons_mk (shut_string Try.underlying9 w0) trodAll_mk0)) (fun _ _ => rfl) rfl
    (hg.frame _) hg.2.1 (ok_one (by kernel_rfl) rfl (okWide_bool_mk Try.underlying4 _))⟩

theorem over : Rows.fnNameLengthSpecRow.holds Try.pinned (OpenSpec.ofChange Rows.fnNameLengthSpecSpec) :=
  OpenClaim.holds_of_wide 3 Try.f3 rfl rfl rfl rfl rfl rfl rfl ⟨rfl, rfl, rfl, rfl, rfl⟩ rfl rfl rfl rfl rfl (by kernel_rfl) Try.func3 (by kernel_rfl)
    (of_decide_eq_true (by kernel_rfl)) (by unfold Func.isWrapper; first | (rw [if_pos (by decide +kernel)]; kernel_rfl) | (rw [if_neg (by decide +kernel)]; exact ⟨rfl, rfl⟩))
    (fun os started H enc _ => lifted os started H enc)

/-- ████ THE STATEMENT ████ -/
theorem proved : Rows.FnNameLengthSpecSaid :=
  over
#print axioms proved
end Go.Proofs.Qxb6601635a.fnNameLengthSpec
