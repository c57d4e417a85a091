import Derived.Test.Qxb6002381aRows
import Derived.WalkKit
import Derived.ProofKit
import Derived.OpenShut
import Derived.ShutString
import Derived.WalkSpells
import Derived.WalkLawsBesides
import Derived.Laws.BytesArg
import Derived.Below
import Derived.ChangeOld
namespace Go.Proofs.Qxb6002381a.fnIsDigitsAcceptsNumeralsRefusesIntruder
open Go.ChangeShapes Go.WideShapes Go.ChangeAt Go.RowKit
open Go.ChangeMaps (open_string shut_string)
set_option linter.unusedVariables false      -- a walk need not use every 'w<i>' (that an integer argument fits its kind)

theorem own : ownKnob Try.prog.godebug = none := by kernel_rfl

theorem ret_bool {a b : Bool} (h : a = b) : Ending.returned (.bool a) = .returned (.bool b) := by rw [h]
theorem hide {p : Prop} (h : p) : Hid p := h
/-- byte k of s, as a number -/
def byteN (s : ByteArray) (k : Nat) : Int := ((s.data.toList.getD k 0).toNat : Int)
theorem byte_get (s : ByteArray) (k : Nat) (h : k < s.size) : (s[k].toNat : Int) = byteN s k := by
  unfold byteN
  have h' : k < s.data.toList.length := by simpa using h
  rw [List.getD_eq_getElem?_getD, List.getElem?_eq_getElem h']
  rfl
theorem empty_iff (s : ByteArray) : s.toList.isEmpty = decide (s.size = 0) := by
  rw [ByteArray.toList_eq]
  have h : s.size = s.data.toList.length := by simp
  rw [h]
  cases s.data.toList <;> simp
/-- what isDigits computes -/
def digB (s : ByteArray) : Bool := decide (0 < s.size) && (List.range s.size).all fun j => decide (48 ≤ byteN s j) && decide (byteN s j ≤ 57)
theorem digB_no0 {s : ByteArray} (h : s.size = 0) : digB s = false := by simp [digB, h]
theorem digB_yes {s : ByteArray} (h0 : 0 < s.size) (h : ∀ j, j < s.size → 48 ≤ byteN s j ∧ byteN s j ≤ 57) : digB s = true := by
  simp only [digB, Bool.and_eq_true, List.all_eq_true, List.mem_range, decide_eq_true_eq]
  exact ⟨h0, h⟩
theorem digB_no {s : ByteArray} (j : Nat) (h : j < s.size) (hb : ¬ (48 ≤ byteN s j ∧ byteN s j ≤ 57)) : digB s = false := by
  cases hk : digB s with
  | false => rfl
  | true =>
    simp only [digB, Bool.and_eq_true, List.all_eq_true, List.mem_range, decide_eq_true_eq] at hk
    exact absurd (hk.2 j h) hb

theorem digits_any (s : ByteArray) (hs : s.size ≤ maxLen) (w : World) :
    Calls Try.prog 18 #[.string s] w fun e w' => e = .returned (.bool (digB s)) ∧ w' = w := by
  unfold maxLen at hs
  by_cases h0 : s.size = 0
  · have he : s.toList.isEmpty = true := by rw [empty_iff]; simpa using h0
    have H0 := hide h0
    clear h0
    go_enter Try.func18, Try.ntmps18
    go_wp2
    go_ret
    exact ⟨ret_bool (digB_no0 H0.out).symm, rfl⟩
  · have he : s.toList.isEmpty = false := by rw [empty_iff]; simpa using h0
    go_enter Try.func18, Try.ntmps18
    go_wp2
    go_loop [3] (fun i => ∃ k : Nat, k ≤ s.size ∧ i = .int .i64 k ∧ ∀ j, j < k → 48 ≤ byteN s j ∧ byteN s j ≤ 57) (fun i => s.size - (intOf i).toNat)
    case atStart => exact ⟨0, Nat.zero_le _, rfl, fun j hj => absurd hj (Nat.not_lt_zero _)⟩
    case round =>
      obtain ⟨k, hk, rfl, hj⟩ := hrel
      have HJ := hide hj
      clear hj
      by_cases hlt : k < s.size
      · have HT := hide (byte_get s k hlt)
        by_cases hd : 48 ≤ (s[k].toNat : Int) ∧ (s[k].toNat : Int) ≤ 57
        · obtain ⟨d1, d2⟩ := hd
          go_wp2
          go_round
          case rel =>
            refine ⟨k + 1, by omega, by go_num, fun j hj => ?_⟩
            by_cases e : j = k
            · subst e; rw [← HT.out]; exact ⟨d1, d2⟩
            · exact HJ.out j (by omega)
          case measure => simp [intOf]; omega
        · have HD := hide hd
          by_cases d1 : (s[k].toNat : Int) < 48
          all_goals
            go_wp2
            go_ret
            exact ⟨ret_bool (digB_no k hlt (by rw [← HT.out]; exact HD.out)).symm, rfl⟩
      · go_wp2
        go_ret
        exact ⟨ret_bool (digB_yes (by omega) fun j hj => HJ.out j (by omega)).symm, rfl⟩

theorem zz_any (s : ByteArray) (hs : s.size ≤ maxLen) (w : World) :
    Calls Try.prog 7 #[.string s] w fun e w' => e = .returned (.bool (digB s)) ∧ w' = w := by
  go_enter Try.func7, Try.ntmps7
  go_wp2_with (go_at_call 18; refine (digits_any _ hs _).mono ?_; rintro e w' ⟨rfl, rfl⟩)
  go_ret
  exact ⟨rfl, rfl⟩

def p10 (k : Nat) : Int := 10 ^ k
theorem p10_0 : p10 0 = 1 := rfl
theorem p10_s (k : Nat) : p10 (k + 1) = 10 * p10 k := by unfold p10; rw [Int.pow_succ]; omega
theorem p10_20 : (18446744073709551616 : Int) ≤ p10 20 := by decide
/-- block B of wr holds the 20 numbers zs, not frozen -/
structure Buf (B : Nat) (wr : World) (zs : List Int) : Prop where
  len : zs.length = 20
  cell : ∀ j, j < 20 → wr.cell? ⟨B, j, none⟩ = some (.int .u8 (zs.getD j 0))
  free : ∀ j, j < 20 → wr.frozen? ⟨B, j, none⟩ = false

theorem size5 (w : World) : (sizeOf 5).run Try.prog w = .ok 1 w := by kernel_rfl
theorem slice41 (w : World) (B k : Nat) (hk : k ≤ 19) : (Instr.sliceAt 41 (.pointer (some ⟨B, 0, none⟩)) (some (.int .i64 (k : Int))) none none).run Try.prog w = .ok (.slice (some ⟨B, k, none⟩) (20 - k) (20 - k)) w := by
  have ha : Try.prog.arrayLen 41 = 20 := by kernel_rfl
  have he : Try.prog.elem 41 = 5 := by kernel_rfl
  rw [run_sliceAt_array_l w 41 ⟨B, 0, none⟩ (by rw [ha, he]; exact Try.underlying41) .i64 k (by omega) (by rw [ha]; omega)]
  rw [ha, he, size5]
  simp [slicedAt, Result.andThen, Addr.add_lit]
  omega
theorem buf_start (w : World) : Buf w.heap.size (w.alloc (.cells #[.int .u8 0, .int .u8 0, .int .u8 0, .int .u8 0, .int .u8 0, .int .u8 0, .int .u8 0, .int .u8 0, .int .u8 0, .int .u8 0, .int .u8 0, .int .u8 0, .int .u8 0, .int .u8 0, .int .u8 0, .int .u8 0, .int .u8 0, .int .u8 0, .int .u8 0, .int .u8 0] 41)) (List.replicate 20 0) := by
  refine ⟨rfl, ?_, ?_⟩
  · intro j hj
    rw [World.cell?_alloc_new]
    have e : #[Value.int .u8 0, .int .u8 0, .int .u8 0, .int .u8 0, .int .u8 0, .int .u8 0, .int .u8 0, .int .u8 0, .int .u8 0, .int .u8 0, .int .u8 0, .int .u8 0, .int .u8 0, .int .u8 0, .int .u8 0, .int .u8 0, .int .u8 0, .int .u8 0, .int .u8 0, .int .u8 0] = Array.replicate 20 (Value.int .u8 0) := rfl
    rw [e]
    have e2 : (List.replicate 20 (0 : Int)).getD j 0 = 0 := by
      rw [List.getD_eq_getElem?_getD, List.getElem?_replicate, if_pos hj]
      rfl
    rw [e2]
    simp [hj]
  · intro j hj
    exact World.frozen?_alloc_at _ _ _ _ rfl
theorem buf_set {B : Nat} {wr : World} {zs : List Int} (h : Buf B wr zs) (k : Nat) (hk : k < 20) (d : Int) : Buf B (wr.setCell ⟨B, k, none⟩ (.int .u8 d)) (zs.set k d) := by
  have hl := h.len
  refine ⟨by simpa using h.len, ?_, ?_⟩
  · intro j hj
    by_cases e : j = k
    · subst e
      rw [World.cell?_setCell_same _ _ _ (h.cell j hj)]
      simp [List.getD, hl, hj]
    · rw [World.cell?_setCell_other _ _ _ _ (fun h => e (by injection h with _ h2; exact h2.symm)), h.cell j hj]
      simp [List.getD, Ne.symm e]
  · intro j hj
    have := h.free j hj
    simpa using this
theorem dig_set {zs : List Int} {k : Nat} {d : Int} (hl : zs.length = 20) (hk : k ≤ 19) (h : ∀ j, k < j → j < 20 → 48 ≤ zs.getD j 0 ∧ zs.getD j 0 ≤ 57) (hd : 48 ≤ d ∧ d ≤ 57) :
    ∀ j, k ≤ j → j < 20 → 48 ≤ (zs.set k d).getD j 0 ∧ (zs.set k d).getD j 0 ≤ 57 := by
  intro j a b
  by_cases e : j = k
  · subst e
    simpa [List.getD, hl, b] using hd
  · have := h j (by omega) b
    simpa [List.getD, List.getElem?_set, Ne.symm e] using this

theorem byteN_nums (xs : List Int) (j : Nat) (h : j < xs.length) (h0 : 0 ≤ xs.getD j 0) (h1 : xs.getD j 0 ≤ 255) : byteN (strOfNums xs) j = xs.getD j 0 := by
  unfold byteN
  rw [strOfNums_data]
  simp only [List.getD_eq_getElem?_getD, List.getElem?_map, List.getElem?_eq_getElem h, Option.map_some, Option.getD_some] at h0 h1 ⊢
  rw [UInt8.toNat_ofNat']
  omega
theorem buf_str {B : Nat} {W : World} {zs : List Int} (h : Buf B W zs) (k : Nat) (hk : k ≤ 19) :
    (convert 26 9 (.slice (some ⟨B, k, none⟩) (20 - k) (20 - k))).run Try.prog W = .ok (.string (strOfNums (zs.drop k))) W := by
  have hl := h.len
  refine run_convert_bytes_arg W 26 5 Try.underlying26 Try.underlying5 B k (20 - k) (20 - k) (zs.drop k) (by simp [hl]) (fun i hi => ?_) 9 Try.underlying9
  rw [h.cell (k + i) (by omega)]
  simp [List.getD]
theorem str_dig {zs : List Int} {k : Nat} (hl : zs.length = 20) (hk : k ≤ 19) (h : ∀ j, k ≤ j → j < 20 → 48 ≤ zs.getD j 0 ∧ zs.getD j 0 ≤ 57) :
    ∀ j, j < (strOfNums (zs.drop k)).size → 48 ≤ byteN (strOfNums (zs.drop k)) j ∧ byteN (strOfNums (zs.drop k)) j ≤ 57 := by
  intro j hj
  rw [strOfNums_size] at hj
  have h2 := h (k + j) (by omega) (by simp [hl] at hj; omega)
  have e : (zs.drop k).getD j 0 = zs.getD (k + j) 0 := by simp [List.getD]
  rw [byteN_nums _ j hj (by rw [e]; omega) (by rw [e]; omega), e]
  exact h2

theorem itoa_any (n : Int) (h0 : 0 ≤ n) (h1 : n ≤ 18446744073709551615) (w : World) :
    Calls Try.prog 8 #[.int .u64 n] w fun e w' => ∃ s : ByteArray, 1 ≤ s.size ∧ s.size ≤ 20 ∧ (∀ j, j < s.size → 48 ≤ byteN s j ∧ byteN s j ≤ 57) ∧ e = .returned (.string s) ∧ Below w.heap.size w w' := by
  have HN := hide (show n < p10 20 from by have := p10_20; omega)
  have hsl := slice41
  go_enter Try.func8, Try.ntmps8
  go_wp2
  go_loopw [0, 4] (fun v i wr => ∃ (m : Int) (k : Nat) (zs : List Int), v = .int .u64 m ∧ i = .int .i64 ((k : Int) + 1) ∧ k ≤ 19 ∧ 0 ≤ m ∧ m ≤ n ∧ m < p10 (k + 1) ∧ Buf w.heap.size wr zs ∧ (∀ j, k < j → j < 20 → 48 ≤ zs.getD j 0 ∧ zs.getD j 0 ≤ 57) ∧ Below w.heap.size w wr) (fun _ i _ => (intOf i).toNat)
  case atStart => exact ⟨n, 19, List.replicate 20 0, rfl, rfl, by omega, h0, Int.le_refl _, HN.out, buf_start w, fun j a b => by omega, (Below.refl _ _).alloc (Nat.le_refl _) _⟩
  case round =>
    obtain ⟨m, k, zs, rfl, rfl, hk, hm, hmn, hp, hb, hd, hbel⟩ := hrel
    have HP := hide hp
    have HD := hide (dig_set (d := 48 + m % 10) hb.len hk hd (by omega))
    have hc := hb.cell k (by omega)
    have hf := hb.free k (by omega)
    have HB := hide (buf_set hb k (by omega) (48 + m % 10))
    have hmb : m ≤ 18446744073709551615 := by omega
    clear hp hd hb
    by_cases hz : m / 10 = 0
    · have hz' : (m / 10 == 0) = true := by simpa using hz
      clear hz
      have hcv := buf_str HB.out k hk
      have HL := hide HB.out.len
      go_wp2
      go_ret
      refine ⟨strOfNums ((zs.set k (48 + m % 10)).drop k), ?_, ?_, str_dig HL.out hk HD.out, rfl, hbel.setCell (Nat.le_refl _) _⟩
      · rw [strOfNums_size, List.length_drop, HL.out]; omega
      · rw [strOfNums_size, List.length_drop, HL.out]; omega
    · have hz' : (m / 10 == 0) = false := by simpa using hz
      have HZ := hide hz
      clear hz
      go_wp2
      obtain ⟨k', rfl⟩ : ∃ k', k = k' + 1 := by
        refine ⟨k - 1, ?_⟩
        have := HP.out
        have hzz := HZ.out
        by_cases e : k = 0
        · subst e; rw [p10_s, p10_0] at this; omega
        · omega
      go_roundw
      case rel => 
        refine ⟨m / 10, k', _, rfl, by go_num, by omega, by omega, by omega, ?_, HB.out, fun j a b => HD.out j (by omega) b, hbel.setCell (Nat.le_refl _) _⟩
        have := HP.out
        rw [p10_s] at this
        omega
      case measure => simp [intOf]; try omega

theorem info5 : (Try.prog.info? 5).map (fun i => (i.zero, i.size, i.bytes)) = some (some (.int .u8 0), 1, 1) := by kernel_rfl
/-- the numbers ds lie in the row g, of room N, one of the call's own -/
def Own (B g N : Nat) (wr : World) (ds : List Int) : Prop := wr.ownsRow B 5 1 (.slice (some ⟨g, 0, none⟩) ds.length N) ds.length (ds.map (Value.int .u8))
theorem own_app {B g N : Nat} {w' : World} {ds : List Int} {x : Int} (h : w'.ownsRow B 5 1 (.slice (some ⟨g, 0, none⟩) (ds.length + 1) N) (ds.length + 1) (ds.map (Value.int .u8) ++ [.int .u8 x])) : Own B g N w' (ds ++ [x]) := by
  unfold Own
  simpa using h
theorem one_cell (x : Value) (h : x.oneCell' = true) : ∀ u ∈ [x], u.oneCell' = true := by
  intro u hu
  rw [List.mem_singleton] at hu
  rw [hu]; exact h
theorem all_app {ds : List Int} {x : Int} {P : Int → Prop} (h : ∀ y ∈ ds, P y) (hx : P x) : ∀ y ∈ ds ++ [x], P y := by
  intro y hy
  rcases List.mem_append.1 hy with h1 | h1
  · exact h y h1
  · rw [List.mem_singleton] at h1; rw [h1]; exact hx
theorem app_below {B g : Nat} {w wr w' : World} {o : Obj} (hb : Below B w wr) (hB : B ≤ w.heap.size) (hg : (wr.alloc o).grownBy w' (some g)) (hgB : B ≤ g) : Below B w w' :=
  (hb.alloc (Nat.le_trans hB hb.size) o).grown hg (by have := hb.size; simp; omega) (fun k hk => by cases hk; exact hgB)

theorem own_str {B g N : Nat} {W : World} {es : List Int} (h : Own B g N W es) :
    (convert 26 9 (.slice (some ⟨g, 0, none⟩) es.length N)).run Try.prog W = .ok (.string (strOfNums es)) W := by
  refine run_convert_bytes_arg W 26 5 Try.underlying26 Try.underlying5 g 0 es.length N es rfl (fun i hi => ?_) 9 Try.underlying9
  rw [Nat.zero_add, World.ownsRow.cellAt h i (by simpa using hi)]
  simp [List.getD, List.getElem?_eq_getElem hi]
theorem own_cell {B g N : Nat} {W : World} {es : List Int} (h : Own B g N W es) (j : Nat) (hj : j < es.length) : W.cell? ⟨g, j, none⟩ = some (.int .u8 es[j]) := by
  rw [World.ownsRow.cellAt h j (by simpa using hj)]
  simp [List.getElem?_eq_getElem hj]
theorem own_lt {B g N : Nat} {W : World} {es : List Int} (h : Own B g N W es) : g < W.heap.size := (World.ownsRow.lt h g rfl).2
theorem own_kept {B g g' N : Nat} {W w' : World} {o : Obj} {es : List Int} (h : Own B g N W es) (hg : (W.alloc o).grownBy w' (some g')) (hne : g < g') : Own B g N w' es :=
  World.ownsRow.kept (World.ownsRow.alloc h o) hg (.inr (by simp only [Value.ownBlock, ne_eq, Option.some.injEq]; omega))
theorem own_kept0 {B g N : Nat} {W w' : World} {es : List Int} (h : Own B g N W es) (hg : W.grownBy w' none) : Own B g N w' es :=
  World.ownsRow.kept h hg (.inr (by simp [Value.ownBlock]))
theorem nums_dig {es : List Int} (h0 : 0 < es.length) (h : ∀ x ∈ es, 48 ≤ x ∧ x ≤ 57) : digB (strOfNums es) = true := by
  refine digB_yes (by rw [strOfNums_size]; exact h0) fun j hj => ?_
  rw [strOfNums_size] at hj
  have e : es.getD j 0 ∈ es := by
    rw [List.getD_eq_getElem?_getD, List.getElem?_eq_getElem hj]
    exact List.getElem_mem hj
  have := h _ e
  rw [byteN_nums es j hj (by omega) (by omega)]
  exact this
theorem nums_not {es : List Int} {c : Int} (h : c ∈ es) (h0 : 0 ≤ c) (h1 : c ≤ 255) (hc : c < 48 ∨ 57 < c) : digB (strOfNums es) = false := by
  obtain ⟨j, hj, e⟩ := List.getElem_of_mem h
  have e' : es.getD j 0 = c := by
    rw [List.getD_eq_getElem?_getD, List.getElem?_eq_getElem hj]
    exact e
  refine digB_no j (by rw [strOfNums_size]; exact hj) ?_
  rw [byteN_nums es j hj (by rw [e']; exact h0) (by rw [e']; exact h1), e']
  omega
theorem digB_empty : digB ⟨#[]⟩ = false := rfl
theorem own_made {B g N : Nat} {wr : World} (h : wr.ownsRow B 5 1 (.slice (some ⟨g, 0, none⟩) 0 N) 0 []) : Own B g N wr [] := h

set_option maxHeartbeats 2000000 in
theorem walk_main (a0 a2 a3 : Int) (z : Nat) (n0 : 0 ≤ a0) (n1 : a0 ≤ 18446744073709551615) (z1 : z ≤ 65536) (p0 : 0 ≤ a2) (p1 : a2 ≤ 131072) (c0 : 0 ≤ a3) (c1 : a3 ≤ 255) (cd : a3 < 48 ∨ 57 < a3) (w : World) :
    Calls Try.prog 4 #[.int .u64 a0, .int .i64 z, .int .i64 a2, .int .u8 a3] w fun e w' => e = .returned (.bool true) ∧ Below w.heap.size w w' := by
  obtain ⟨i0, hi, hz0, hz1, hz2⟩ := info_parts info5
  have CD := hide cd
  have dz1 : decide ((z : Int) < 0) = false := decide_eq_false (by omega)
  have dz2 : decide ((65536 : Int) < (z : Int)) = false := decide_eq_false (by omega)
  have da1 : decide (a2 < 0) = false := decide_eq_false (by omega)
  have da2 : decide ((131072 : Int) < a2) = false := decide_eq_false (by omega)
  rcases cd with cd | cd
  all_goals
    go_enter Try.func4, Try.ntmps4
    go_wp2_with (first | (go_at_call 8; refine (itoa_any a0 n0 n1 _).mono ?_; rintro e w1 ⟨num, s1, s2, hd, rfl, hb1⟩; have HD := hide hd; clear hd) | (at_make; refine wpList_make_own _ rfl _ _ 26 rfl w.heap.size 5 i0 (.int .u8 0) 1 Try.underlying26 hi hz0 hz1 _ _ _ (z + num.size) rfl rfl (by omega) (by rw [hz2]; omega) (by unfold maxLen; omega) hb1.size ?_))
    intro w2 hown hgrow
    have hb2 := hb1.grown hgrow hb1.size (fun k h => by cases h)
    have hgB := hb1.size
    obtain ⟨g, hg⟩ : ∃ g, g = w1.heap.size := ⟨_, rfl⟩
    rw [← hg] at hown hgB ⊢
    have hO := own_made hown
    clear hown hgrow hb1 hg
    go_wp2
    go_loopw [10, 11] (fun v i wr => ∃ ds : List Int, ds.length ≤ z ∧ i = .int .i64 ds.length ∧ v = .slice (some ⟨g, 0, none⟩) ds.length (z + num.size) ∧ (∀ x ∈ ds, 48 ≤ x ∧ x ≤ 57) ∧ Own w.heap.size g (z + num.size) wr ds ∧ Below w.heap.size w wr) (fun _ i _ => z - (intOf i).toNat)
    case atStart => exact ⟨[], Nat.zero_le _, rfl, rfl, fun x hx => (by cases hx), hO, hb2⟩
    case round =>
      clear hb2 hO
      obtain ⟨ds, hk, rfl, rfl, hdd, hO, hb⟩ := hrel
      have HDD := hide hdd
      clear hdd
      by_cases hlt : ds.length < z
      · go_wp2_with (at_builtin; refine wpList_append_fits _ rfl _ _ 26 rfl w.heap.size 5 i0 1 Try.underlying26 hi hz1 g ds.length (z + num.size) (ds.map (Value.int .u8)) rfl (World.ownsRow.alloc hO _) ⟨wr.heap.size, 0, none⟩ 1 1 [.int .u8 48] rfl rfl (cell_one_new _ _ _) (one_cell _ rfl) (by omega) ?_)
        intro w3 hown hgrow
        have hO' := own_app hown
        have hb' := app_below hb (Nat.le_refl _) hgrow hgB
        clear hown hgrow hb hO
        go_wp2
        go_roundw
        case rel => exact ⟨ds ++ [48], by simp; omega, by simp, by simp, all_app HDD.out (by omega), hO', hb'⟩
        case measure => simp [intOf]; omega
      · have hz : ds.length = z := by omega
        subst hz
        go_wp2
        clear hlt hk
        go_loopw [10, 12] (fun v i wr => ∃ (es : List Int) (k : Nat), k ≤ num.size ∧ es.length = ds.length + k ∧ i = .int .i64 k ∧ v = .slice (some ⟨g, 0, none⟩) es.length (ds.length + num.size) ∧ (∀ x ∈ es, 48 ≤ x ∧ x ≤ 57) ∧ Own w.heap.size g (ds.length + num.size) wr es ∧ Below w.heap.size w wr) (fun _ i _ => num.size - (intOf i).toNat)
        case atStart => exact ⟨ds, 0, Nat.zero_le _, rfl, rfl, rfl, HDD.out, hO, hb⟩
        case round =>
          clear hb hO
          obtain ⟨es, k, hk, he, rfl, rfl, hdd, hO, hb⟩ := hrel
          have HEE := hide hdd
          have HE := hide he
          clear hdd
          by_cases hlt : k < num.size
          · have hbd : es.length < ds.length + num.size := by omega
            have hdk := HD.out k hlt
            rw [← byte_get num k hlt] at hdk
            have HK := hide hdk
            clear he hdk
            go_wp2_with (at_builtin; refine wpList_append_fits _ rfl _ _ 26 rfl w.heap.size 5 i0 1 Try.underlying26 hi hz1 g es.length (ds.length + num.size) (es.map (Value.int .u8)) rfl (World.ownsRow.alloc hO _) ⟨wr.heap.size, 0, none⟩ 1 1 [.int .u8 (num[k].toNat : Int)] rfl rfl (cell_one_new _ _ _) (one_cell _ rfl) (by omega) ?_)
            intro w3 hown hgrow
            have hO' := own_app hown
            have hb' := app_below hb (Nat.le_refl _) hgrow hgB
            clear hown hgrow hb hO
            go_wp2
            go_roundw
            case rel => exact ⟨es ++ [(num[k].toNat : Int)], k + 1, by omega, by simp [HE.out]; omega, by go_num, by simp, all_app HEE.out HK.out, hO', hb'⟩
            case measure => simp [intOf]; omega
          · have hL : es.length = ds.length + num.size := by omega
            rw [← hL] at hO ⊢
            have hLp : 1 ≤ es.length := by omega
            have hLb : es.length ≤ 65556 := by omega
            have hcv := own_str hO
            have hdg := nums_dig hLp HEE.out
            have hem := digB_empty
            obtain ⟨p, hp⟩ : ∃ p : Nat, a2 % ((es.length : Int) + 1) = p := ⟨(a2 % ((es.length : Int) + 1)).toNat, by rw [Int.toNat_of_nonneg (Int.emod_nonneg _ (by omega))]⟩
            have hpl : p ≤ es.length := by
              have := Int.emod_lt_of_pos a2 (show (0 : Int) < (es.length : Int) + 1 by omega)
              omega
            have HL := hide hL
            have hss : (strOfNums es).size ≤ maxLen := by rw [strOfNums_size]; unfold maxLen; omega
            have hwB := hb.size
            clear he hL
            go_wp2_with (first | (go_at_call 7; refine (zz_any _ hss _).mono ?_; rintro e w4 ⟨rfl, rfl⟩) | (at_make; refine wpList_make_own _ rfl _ _ 26 rfl w.heap.size 5 i0 (.int .u8 0) 1 Try.underlying26 hi hz0 hz1 _ _ _ (es.length + 1) rfl rfl (by omega) (by rw [hz2]; omega) (by unfold maxLen; omega) hwB ?_))
            clear hlt hk hcv hdg
            intro w5 hown hgrow
            have hb5 := hb.grown hgrow hwB (fun k h => by cases h)
            have hO5 := own_kept0 hO hgrow
            have hgl := own_lt hO
            obtain ⟨q, hq⟩ : ∃ q, q = w4.heap.size := ⟨_, rfl⟩
            rw [← hq] at hown hgl hwB ⊢
            have hT5 := own_made hown
            clear hown hgrow hb hO hq
            go_wp2
            go_loopw [14, 15] (fun v i wr => ∃ fs : List Int, fs.length ≤ p ∧ i = .int .i64 fs.length ∧ v = .slice (some ⟨q, 0, none⟩) fs.length (es.length + 1) ∧ Own w.heap.size q (es.length + 1) wr fs ∧ Own w.heap.size g es.length wr es ∧ Below w.heap.size w wr) (fun _ i _ => p - (intOf i).toNat)
            case atStart => exact ⟨[], Nat.zero_le _, rfl, rfl, hT5, hO5, hb5⟩
            case round =>
              clear hb5 hO5 hT5
              obtain ⟨fs, hk, rfl, rfl, hT, hO, hb⟩ := hrel
              by_cases hlt : fs.length < p
              · have hle : fs.length < es.length := by omega
                have hcell := own_cell hO fs.length hle
                go_wp2_with (at_builtin; refine wpList_append_fits _ rfl _ _ 26 rfl w.heap.size 5 i0 1 Try.underlying26 hi hz1 q fs.length (es.length + 1) (fs.map (Value.int .u8)) rfl (World.ownsRow.alloc hT _) ⟨wr.heap.size, 0, none⟩ 1 1 [.int .u8 es[fs.length]] rfl rfl (cell_one_new _ _ _) (one_cell _ rfl) (by omega) ?_)
                intro w6 hown hgrow
                have hT' := own_app hown
                have hO' := own_kept hO hgrow hgl
                have hb' := app_below hb (Nat.le_refl _) hgrow hwB
                clear hown hgrow hb hO hT hcell
                go_wp2
                go_roundw
                case rel => exact ⟨fs ++ [es[fs.length]], by simp; omega, by simp, by simp, hT', hO', hb'⟩
                case measure => simp [intOf]; omega
              · have hfp : fs.length = p := by omega
                subst hfp
                go_wp2_with (at_builtin; refine wpList_append_fits _ rfl _ _ 26 rfl w.heap.size 5 i0 1 Try.underlying26 hi hz1 q fs.length (es.length + 1) (fs.map (Value.int .u8)) rfl (World.ownsRow.alloc hT _) ⟨wr.heap.size, 0, none⟩ 1 1 [.int .u8 a3] rfl rfl (cell_one_new _ _ _) (one_cell _ rfl) (by omega) ?_)
                intro w6 hown hgrow
                have hT6 := own_app hown
                have hO6 := own_kept hO hgrow hgl
                have hb6 := app_below hb (Nat.le_refl _) hgrow hwB
                clear hown hgrow hb hO hT hlt hk
                go_wp2
                go_loopw [14, 16] (fun v i wr => ∃ (hs : List Int) (k : Nat), k ≤ es.length ∧ hs.length = k + 1 ∧ a3 ∈ hs ∧ i = .int .i64 k ∧ v = .slice (some ⟨q, 0, none⟩) hs.length (es.length + 1) ∧ Own w.heap.size q (es.length + 1) wr hs ∧ Own w.heap.size g es.length wr es ∧ Below w.heap.size w wr) (fun _ i _ => es.length - (intOf i).toNat)
                case atStart => exact ⟨fs ++ [a3], fs.length, hpl, by simp, by simp, rfl, by simp, hT6, hO6, hb6⟩
                case round =>
                  clear hb6 hO6 hT6
                  obtain ⟨hs, k, hk, he, hm, rfl, rfl, hT, hO, hb⟩ := hrel
                  have HE := hide he
                  have HM := hide hm
                  have hsl : hs.length ≤ es.length + 1 := by omega
                  have hsk : k + 1 ≤ hs.length := by omega
                  have hsk' : hs.length ≤ k + 1 := by omega
                  clear he hm
                  by_cases hlt : k < es.length
                  · have hcell := own_cell hO k hlt
                    go_wp2_with (at_builtin; refine wpList_append_fits _ rfl _ _ 26 rfl w.heap.size 5 i0 1 Try.underlying26 hi hz1 q hs.length (es.length + 1) (hs.map (Value.int .u8)) rfl (World.ownsRow.alloc hT _) ⟨wr.heap.size, 0, none⟩ 1 1 [.int .u8 es[k]] rfl rfl (cell_one_new _ _ _) (one_cell _ rfl) (by omega) ?_)
                    intro w6 hown hgrow
                    have hT' := own_app hown
                    have hO' := own_kept hO hgrow hgl
                    have hb' := app_below hb (Nat.le_refl _) hgrow hwB
                    clear hown hgrow hb hO hT hcell
                    go_wp2
                    go_roundw
                    case rel => exact ⟨hs ++ [es[k]], k + 1, by omega, by simp [HE.out], List.mem_append_left _ HM.out, by go_num, by simp, hT', hO', hb'⟩
                    case measure => simp [intOf]; omega
                  · have hcv := own_str hT
                    have hdg := nums_not HM.out c0 c1 CD.out
                    have hss2 : (strOfNums hs).size ≤ maxLen := by rw [strOfNums_size]; unfold maxLen; omega
                    have hem2 : (ByteArray.mk #[]).size ≤ maxLen := Nat.zero_le _
                    clear hT hO
                    go_wp2_with (first | (go_at_call 7; refine (zz_any _ hss2 _).mono ?_; rintro e w8 ⟨rfl, rfl⟩) | (go_at_call 7; refine (zz_any _ hem2 _).mono ?_; rintro e w8 ⟨rfl, rfl⟩))
                    go_ret
                    exact ⟨rfl, hb⟩

theorem walk (a0 : Int) (a1 : Int) (a2 : Int) (a3 : Int) (w0 : (Lit.int .u64 a0).wf = true) (w1 : (Lit.int .i64 a1).wf = true) (w2 : (Lit.int .i64 a2).wf = true) (w3 : (Lit.int .u8 a3).wf = true) (w : World) :
    Calls Try.prog 4 #[.int .u64 a0, .int .i64 a1, .int .i64 a2, .int .u8 a3] w fun e w' => e = .returned (.bool true) ∧ Below w.heap.size w w' := by
  have n := bounds_u64 w0
  have c := bounds_u8 w3
  clear w0 w1 w2 w3
  by_cases z0 : a1 < 0
  · go_enter Try.func4, Try.ntmps4
    go_wp2
    go_ret
    exact ⟨rfl, Below.refl _ _⟩
  by_cases z1 : 65536 < a1
  · go_enter Try.func4, Try.ntmps4
    go_wp2
    go_ret
    exact ⟨rfl, Below.refl _ _⟩
  by_cases p0 : a2 < 0
  · go_enter Try.func4, Try.ntmps4
    go_wp2
    go_ret
    exact ⟨rfl, Below.refl _ _⟩
  by_cases p1 : 131072 < a2
  · go_enter Try.func4, Try.ntmps4
    go_wp2
    go_ret
    exact ⟨rfl, Below.refl _ _⟩
  by_cases cd : a3 < 48 ∨ 57 < a3
  · obtain ⟨z, rfl⟩ : ∃ z : Nat, a1 = z := ⟨a1.toNat, by omega⟩
    exact walk_main a0 a2 a3 z n.1 n.2 (by omega) (by omega) (by omega) c.1 c.2 cd w
  · have c1 : 48 ≤ a3 := by omega
    have c2 : a3 ≤ 57 := by omega
    clear cd
    go_enter Try.func4, Try.ntmps4
    go_wp2
    go_ret
    exact ⟨rfl, Below.refl _ _⟩

/-! ### THE ROW's STEP: WRITTEN OUT: LEAVE IT -/
set_option maxRecDepth 100000 in
theorem lifted (os : Os) (started : os.Started) (H : Type) (enc : TypeId × Value → H) :
    ReturnsInHanded {} Try.checked os 4 .any (Rows.fnIsDigitsAcceptsNumeralsRefusesIntruderSpec.pre6 enc Try.prog Try.f4 Rows.fnIsDigitsAcceptsNumeralsRefusesIntruderRow.domain false) (Rows.fnIsDigitsAcceptsNumeralsRefusesIntruderSpec.post enc Try.prog Try.f4 false true false false) := by
  refine returnsInHanded_of_change (C := Try.checked) own started (by kernel_rfl) Try.func4
    (ChangeSpec.witness6 (enc := enc) (C := Try.checked) false ⟨#[], #[.int .u64 0, .int .i64 0, .int .i64 0, .int .u8 0], []⟩ 8 (by kernel_rfl) (by kernel_rfl) (by kernel_rfl) (by kernel_rfl)) ?_
  intro W base args ds gs before hval0 hW hcnd _
  have hval : ∀ (j : Nat) t v, Try.f4.params[j]? = some t → args[j]? = some v → Value.okWide Try.prog W .any base t v := hval0
  have hW' := hW
  obtain ⟨p, q, hA0, hV, rfl, hfz, hnd⟩ := hW
  have hA : DataW.TrodAll enc Try.prog W 0 (fun _ => true) true Try.f4.params.toList args.toList ds p := hA0
  rw [Try.params4] at hA hval
  obtain ⟨v0, vs0, d0, ds0, p0, q0, hargs, rfl, rfl, h0, r0⟩ := trodAll_cons hA
  obtain ⟨v1, vs1, d1, ds1, p1, q1, rfl, rfl, rfl, h1, r1⟩ := trodAll_cons r0
  obtain ⟨v2, vs2, d2, ds2, p2, q2, rfl, rfl, rfl, h2, r2⟩ := trodAll_cons r1
  obtain ⟨v3, vs3, d3, ds3, p3, q3, rfl, rfl, rfl, h3, r3⟩ := trodAll_cons r2
  obtain ⟨rfl, rfl, rfl⟩ := trodAll_nil r3
  obtain rfl : args = #[v0, v1, v2, v3] := by cases args; simp_all
  obtain ⟨rfl, rfl⟩ := trodVars_none hV
  obtain ⟨a0, rfl, rfl, rfl, w0⟩ := open_int Try.underlying24 (hval 0 24 v0 rfl rfl) h0
  obtain ⟨a1, rfl, rfl, rfl, w1⟩ := open_int Try.underlying3 (hval 1 3 v1 rfl rfl) h1
  obtain ⟨a2, rfl, rfl, rfl, w2⟩ := open_int Try.underlying3 (hval 2 3 v2 rfl rfl) h2
  obtain ⟨a3, rfl, rfl, rfl, w3⟩ := open_int Try.underlying5 (hval 3 5 v3 rfl rfl) h3
  clear hA0 hval0
  simp only [List.append_nil] at hW'
  refine (walk a0 a1 a2 a3 w0 w1 w2 w3 W).mono fun e W' ⟨he, bel⟩ => ?_
  subst he
  exact ⟨_, rfl, _, _, _, [], _, [], hW', trodAll_mk1 (shut_bool Try.underlying4 _), (trodAll_cons_mk (shut_int Try.underlying24 w0) (trodAll_cons_mk (shut_int Try.underlying3 w1) (trodAll_cons_mk (shut_int Try.underlying3 w2) (trodAll_cons_mk (shut_int Try.underlying5 w3) trodAll_mk0)))), rfl, bel.frame _, fun h => by cases h⟩

theorem over : Rows.fnIsDigitsAcceptsNumeralsRefusesIntruderRow.holds Try.pinned (OpenSpec.ofChange Rows.fnIsDigitsAcceptsNumeralsRefusesIntruderSpec) :=
  OpenClaim.holds_of_wide 4 Try.f4 rfl rfl rfl rfl rfl rfl rfl ⟨rfl, rfl, rfl, rfl, rfl⟩ rfl rfl rfl rfl rfl (by kernel_rfl) Try.func4 (by kernel_rfl)
    (of_decide_eq_true (by kernel_rfl)) (by unfold Func.isWrapper; first | (rw [if_pos (by decide +kernel)]; kernel_rfl) | (rw [if_neg (by decide +kernel)]; exact ⟨rfl, rfl⟩))
    (fun os started H enc _ => lifted os started H enc)

/-- ████ THE STATEMENT ████ -/
theorem proved : Rows.FnIsDigitsAcceptsNumeralsRefusesIntruderSaid :=
  over
#print axioms proved
end Go.Proofs.Qxb6002381a.fnIsDigitsAcceptsNumeralsRefusesIntruder
