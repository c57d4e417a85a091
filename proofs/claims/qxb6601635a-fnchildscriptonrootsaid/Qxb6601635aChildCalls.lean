import Derived.Test.Qxb6601635aChildWalk
namespace Go.Proofs.Qxb6601635a.child
open Go.RowKit Go.Maps
set_option linter.unusedVariables false

theorem Turned.below {B : Nat} {w w' : World} {r : Nat} {vm : Value} (h : Turned w w' r vm) (hB : B ≤ w.heap.size) (hr : B ≤ r) (hm : ∀ b, vm = .map (some b) → B ≤ b) : Below B w w' :=
  ⟨h.os, h.tape, h.output, h.size, fun k hk => h.block k (by omega) (by omega) (fun e => by have := hm k e; omega)⟩
theorem MapV.ge {B : Nat} {w : World} {k : TypeId} {v : Value} {n : Nat} {f : Lit → Nat} (h : MapV B w k v n f) : ∀ b, v = .map (some b) → B ≤ b ∧ 0 < n ∧ MapIs w k b n f := by
  intro b e
  rcases h with ⟨h, _⟩ | ⟨b', h, h2, h3, h4⟩
  · rw [h] at e; cases e
  · rw [h] at e
    injection e with e
    injection e with e
    subst e
    exact ⟨h2, h3, h4⟩

/-- the numbers of members and of elements behind a new child under the step st -/
def mems (st : Step) (nm : Nat) : Nat := if st.2 = -1 then nm + 1 else nm
def eles (st : Step) (ne : Nat) : Nat := if st.2 = -1 then ne else ne + 1
/-- L with c under the step st -/
def put (L : Step → Nat) (st : Step) (c : Nat) : Step → Nat := fun st' => if same st st' = true then c else L st'

/-- what a call of child that makes a new node leaves of the other blocks: all rows but the node's own; and where the node was empty every other block -/
def Others (w w' : World) (r nm ne : Nat) : Prop := ∀ k, k < w.heap.size → k ≠ r → ((∃ cs t fz, w.heap[k]? = some (.cells cs t fz)) ∨ (nm = 0 ∧ ne = 0)) → w'.heap[k]? = w.heap[k]?

theorem child_old (B r : Nat) (wh : Bool) (nm ne : Nat) (L : Step → Nat) (st : Step) (c : Nat) (w : World) (hs : st.1.size ≤ maxLen) (hi : (Lit.int .i64 st.2).wf = true) (hP : Proj B w r wh nm ne L) (hL : L st = c + 1) :
    Calls Try.prog 28 #[.pointer (some ⟨r, 0, none⟩), .agg #[.string st.1, .int .i64 st.2]] w fun e w' => e = .returned (.pointer (some ⟨c, 0, none⟩)) ∧ Below w.heap.size w w' := by
  obtain ⟨vm, ve, fm, fe, h1, h2, h3, h4, h5, h6⟩ := hP
  obtain ⟨s, i⟩ := st
  rw [h6] at hL
  unfold look at hL
  by_cases e : i = -1
  · subst e
    rw [if_pos rfl] at hL
    rcases h3 with ⟨_, _, h⟩ | ⟨b, rfl, _, _, h⟩
    · rw [h] at hL; cases hL
    · exact child_m_old r b nm s hs wh ve fm c w h2 h hL
  · rw [if_neg e] at hL
    rcases h4 with ⟨_, _, h⟩ | ⟨b, rfl, _, _, h⟩
    · rw [h] at hL; cases hL
    · exact child_e_old r b ne s i hi e wh vm fe c w h2 h hL

theorem child_new (B r : Nat) (wh : Bool) (nm ne : Nat) (L : Step → Nat) (st : Step) (w : World) (hs : st.1.size ≤ maxLen) (hi : (Lit.int .i64 st.2).wf = true) (hB : B ≤ w.heap.size) (hnm : nm < maxLen) (hne : ne < maxLen) (hP : Proj B w r wh nm ne L) (hL : L st = 0) :
    Calls Try.prog 28 #[.pointer (some ⟨r, 0, none⟩), .agg #[.string st.1, .int .i64 st.2]] w fun e w' => ∃ c, w.heap.size ≤ c ∧ e = .returned (.pointer (some ⟨c, 0, none⟩)) ∧
      Proj B w' c false 0 0 (fun _ => 0) ∧ Proj B w' r wh (mems st nm) (eles st ne) (put L st (c + 1)) ∧ Below B w w' ∧ Others w w' r nm ne := by
  obtain ⟨vm, ve, fm, fe, h1, h2, h3, h4, h5, h6⟩ := hP
  obtain ⟨s, i⟩ := st
  rw [h6] at hL
  unfold look at hL
  have hrl : r < w.heap.size := (Array.getElem?_eq_some_iff.1 h2).1
  by_cases e : i = -1
  · subst e
    rw [if_pos rfl] at hL
    refine (child_m_new B r nm s hs wh vm ve fm w hnm h2 hB h3 hL).mono ?_
    rintro e w' ⟨c, mb, hc, hmb, hmx, rfl, hn, hr', hm', ht⟩
    refine ⟨c, hc, rfl, Proj.fresh (by omega) hn, ?_, ht.below hB h1 fun b hb => (h3.ge b hb).1, ?_⟩
    · refine ⟨_, ve, _, fe, h1, hr', .inr ⟨mb, rfl, hmb, Nat.succ_pos _, hm'⟩, h4.kept ?_, ?_, fun st => by rw [look_upd_m]; simp only [put, h6]⟩
      · intro b hb hx
        obtain ⟨es, clock, hx⟩ := hx
        exact ht.block b (Array.getElem?_eq_some_iff.1 hx).1 (fun e => by subst e; rw [h2] at hx; cases hx) (fun e => h5 b e hb)
      · intro b hb hv
        injection hb with hb
        injection hb with hb
        subst hb
        rcases hmx with hmx | hmx
        · exact h5 _ hmx hv
        · have := (h4.ge _ hv).2.2.lt
          omega
    · intro k a b hk
      refine ht.block k a b (fun e => ?_)
      have := h3.ge k e
      rcases hk with ⟨cs, t, fz, hk⟩ | ⟨h, _⟩
      · exact ne_map hk this.2.2 rfl
      · omega
  · rw [if_neg e] at hL
    refine (child_e_new B r ne s i hi e wh vm ve fe w hne h2 hB h4 hL).mono ?_
    rintro e' w' ⟨c, mb, hc, hmb, hmx, rfl, hn, hr', hm', ht⟩
    refine ⟨c, hc, rfl, Proj.fresh (by omega) hn, ?_, ht.below hB h1 fun b hb => (h4.ge b hb).1, ?_⟩
    · simp only [mems, eles, if_neg e]
      refine ⟨vm, _, fm, _, h1, hr', h3.kept ?_, .inr ⟨mb, rfl, hmb, Nat.succ_pos _, hm'⟩, ?_, fun st => by rw [look_upd_e (s := s) e]; simp only [put, h6]⟩
      · intro b hb hx
        obtain ⟨es, clock, hx⟩ := hx
        exact ht.block b (Array.getElem?_eq_some_iff.1 hx).1 (fun e => by subst e; rw [h2] at hx; cases hx) (fun e => h5 b hb e)
      · intro b hv hb
        injection hb with hb
        injection hb with hb
        subst hb
        rcases hmx with hmx | hmx
        · exact h5 _ hv hmx
        · have := (h3.ge _ hv).2.2.lt
          omega
    · intro k a b hk
      refine ht.block k a b (fun e => ?_)
      have := h4.ge k e
      rcases hk with ⟨cs, t, fz, hk⟩ | ⟨_, h⟩
      · exact ne_map hk this.2.2 rfl
      · omega

theorem zzchild_old (B r : Nat) (wh : Bool) (nm ne : Nat) (L : Step → Nat) (st : Step) (c : Nat) (w : World) (hs : st.1.size ≤ maxLen) (hi : (Lit.int .i64 st.2).wf = true) (hP : Proj B w r wh nm ne L) (hL : L st = c + 1) :
    Calls Try.prog 17 #[.pointer (some ⟨r, 0, none⟩), .string st.1, .int .i64 st.2] w fun e w' => e = .returned (.pointer (some ⟨c, 0, none⟩)) ∧ Below w.heap.size w w' := by
  have H := child_old B r wh nm ne L st c w hs hi hP hL
  clear hP hL hs hi
  go_enter Try.func17, Try.ntmps17
  go_wp2_with (go_at_call 28; refine H.mono ?_; rintro e w' ⟨rfl, hb⟩)
  go_ret
  exact ⟨rfl, hb⟩

theorem zzchild_new (B r : Nat) (wh : Bool) (nm ne : Nat) (L : Step → Nat) (st : Step) (w : World) (hs : st.1.size ≤ maxLen) (hi : (Lit.int .i64 st.2).wf = true) (hB : B ≤ w.heap.size) (hnm : nm < maxLen) (hne : ne < maxLen) (hP : Proj B w r wh nm ne L) (hL : L st = 0) :
    Calls Try.prog 17 #[.pointer (some ⟨r, 0, none⟩), .string st.1, .int .i64 st.2] w fun e w' => ∃ c, w.heap.size ≤ c ∧ e = .returned (.pointer (some ⟨c, 0, none⟩)) ∧
      Proj B w' c false 0 0 (fun _ => 0) ∧ Proj B w' r wh (mems st nm) (eles st ne) (put L st (c + 1)) ∧ Below B w w' ∧ Others w w' r nm ne := by
  have H := child_new B r wh nm ne L st w hs hi hB hnm hne hP hL
  clear hP hL hs hi hnm hne
  go_enter Try.func17, Try.ntmps17
  go_wp2_with (go_at_call 28; refine H.mono ?_; rintro e w' ⟨c, hc, rfl, p1, p2, p3, p4⟩; have P4 : Hid (Others w w' r nm ne) := p4; clear p4)
  go_ret
  exact ⟨c, hc, rfl, p1, p2, p3, P4.out⟩

section
variable {B r : Nat} {wh : Bool} {nm ne : Nat} {L : Step → Nat} {w : World}

theorem Proj.parts (h : Proj B w r wh nm ne L) : ∃ x y fm fe, r < w.heap.size ∧ w.cell? ⟨r, 0, none⟩ = some (.bool wh) ∧ w.cell? ⟨r, 1, none⟩ = some (.map x) ∧ w.cell? ⟨r, 2, none⟩ = some (.map y) ∧
    MapV B w 9 (.map x) nm fm ∧ MapV B w 3 (.map y) ne fe ∧ ∀ st, L st = look fm fe st := by
  obtain ⟨vm, ve, fm, fe, h1, h2, h3, h4, h5, h6⟩ := h
  obtain ⟨x, rfl⟩ : ∃ x, vm = .map x := by
    rcases h3 with ⟨h, _⟩ | ⟨b, h, _⟩
    · exact ⟨_, h⟩
    · exact ⟨_, h⟩
  obtain ⟨y, rfl⟩ : ∃ y, ve = .map y := by
    rcases h4 with ⟨h, _⟩ | ⟨b, h, _⟩
    · exact ⟨_, h⟩
    · exact ⟨_, h⟩
  exact ⟨x, y, fm, fe, (Array.getElem?_eq_some_iff.1 h2).1, cell_of h2 0, cell_of h2 1, cell_of h2 2, h3, h4, h6⟩
theorem MapV.isNone {k : TypeId} {x : Option Nat} {n : Nat} {f : Lit → Nat} (h : MapV B w k (.map x) n f) : x.isNone = decide (n = 0) := by
  rcases h with ⟨h, h2, _⟩ | ⟨b, h, _, h3, _⟩
  · injection h with h
    subst h
    simp [h2]
  · injection h with h
    subst h
    have : ¬ n = 0 := by omega
    simp [this]
theorem MapV.lenv {k t : TypeId} {x : Option Nat} {n : Nat} {f : Lit → Nat} (h : MapV B w k (.map x) n f) (ht : Try.prog.underlying t = some (.map k 30)) (ty : TypeId) : (Builtin.len_ #[t] ty #[.map x]).run Try.prog w = .ok (.int .i64 (n : Int)) w := by
  rcases h with ⟨h, h2, _⟩ | ⟨b, h, _, _, h3⟩
  · injection h with h
    subst h
    subst h2
    exact Maps.len_nil ht ty
  · injection h with h
    subst h
    exact h3.len ht ty
theorem MapV.lookv {k t : TypeId} {x : Option Nat} {n : Nat} {f : Lit → Nat} (h : MapV B w k (.map x) n f) (K : Keyed Try.prog k) (ht : Try.prog.underlying t = some (.map k 30)) {key : Value} {kl : Lit} (hk : keyOf Try.prog k key = some kl) :
    (Instr.lookup t (.map x) key false).run Try.prog w = .ok (ptrV (f kl)) w := by
  rcases h with ⟨h, _, h2⟩ | ⟨b, h, _, _, h3⟩
  · injection h with h
    subst h
    rw [h2, Maps.look_nil false K ht (zero30 w) hk]
    rfl
  · injection h with h
    subst h
    exact h3.look K ht hk
theorem ret_bool {a b : Bool} (h : a = b) : Ending.returned (.bool a) = .returned (.bool b) := by rw [h]

theorem whole_any (h : Proj B w r wh nm ne L) : Calls Try.prog 19 #[.pointer (some ⟨r, 0, none⟩)] w fun e w' => e = .returned (.bool wh) ∧ w' = w := by
  obtain ⟨x, y, fm, fe, hr, c0, c1, c2, hm, he, hL⟩ := h.parts
  clear h hm he hL
  go_enter Try.func19, Try.ntmps19
  go_wp2
  go_ret
  exact ⟨rfl, rfl⟩
theorem memNil_any (h : Proj B w r wh nm ne L) : Calls Try.prog 22 #[.pointer (some ⟨r, 0, none⟩)] w fun e w' => e = .returned (.bool (decide (nm = 0))) ∧ w' = w := by
  obtain ⟨x, y, fm, fe, hr, c0, c1, c2, hm, he, hL⟩ := h.parts
  have e1 := hm.isNone
  have E1 : Hid (x.isNone = decide (nm = 0)) := e1
  have n42 := nil42
  clear h hm he hL e1
  go_enter Try.func22, Try.ntmps22
  go_wp2
  go_ret
  exact ⟨ret_bool E1.out, rfl⟩
theorem eleNil_any (h : Proj B w r wh nm ne L) : Calls Try.prog 23 #[.pointer (some ⟨r, 0, none⟩)] w fun e w' => e = .returned (.bool (decide (ne = 0))) ∧ w' = w := by
  obtain ⟨x, y, fm, fe, hr, c0, c1, c2, hm, he, hL⟩ := h.parts
  have e1 := he.isNone
  have E1 : Hid (y.isNone = decide (ne = 0)) := e1
  have n43 := nil43
  clear h hm he hL e1
  go_enter Try.func23, Try.ntmps23
  go_wp2
  go_ret
  exact ⟨ret_bool E1.out, rfl⟩
theorem memCount_any (h : Proj B w r wh nm ne L) : Calls Try.prog 20 #[.pointer (some ⟨r, 0, none⟩)] w fun e w' => e = .returned (.int .i64 (nm : Int)) ∧ w' = w := by
  obtain ⟨x, y, fm, fe, hr, c0, c1, c2, hm, he, hL⟩ := h.parts
  have e1 := fun ty => hm.lenv Try.underlying42 ty
  clear h hm he hL
  go_enter Try.func20, Try.ntmps20
  go_wp2
  go_ret
  exact ⟨rfl, rfl⟩
theorem eleCount_any (h : Proj B w r wh nm ne L) : Calls Try.prog 21 #[.pointer (some ⟨r, 0, none⟩)] w fun e w' => e = .returned (.int .i64 (ne : Int)) ∧ w' = w := by
  obtain ⟨x, y, fm, fe, hr, c0, c1, c2, hm, he, hL⟩ := h.parts
  have e1 := fun ty => he.lenv Try.underlying43 ty
  clear h hm he hL
  go_enter Try.func21, Try.ntmps21
  go_wp2
  go_ret
  exact ⟨rfl, rfl⟩
theorem member_any (h : Proj B w r wh nm ne L) (s : ByteArray) (hs : s.size ≤ maxLen) : Calls Try.prog 29 #[.pointer (some ⟨r, 0, none⟩), .string s] w fun e w' => e = .returned (ptrV (L (s, -1))) ∧ w' = w := by
  obtain ⟨x, y, fm, fe, hr, c0, c1, c2, hm, he, hL⟩ := h.parts
  have e1 := hm.lookv law9 Try.underlying42 (WideMaps.keyOf_string_mk Try.underlying9 hs)
  have e2 : fm (.string s.data.toList) = L (s, -1) := by rw [hL]; rfl
  rw [e2] at e1
  clear h hm he hL e2
  go_enter Try.func29, Try.ntmps29
  go_wp2
  go_ret
  exact ⟨rfl, rfl⟩
theorem element_any (h : Proj B w r wh nm ne L) (s : ByteArray) (i : Int) (hi : (Lit.int .i64 i).wf = true) (hne : i ≠ -1) : Calls Try.prog 30 #[.pointer (some ⟨r, 0, none⟩), .int .i64 i] w fun e w' => e = .returned (ptrV (L (s, i))) ∧ w' = w := by
  obtain ⟨x, y, fm, fe, hr, c0, c1, c2, hm, he, hL⟩ := h.parts
  have e1 := he.lookv law3 Try.underlying43 (keyOf_int_mk Try.underlying3 hi)
  have e2 : fe (.int .i64 i) = L (s, i) := by rw [hL]; unfold look; rw [if_neg hne]
  rw [e2] at e1
  clear h hm he hL e2
  go_enter Try.func30, Try.ntmps30
  go_wp2
  go_ret
  exact ⟨rfl, rfl⟩
end
end Go.Proofs.Qxb6601635a.child
