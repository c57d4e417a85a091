/-
  Seat b6601635a. A MAP OF POINTERS as a plain function of its keys ('MapIs', 'MapV'), and a projection node ('Proj'), with no walk in sight.
-/
import Derived.Test.Qxb6601635aRows
import Derived.WalkKit
import Derived.Maps.OwnSet
import Derived.Below
namespace Go.Proofs.Qxb6601635a.child
open Go.RowKit Go.Maps

/-- how a pointer to the head of a block reads: 0 for nil, the block's number and one more else -/
def ptrR (v : Value) : Option (DataW Unit × List MemPlace) :=
  match v with
  | .pointer none => some (.lit (.int .i64 0), [])
  | .pointer (some a) => if a = ⟨a.block, 0, none⟩ then some (.lit (.int .i64 ((a.block : Int) + 1)), []) else none
  | _ => none
/-- .. and back -/
def ptrV : Nat → Value
  | 0 => .pointer none
  | c + 1 => .pointer (some ⟨c, 0, none⟩)
theorem ptrR_mk (c : Nat) : ptrR (ptrV c) = some (.lit (.int .i64 (c : Int)), []) := by
  cases c with
  | zero => rfl
  | succ c => simp [ptrV, ptrR]
theorem ptrR_inv {v : Value} {c : Nat} {ps : List MemPlace} (h : ptrR v = some (.lit (.int .i64 (c : Int)), ps)) : v = ptrV c := by
  unfold ptrR at h
  split at h
  · simp at h
    obtain ⟨h1, _⟩ := h
    have : c = 0 := by omega
    subst this
    rfl
  · rename_i a
    split at h
    · rename_i ha
      simp at h
      obtain ⟨h1, _⟩ := h
      have : c = a.block + 1 := by omega
      subst this
      rw [ha]
      rfl
    · cases h
  · cases h

theorem law9 : Keyed Try.prog 9 := Keyed.of_law (WideMaps.string_law Try.underlying9)
theorem law3 : Keyed Try.prog 3 := int_keyed Try.underlying3
theorem zero30 (w : World) : (zeroValue 30).run Try.prog w = .ok (.pointer none) w := by kernel_rfl

/-- block b of w is a map of n entries; f says what stands at each key: 0 where there is none, else the block of the node and one more -/
def MapIs (w : World) (k : TypeId) (b n : Nat) (f : Lit → Nat) : Prop :=
  ∃ D : DataW Unit, w.ownsMap Try.prog k ptrR b n D ∧ Maps.size D = n ∧ (∀ l, D.atKey l (.lit (.int .i64 0)) = .lit (.int .i64 (f l : Int))) ∧ ∀ l, f l = 0 → Maps.has D l = false

/-- f with c at the key l -/
def upd (f : Lit → Nat) (l : Lit) (c : Nat) : Lit → Nat := fun l' => if l'.sameKey l = true then c else f l'

theorem MapIs.lt {w : World} {k : TypeId} {b n : Nat} {f : Lit → Nat} (h : MapIs w k b n f) : b < w.heap.size := by
  obtain ⟨D, h, _⟩ := h
  exact h.lt
theorem MapIs.isMap {w : World} {k : TypeId} {b n : Nat} {f : Lit → Nat} (h : MapIs w k b n f) : ∃ es clock, w.heap[b]? = some (.map es clock) := by
  obtain ⟨D, ⟨es, clock, hb, _⟩, _⟩ := h
  exact ⟨es, clock, hb⟩
theorem MapIs.same {w w' : World} {k : TypeId} {b n : Nat} {f : Lit → Nat} (h : MapIs w k b n f) (hb : w'.heap[b]? = w.heap[b]?) : MapIs w' k b n f := by
  obtain ⟨D, ⟨es, clock, h1, h2⟩, h3⟩ := h
  exact ⟨D, ⟨es, clock, hb.trans h1, h2⟩, h3⟩
theorem MapIs.made (w : World) (k : TypeId) : MapIs (w.alloc (.map #[] 0)) k w.heap.size 0 (fun _ => 0) :=
  ⟨.map [], World.ownsMap_made w _ _ _, rfl, fun _ => rfl, fun _ _ => rfl⟩
theorem MapIs.look {w : World} {k t : TypeId} {b n : Nat} {f : Lit → Nat} (h : MapIs w k b n f) (K : Keyed Try.prog k) (ht : Try.prog.underlying t = some (.map k 30)) {key : Value} {kl : Lit} (hk : keyOf Try.prog k key = some kl) :
    (Instr.lookup t (.map (some b)) key false).run Try.prog w = .ok (ptrV (f kl)) w := by
  obtain ⟨D, h1, _, h3, _⟩ := h
  obtain ⟨v, ps, hrun, hv⟩ := h1.lookup K ht (zero30 w) (ptrR_mk 0) hk
  have hv' : ptrR v = some (D.atKey kl (.lit (.int .i64 0)), ps) := hv
  rw [h3] at hv'
  rw [hrun, ptrR_inv hv']
theorem MapIs.len {w : World} {k t : TypeId} {b n : Nat} {f : Lit → Nat} (h : MapIs w k b n f) (ht : Try.prog.underlying t = some (.map k 30)) (ty : TypeId) :
    (Builtin.len_ #[t] ty #[.map (some b)]).run Try.prog w = .ok (.int .i64 (n : Int)) w := by
  obtain ⟨D, h1, h2, _⟩ := h
  rw [h1.len ht ty, h2]
theorem MapIs.store {w : World} {k t : TypeId} {b n : Nat} {f : Lit → Nat} (h : MapIs w k b n f) (K : Keyed Try.prog k) (ht : Try.prog.underlying t = some (.map k 30)) (hn : n < maxLen) {key : Value} {kl : Lit} (hk : keyOf Try.prog k key = some kl)
    (h0 : f kl = 0) (c : Nat) : ∃ w', (Instr.mapUpdate t (.map (some b)) key (.pointer (some ⟨c, 0, none⟩))).run Try.prog w = .ok () w' ∧ MapIs w' k b (n + 1) (upd f kl (c + 1)) ∧ w.grownBy w' (some b) := by
  obtain ⟨D, h1, h2, h3, h4⟩ := h
  obtain ⟨w', hrun, ho, hg⟩ := h1.update K ht hn hk (ptrR_mk (c + 1))
  refine ⟨w', hrun, ⟨_, ho, ?_, ?_, ?_⟩, hg⟩
  · rw [size_put (h1.tidy K), h4 kl h0, h2]
    rfl
  · intro l
    unfold upd
    split
    · rename_i e
      rw [WideAt.sameKey_eq e, atKey_put_same h1.isMap (K.key hk)]
    · rename_i e
      have e' : l ≠ kl := fun h => e (by rw [h]; exact WideAt.sameKey_self (K.key hk))
      rw [atKey_put_other e', h3]
  · intro l hl
    unfold upd at hl
    split at hl
    · cases hl
    · rename_i e
      have e' : l ≠ kl := fun h => e (by rw [h]; exact WideAt.sameKey_self (K.key hk))
      rw [has_put_other e']
      exact h4 l hl

/-- the value v leads to a map of n entries, f at its keys; nil just where it is empty; its block is one of those from B on -/
def MapV (B : Nat) (w : World) (k : TypeId) (v : Value) (n : Nat) (f : Lit → Nat) : Prop :=
  (v = .map none ∧ n = 0 ∧ ∀ l, f l = 0) ∨ ∃ b, v = .map (some b) ∧ B ≤ b ∧ 0 < n ∧ MapIs w k b n f
theorem MapV.none (B : Nat) (w : World) (k : TypeId) : MapV B w k (.map none) 0 (fun _ => 0) := .inl ⟨rfl, rfl, fun _ => rfl⟩
theorem MapV.kept {B : Nat} {w w' : World} {k : TypeId} {v : Value} {n : Nat} {f : Lit → Nat} (h : MapV B w k v n f)
    (hb : ∀ b, v = .map (some b) → (∃ es clock, w.heap[b]? = some (.map es clock)) → w'.heap[b]? = w.heap[b]?) : MapV B w' k v n f := by
  rcases h with h | ⟨b, h1, h2, h3, h4⟩
  · exact .inl h
  · exact .inr ⟨b, h1, h2, h3, h4.same (hb b h1 h4.isMap)⟩

/-- a step: a name and an index -/
abbrev Step := ByteArray × Int
/-- do two steps lead to one child? (as the Go text's sameKey has it) -/
def same (a b : Step) : Bool := if a.2 = -1 then decide (b.2 = -1) && decide (a.1.data.toList = b.1.data.toList) else decide (b.2 = a.2)
/-- what stands under a step -/
def look (fm fe : Lit → Nat) (st : Step) : Nat := if st.2 = -1 then fm (.string st.1.data.toList) else fe (.int .i64 st.2)

/-- block r of w is a projection node: its flag, the numbers of its members and of its elements, and what stands under each step (0: nothing; else the child's block and one more) -/
def Proj (B : Nat) (w : World) (r : Nat) (wh : Bool) (nm ne : Nat) (L : Step → Nat) : Prop :=
  ∃ vm ve fm fe, B ≤ r ∧ w.heap[r]? = some (.cells #[.bool wh, vm, ve] 45 (0, 0)) ∧ MapV B w 9 vm nm fm ∧ MapV B w 3 ve ne fe ∧ (∀ b, vm = .map (some b) → ve ≠ .map (some b)) ∧ ∀ st, L st = look fm fe st

theorem Proj.lt {B : Nat} {w : World} {r : Nat} {wh : Bool} {nm ne : Nat} {L : Step → Nat} (h : Proj B w r wh nm ne L) : r < w.heap.size := by
  obtain ⟨vm, ve, fm, fe, _, h, _⟩ := h
  exact (Array.getElem?_eq_some_iff.1 h).1
theorem Proj.ge {B : Nat} {w : World} {r : Nat} {wh : Bool} {nm ne : Nat} {L : Step → Nat} (h : Proj B w r wh nm ne L) : B ≤ r := by
  obtain ⟨vm, ve, fm, fe, h, _⟩ := h
  exact h
theorem Proj.isCells {B : Nat} {w : World} {r : Nat} {wh : Bool} {nm ne : Nat} {L : Step → Nat} (h : Proj B w r wh nm ne L) : ∃ cs, w.heap[r]? = some (.cells cs 45 (0, 0)) := by
  obtain ⟨vm, ve, fm, fe, _, h, _⟩ := h
  exact ⟨_, h⟩
theorem Proj.fresh {B : Nat} {w : World} {r : Nat} (hB : B ≤ r) (h : w.heap[r]? = some (.cells #[.bool false, .map none, .map none] 45 (0, 0))) : Proj B w r false 0 0 (fun _ => 0) :=
  ⟨_, _, fun _ => 0, fun _ => 0, hB, h, MapV.none _ _ _, MapV.none _ _ _, fun b h => (by cases h), fun st => by unfold look; split <;> rfl⟩
/-- a node stays what it is while another block (of cells) is written and new ones are laid -/
theorem Proj.kept {B : Nat} {w w' : World} {r : Nat} {wh : Bool} {nm ne : Nat} {L : Step → Nat} (h : Proj B w r wh nm ne L)
    (hr : w'.heap[r]? = w.heap[r]?) (hm : ∀ b, b < w.heap.size → (∃ es clock, w.heap[b]? = some (.map es clock)) → w'.heap[b]? = w.heap[b]?) : Proj B w' r wh nm ne L := by
  obtain ⟨vm, ve, fm, fe, h1, h2, h3, h4, h5, h6⟩ := h
  refine ⟨vm, ve, fm, fe, h1, hr.trans h2, h3.kept ?_, h4.kept ?_, h5, h6⟩
  all_goals
    intro b _ hb
    obtain ⟨es, clock, hb'⟩ := hb
    exact hm b (Array.getElem?_eq_some_iff.1 hb').1 ⟨es, clock, hb'⟩
theorem Proj.below {B : Nat} {w w' : World} {r : Nat} {wh : Bool} {nm ne : Nat} {L : Step → Nat} (h : Proj B w r wh nm ne L) (hb : Below w.heap.size w w') : Proj B w' r wh nm ne L :=
  h.kept (hb.block r h.lt) fun b hb' _ => hb.block b hb'
theorem look_upd_m {fm fe : Lit → Nat} {s : ByteArray} {c : Nat} (st : Step) : look (upd fm (.string s.data.toList) c) fe st = if same (s, -1) st = true then c else look fm fe st := by
  obtain ⟨s', i⟩ := st
  unfold look upd same
  by_cases e : i = -1
  · by_cases e2 : s.data.toList = s'.data.toList
    · have : (Lit.string s'.data.toList).sameKey (.string s.data.toList) = true := by rw [e2]; exact WideAt.sameKey_self trivial
      simp [e, e2]
      rw [e2] at this
      simp [this]
    · have : (Lit.string s'.data.toList).sameKey (.string s.data.toList) = false := sameKey_ne (fun h => e2 (by injection h with h; exact h.symm))
      simp [e, e2, this]
  · simp [e]
theorem look_upd_e {fm fe : Lit → Nat} {s : ByteArray} {i : Int} (hi : i ≠ -1) {c : Nat} (st : Step) : look fm (upd fe (.int .i64 i) c) st = if same (s, i) st = true then c else look fm fe st := by
  obtain ⟨s', j⟩ := st
  unfold look upd same
  by_cases e : j = -1
  · have h1 : ¬ (-1 : Int) = i := fun h => hi h.symm
    simp [e, hi, h1]
  · by_cases e2 : j = i
    · subst e2
      have : (Lit.int .i64 j).sameKey (.int .i64 j) = true := WideAt.sameKey_self trivial
      simp [e, this]
    · have : (Lit.int .i64 j).sameKey (.int .i64 i) = false := sameKey_ne (fun h => e2 (by injection h))
      simp [e, hi, e2, this]
end Go.Proofs.Qxb6601635a.child
