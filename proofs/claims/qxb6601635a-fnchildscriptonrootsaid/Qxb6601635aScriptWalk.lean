import Derived.Test.Qxb6601635aScript
import Derived.Deep.RegionWith
namespace Go.Proofs.Qxb6601635a.child
open Go.RowKit Go.Maps
set_option linter.unusedVariables false
theorem info30s : (Try.prog.info? 30).map (fun i => (i.zero, i.size, i.bytes)) = some (some (.pointer none), 1, 8) := by kernel_rfl

/-- what the search for the first step with the key of the k-th has found -/
def Found (sts : List Step) (k : Nat) (hk : k < sts.length) (v : Value) : Prop :=
  (v = .int .i64 (-1) ∧ ∀ j (hj : j < sts.length), j < k → same sts[j] sts[k] = false) ∨ ∃ f, ∃ hf : f < k, v = .int .i64 (f : Int) ∧ same (sts[f]'(by omega)) sts[k] = true
theorem Proj.drew' {B : Nat} {w : World} {r : Nat} {wh : Bool} {nm ne : Nat} {L : Step → Nat} (h : Proj B w r wh nm ne L) : Proj B w.drew r wh nm ne L := h.kept rfl fun _ _ _ => rfl
theorem cell_new0 (w : World) : (w.alloc (.cells #[.bool false, .map none, .map none] 45)).cell? ⟨w.heap.size, 0, none⟩ = some (.bool false) := by rw [World.cell?_alloc_new]; rfl
theorem free_new0 (w : World) : (w.alloc (.cells #[.bool false, .map none, .map none] 45)).frozen? ⟨w.heap.size, 0, none⟩ = false := World.frozen?_alloc_at _ _ _ _ rfl

set_option maxRecDepth 100000 in
set_option maxHeartbeats 2000000 in
theorem script_walk (wh : Bool) (b off cap : Nat) (sts : List Step) (w : World) (h0 : 0 < sts.length) (hn : sts.length ≤ maxLen) (hbl : b < w.heap.size) (h : StepsAt w b off sts) (hok : ∀ j (hj : j < sts.length), sts[j].1.size ≤ maxLen ∧ (Lit.int .i64 sts[j].2).wf = true) :
    Calls Try.prog 5 #[.bool wh, .slice (some ⟨b, off, none⟩) sts.length cap] w fun e w' => e = .returned (.bool true) ∧ Below w.heap.size w w' := by
  obtain ⟨i0, hi, hz0, hz1, hz2⟩ := info_parts info30s
  go_enter Try.func5, Try.ntmps5
  go_wp2_with (go_at_call 11; refine (bytes11_any _ _ _ _ _ _ hn h).mono ?_; rintro e w ⟨⟨t, rfl, _⟩, rfl⟩; cases t)
  · go_ret
    exact ⟨rfl, Below.refl _ _⟩
  · go_wp2_with (go_at_call 12; refine (tooBig_any _ _ _ _ _ hn h).mono ?_; rintro e w ⟨⟨t, rfl, ht⟩, rfl⟩; have HT : Hid (t = false → sts.length ≤ 4096) := ht; clear ht; cases t)
    · have hn' := HT.out (by simp)
      clear HT
      go_wp2_with (first | (go_at_call 13; refine (copy_any _ _ _ _ _ hn' hbl h).mono ?_; rintro e w1 ⟨rfl, hb1, hg1, hs1⟩) | (go_at_call 14; refine (new_any _).mono ?_; rintro e w2 ⟨rfl, rfl⟩) | (go_at_call 15; refine (setWhole_any _ _ false _ (cell_new0 _) (free_new0 _)).mono ?_; rintro e w2 ⟨rfl, rfl⟩) | (at_make; refine wpList_make_full _ rfl _ _ 33 rfl w1.heap.size 30 i0 (.pointer none) 1 Try.underlying33 hi hz0 hz1 _ _ _ _ sts.length rfl rfl rfl rfl (by rw [hz2]; omega) (by unfold maxLen; omega) (by simp) ?_))
      intro w3 hown hgrow
      have hS := Script.start hb1 hg1 hs1 hown hgrow
      obtain ⟨r, hr⟩ : ∃ r, r = w1.heap.size := ⟨_, rfl⟩
      obtain ⟨q, hq⟩ : ∃ q, q = w1.heap.size + 1 := ⟨_, rfl⟩
      rw [← hq, ← hr] at hS
      rw [← hq]
      rw [← hr]
      clear hown hgrow hq hr hb1 hg1 hs1 h hbl hi hz0 hz1 hz2
      go_wp2
      go_loopg [7, 8, 9] sts.length (fun m s7 s8 s9 wr => ∃ (k nm ne : Nat) (L : Step → Nat) (c : Nat → Nat), k ≤ sts.length ∧ sts.length - k = m ∧ s9 = .int .i64 k ∧ s7 = .int .i64 nm ∧ s8 = .int .i64 ne ∧ Script w.heap.size w wr w.heap.size q r wh sts k nm ne L c)
      case atStart => exact ⟨0, 0, 0, fun _ => 0, fun _ => 0, Nat.zero_le _, rfl, rfl, rfl, rfl, hS⟩
      case round =>
        clear hS
        obtain ⟨k, nm, ne, L, c, hk, hgk, rfl, rfl, rfl, hS⟩ := hrel
        have HG := hide hgk
        clear hgk
        by_cases hlt : k < sts.length
        · have hSx := fun wx hb => hS.keep (wx := wx) hb
          go_upto_block 2 with fail
          go_cut [10] (fun s10 wx => Found sts k hlt s10 ∧ Below wr.heap.size wr wx)
          case first =>
            go_wp2_with fail
            go_loopg [10, 11] k (fun m s10 s11 wx => ∃ j : Nat, j ≤ k ∧ k - j = m ∧ s11 = .int .i64 j ∧ Below wr.heap.size wr wx ∧ ((s10 = .int .i64 (-1) ∧ ∀ j' (hj : j' < sts.length), j' < j → same sts[j'] sts[k] = false) ∨ ∃ f, ∃ hf : f < k, s10 = .int .i64 (f : Int) ∧ same (sts[f]'(by omega)) sts[k] = true))
            case atStart => exact ⟨0, Nat.zero_le _, rfl, rfl, Below.refl _ _, .inl ⟨rfl, fun j' _ h => absurd h (Nat.not_lt_zero _)⟩⟩
            case round =>
              obtain ⟨j, hj, hgj, rfl, hb, hF⟩ := hrel
              have HJ := hide hgj
              clear hgj
              rcases hF with ⟨rfl, hno⟩ | ⟨f, hf, rfl, hsame⟩
              · have HN := hide hno
                clear hno
                by_cases hjk : j < k
                · have hSj := hSx _ hb
                  obtain ⟨s1, s2⟩ := hSj.cells j (by omega)
                  obtain ⟨s3, s4⟩ := hSj.cells k hlt
                  have H16 := same_any sts[j] sts[k] wr.drew
                  clear hSj
                  go_upto_region 18 with fail
                  go_cut [53] (fun s53 wy => s53 = .bool (same sts[j] sts[k]) ∧ Below wr.heap.size wr wy)
                  case first =>
                    go_region_with (go_at_call 16; refine H16.mono ?_; rintro e w' ⟨rfl, p3⟩)
                    all_goals (go_wp2_with fail; go_meet; exact ⟨rfl, ⟨p3.os, p3.tape, p3.output, p3.size, p3.block⟩⟩)
                  case rest =>
                    obtain ⟨rfl, p3⟩ := hcut
                    have hb' := hb.trans (p3.mono hb.size)
                    clear H16 s1 s2 s3 s4 p3 hb
                    cases hsm : same sts[j] sts[k]
                    · have HSM := hide hsm
                      clear hsm
                      go_wp2_with fail
                      go_roundg (gk - 1)
                      case measure => have := HJ.out; omega
                      case rel =>
                        refine ⟨j + 1, by omega, by have := HJ.out; omega, by go_num, hb', .inl ⟨rfl, fun j' h1 h2 => ?_⟩⟩
                        by_cases e : j' = j
                        · subst e; exact HSM.out
                        · exact HN.out j' h1 (by omega)
                    · have HSM := hide hsm
                      clear hsm
                      go_wp2_with fail
                      go_roundg (gk - 1)
                      case measure => have := HJ.out; omega
                      case rel => exact ⟨j + 1, by omega, by have := HJ.out; omega, by go_num, hb', .inr ⟨j, hjk, rfl, HSM.out⟩⟩
                · go_wp2_with fail
                  go_meet
                  exact ⟨.inl ⟨rfl, fun j' h1 h2 => HN.out j' h1 (by omega)⟩, hb⟩
              · have HF := hide hsame
                clear hsame
                go_wp2_with fail
                all_goals (go_meet; exact ⟨.inr ⟨f, hf, rfl, HF.out⟩, hb⟩)
          case rest =>
            obtain ⟨hF, hbx⟩ := hcut
            have hSw := hSx _ hbx
            obtain ⟨s1, s2⟩ := hSw.cells k hlt
            have q30 := neq30
            clear hS hSx hbx
            rcases hF with ⟨rfl, hno⟩ | ⟨f, hf, rfl, hsame⟩
            · have h0 := hSw.absent _ hno
              have hkb : k ≤ 4096 := by omega
              have H17 := zzchild_new w.heap.size r wh nm ne L sts[k] wc.drew (hok k hlt).1 (hok k hlt).2 hSw.baser (by have := hSw.nmk; unfold maxLen; omega) (by have := hSw.nek; unfold maxLen; omega) hSw.root.drew' h0
              have hSn := fun wx n a b c d e => hSw.new (wx := wx) (n := n) hlt a b c d e h0
              have hSm := fun wx d => hSw.mid (wx := wx) (n := 0) (L' := L) (nm' := 0) (ne' := 0) d
              have hnr := hSw.root.lt
              have hnl := fun j hj => lt_of (hSw.node j hj).2.2
              clear hno hSw h0
              go_upto_region 20 with fail
              go_cut [12] (fun s12 wx => ∃ n, wc.heap.size ≤ n ∧ s12 = .pointer (some ⟨n, 0, none⟩) ∧ Proj w.heap.size wx n false 0 0 (fun _ => 0) ∧ Proj w.heap.size wx r wh (mems sts[k] nm) (eles sts[k] ne) (put L sts[k] (n + 1)) ∧ Below w.heap.size wc wx ∧ Others wc wx r nm ne)
              case first =>
                go_region_with (go_at_call 17; refine H17.mono ?_; rintro e w' ⟨n, hc, rfl, p1, p2, p3, p4⟩)
                all_goals (go_wp2_with fail; go_meet; exact ⟨n, hc, rfl, p1, p2, ⟨p3.os, p3.tape, p3.output, p3.size, p3.block⟩, p4⟩)
              case rest =>
                obtain ⟨n, hn1, rfl, p1, p2, p3, p4⟩ := hcut
                have hS6 := hSn _ n hn1 p1 p2 p3 p4
                obtain ⟨hst, hgx, ⟨cq, hq, hq1, hq2⟩, hnodes⟩ := hSm _ p4
                have hx := hst k hlt
                rw [Nat.zero_add] at hx
                obtain ⟨x1, x2⟩ := hx
                obtain ⟨cr, hcr⟩ := p2.isCells
                have e30 := eql30 wc n r (by omega) p1.isFresh hcr
                have H18 : Calls Try.prog 18 #[.pointer (some ⟨n, 0, none⟩)] wc fun e w' => e = .returned (.bool true) ∧ w' = wc := by simpa using fresh_any p1
                have hgot : ∀ j, j < k → wc.cell? ⟨q, j, none⟩ = some (.pointer (some ⟨c j, 0, none⟩)) ∧ (binOp .eql 30 (.pointer (some ⟨c j, 0, none⟩)) (.pointer (some ⟨n, 0, none⟩))).run Try.prog wc = .ok (.bool false) wc := fun j hj =>
                  ⟨by rw [cell_of hq]; exact hq2 j hj, eql30 wc (c j) n (by have := hnl j hj; omega) (hnodes j hj) p1.isFresh⟩
                obtain ⟨v4, c4⟩ : ∃ v, wc.cell? ⟨q, k, none⟩ = some v := ⟨cq[k]'(by omega), by rw [cell_of hq, Array.getElem?_eq_getElem]⟩
                have f4 := free_of hq k
                clear H17 hSn hSm p1 p2 p3 p4 hst hgx hq hq1 hq2 hnodes hcr hnr hnl hn1 s1 s2
                have HS6 := hide hS6
                have HGOT := hide hgot
                clear hS6 hgot
                go_wp2_with (go_at_call 18; refine H18.mono ?_; rintro e wc ⟨rfl, rfl⟩)
                go_loopg [13] k (fun m s13 wx => ∃ j : Nat, j ≤ k ∧ k - j = m ∧ s13 = .int .i64 j ∧ wx = wc)
                case atStart => exact ⟨0, Nat.zero_le _, rfl, rfl, rfl⟩
                case round =>
                  obtain ⟨j, hj, hgj, rfl, rfl⟩ := hrel
                  have HJ := hide hgj
                  clear hgj
                  by_cases hjk : j < k
                  · obtain ⟨g1, g2⟩ := HGOT.out j hjk
                    have hjn : j < sts.length := by omega
                    go_wp2_with fail
                    go_roundg (k - (j + 1))
                    case measure => have := HJ.out; omega
                    case rel => exact ⟨j + 1, by omega, rfl, by go_num, rfl⟩
                  · have ejk : j = k := by omega
                    clear HGOT HJ hj
                    have hS6 := HS6.out
                    clear HS6
                    by_cases e : sts[k].2 = -1
                    · have hm : mems sts[k] nm = nm + 1 := by unfold mems; rw [if_pos e]
                      have he : eles sts[k] ne = ne := by unfold eles; rw [if_pos e]
                      rw [hm, he] at hS6
                      have e1 : (sts[k].2 == -1) = true := by simpa using e
                      clear hm he e
                      have H19 := whole_any hS6.root
                      have H20 := memCount_any hS6.root
                      have H21 := eleCount_any hS6.root
                      have H22 := memNil_any hS6.root
                      have H23 := eleNil_any hS6.root
                      have hnb := hS6.nmk
                      have dnm : (((nm : Int) + 1) == 0) = false := by simp; omega
                      have dne : ((ne : Int) == 0) = decide (ne = 0) := by rw [Bool.eq_iff_iff]; simp
                      go_wp2_with (first | (go_at_call 19; refine H19.mono ?_; rintro e w' ⟨rfl, rfl⟩) | (go_at_call 20; refine H20.mono ?_; rintro e w' ⟨rfl, rfl⟩) | (go_at_call 21; refine H21.mono ?_; rintro e w' ⟨rfl, rfl⟩) | (go_at_call 22; refine H22.mono ?_; rintro e w' ⟨rfl, rfl⟩) | (go_at_call 23; refine H23.mono ?_; rintro e w' ⟨rfl, rfl⟩))
                      go_roundg (sts.length - (k + 1))
                      case measure => have := HG.out; omega
                      case rel => exact ⟨k + 1, nm + 1, ne, _, _, by omega, rfl, by go_num, by go_num, rfl, hS6⟩
                    · have hm : mems sts[k] nm = nm := by unfold mems; rw [if_neg e]
                      have he : eles sts[k] ne = ne + 1 := by unfold eles; rw [if_neg e]
                      rw [hm, he] at hS6
                      have e1 : (sts[k].2 == -1) = false := by simpa using e
                      clear hm he e
                      have H19 := whole_any hS6.root
                      have H20 := memCount_any hS6.root
                      have H21 := eleCount_any hS6.root
                      have H22 := memNil_any hS6.root
                      have H23 := eleNil_any hS6.root
                      have hnb := hS6.nek
                      have dne : (((ne : Int) + 1) == 0) = false := by simp; omega
                      have dnm : ((nm : Int) == 0) = decide (nm = 0) := by rw [Bool.eq_iff_iff]; simp
                      go_wp2_with (first | (go_at_call 19; refine H19.mono ?_; rintro e w' ⟨rfl, rfl⟩) | (go_at_call 20; refine H20.mono ?_; rintro e w' ⟨rfl, rfl⟩) | (go_at_call 21; refine H21.mono ?_; rintro e w' ⟨rfl, rfl⟩) | (go_at_call 22; refine H22.mono ?_; rintro e w' ⟨rfl, rfl⟩) | (go_at_call 23; refine H23.mono ?_; rintro e w' ⟨rfl, rfl⟩))
                      go_roundg (sts.length - (k + 1))
                      case measure => have := HG.out; omega
                      case rel => exact ⟨k + 1, nm, ne + 1, _, _, by omega, rfl, by go_num, rfl, by go_num, hS6⟩
            · have hL : L sts[k] = c f + 1 := by rw [← hSw.root.coh hsame]; exact hSw.hit f (by omega) hf
              have H17 := zzchild_old w.heap.size r wh nm ne L sts[k] (c f) wc.drew (hok k hlt).1 (hok k hlt).2 hSw.root.drew' hL
              have hSx := fun wx hb => hSw.keep (wx := wx) hb
              have HF := hide hsame
              have HL := hide hL
              clear hsame hL hSw
              go_upto_region 20 with fail
              go_cut [12] (fun s12 wx => s12 = .pointer (some ⟨c f, 0, none⟩) ∧ Below wc.heap.size wc wx)
              case first =>
                go_region_with (go_at_call 17; refine H17.mono ?_; rintro e w' ⟨rfl, p3⟩)
                all_goals (go_wp2_with fail; go_meet; exact ⟨rfl, ⟨p3.os, p3.tape, p3.output, p3.size, p3.block⟩⟩)
              case rest =>
                obtain ⟨rfl, p3⟩ := hcut
                have hSv := hSx _ p3
                clear hSx p3 H17 s1 s2
                obtain ⟨cr, hcr⟩ := hSv.root.isCells
                have e30 := eql30 wc (c f) r (hSv.node f hf).2.1 (hSv.node f hf).2.2 hcr
                have x3 := hSv.nodeAt f hf
                have hfn : f < sts.length := by omega
                obtain ⟨v4, c4, f4⟩ := hSv.room k hlt
                have hS6 := hSv.old hlt f hf HF.out
                have H19 := whole_any hS6.root
                have H20 := memCount_any hS6.root
                have H21 := eleCount_any hS6.root
                have H22 := memNil_any hS6.root
                have H23 := eleNil_any hS6.root
                have dnm : ((nm : Int) == 0) = decide (nm = 0) := by rw [Bool.eq_iff_iff]; simp
                have dne : ((ne : Int) == 0) = decide (ne = 0) := by rw [Bool.eq_iff_iff]; simp
                clear hSv hcr
                go_wp2_with (first | (go_at_call 19; refine H19.mono ?_; rintro e w' ⟨rfl, rfl⟩) | (go_at_call 20; refine H20.mono ?_; rintro e w' ⟨rfl, rfl⟩) | (go_at_call 21; refine H21.mono ?_; rintro e w' ⟨rfl, rfl⟩) | (go_at_call 22; refine H22.mono ?_; rintro e w' ⟨rfl, rfl⟩) | (go_at_call 23; refine H23.mono ?_; rintro e w' ⟨rfl, rfl⟩))
                go_roundg (gk - 1)
                case measure => have := HG.out; omega
                case rel => exact ⟨k + 1, nm, ne, L, at' c k (c f), by omega, by have := HG.out; omega, by go_num, rfl, rfl, hS6⟩
        · have ek : k = sts.length := by omega
          subst ek
          clear HG hlt hk
          go_wp2
          go_loopg [14] sts.length (fun m s14 wx => ∃ j : Nat, j ≤ sts.length ∧ sts.length - j = m ∧ s14 = .int .i64 j ∧ Script w.heap.size w wx w.heap.size q r wh sts sts.length nm ne L c)
          case atStart => exact ⟨0, Nat.zero_le _, rfl, rfl, hS⟩
          case round =>
            clear hS
            obtain ⟨j, hj, hgj, rfl, hS⟩ := hrel
            have HJ := hide hgj
            clear hgj
            by_cases hlt : j < sts.length
            · have H24 := lookup_any hS.root.drew' sts[j] (hok j hlt).1 (hok j hlt).2
              rw [hS.hit j hlt hlt] at H24
              simp only [ptrV] at H24
              obtain ⟨s1, s2⟩ := hS.cells j hlt
              have x3 := hS.nodeAt j hlt
              have hql : q < wr.heap.size := by obtain ⟨cq, hq, _⟩ := hS.rowq; exact lt_of hq
              have q30 := neq30
              have hSx := fun wx hb => hS.keep (wx := wx) hb
              clear hS
              go_upto_region 46 with fail
              go_cut [152] (fun s152 wx => s152 = .bool false ∧ Below wr.heap.size wr wx)
              case first =>
                go_region_with (go_at_call 24; refine H24.mono ?_; rintro e w' ⟨rfl, p3⟩; have x5 := (p3.cell (p := ⟨q, j, none⟩) hql).trans x3)
                all_goals (go_wp2_with fail; go_meet; exact ⟨rfl, ⟨p3.os, p3.tape, p3.output, p3.size, p3.block⟩⟩)
              case rest =>
                obtain ⟨rfl, p3⟩ := hcut
                have hSv := hSx _ p3
                clear hSx p3 H24 s1 s2 x3 hql q30
                have x3 := hSv.nodeAt j hlt
                have H18 : Calls Try.prog 18 #[.pointer (some ⟨c j, 0, none⟩)] wc fun e w' => e = .returned (.bool true) ∧ w' = wc := by simpa using fresh_any (hSv.proj j hlt)
                go_wp2_with (go_at_call 18; refine H18.mono ?_; rintro e wc ⟨rfl, rfl⟩)
                go_roundg (sts.length - (j + 1))
                case measure => have := HJ.out; omega
                case rel => exact ⟨j + 1, by omega, rfl, by go_num, hSv⟩
            · have hbl := hS.below
              clear hS
              go_wp2
              go_ret
              exact ⟨rfl, hbl⟩
    · go_wp2
      go_ret
      exact ⟨rfl, Below.refl _ _⟩
end Go.Proofs.Qxb6601635a.child
