/- FnPatchText: the statement, at every input; its condition: the listed variables read as the row lists them. -/
import Derived.Test.YtgogjghfehcpoaaGreatDoorF5
import Derived.Test.YtgogjghfehcpoaaGreatDoorRows
import Derived.Test.YtgogjghfehcpoaaGreatDoorTie
import Derived.Test.YtgogjghfehcpoaaGreatDoorCards
import Derived.Test.YtgogjghfehcpoaaGreatDoorProg
import Derived.Deep.Slices
import Derived.Deep.Fields
import Derived.ChangeSame
import Derived.ProofKit
import Derived.OpenShut
import Derived.LaidMore
import Derived.Lay
import Derived.SevenTiedAt
import Derived.Stop.Joined
import Derived.ShutString
import Derived.Carry
import Derived.Lib.LaidTab
import Derived.SizedLaws
set_option maxHeartbeats 8000000
set_option maxRecDepth 100000
namespace Go.Proofs.YtgogjghfehcpoaaGreatDoor.QT
open Go.RowKit Go.Proofs.YtgogjghfehcpoaaGreatDoorW.PrintWords Go.Proofs.YtgogjghfehcpoaaGreatDoorW.PrintLast Go.Proofs.YtgogjghfehcpoaaGreatDoorW.PrintMore
set_option linter.unusedVariables false
set_option linter.unusedSimpArgs false
mutual
def p_PatchAddContext.l0 : Nat → ByteArray → ByteArray → Int → List (S93) → Int → Int → Int → Int → Option ((List (S93)) × Int × Int × Int × Int)
 | 0, _, _, _, _, _, _, _, _ => none
 | k + 1, x2, x7, x8, x608000, x608001, x608002, x608003, x608004 => (q_zzIndex.f k x2 x7).bind fun t609 => ((q_zzLastIndex.f k x2 x7).bind fun t610 => (if t609 = t610 then (p_PatchAddContext.j1 k x2 x8 false x608000 x608001 x608002 x608003 x608004) else (p_PatchAddContext.j1 k x2 x8 (decide ((x7.size : Int) < (32 - (2 * 4)))) x608000 x608001 x608002 x608003 x608004)))
def p_PatchAddContext.j1 : Nat → ByteArray → Int → Bool → List (S93) → Int → Int → Int → Int → Option ((List (S93)) × Int × Int × Int × Int)
 | 0, _, _, _, _, _, _, _, _ => none
 | k + 1, x2, x8, x47, x608000, x608001, x608002, x608003, x608004 => if x47 = true then ((q_max.f 0 (wrap64 (x608002 - (wrap64 (x8 + 4))))).bind fun t611 => ((q_min.f (x2.size : Int) (wrap64 ((wrap64 (x608002 + x608003)) + (wrap64 (x8 + 4))))).bind fun t612 => (if 0 ≤ t611 then (if t611 ≤ t612 then (if t612 ≤ (x2.size : Int) then (p_PatchAddContext.l0 k x2 (x2.extract (t611 : Int).toNat (t612 : Int).toNat) (wrap64 (x8 + 4)) x608000 x608001 x608002 x608003 x608004) else (none)) else (none)) else (none)))) else ((q_max.f 0 (wrap64 (x608002 - (wrap64 (x8 + 4))))).bind fun t613 => (if 0 ≤ t613 then (if t613 ≤ x608002 then (if x608002 ≤ (x2.size : Int) then (if ((x2.extract (t613 : Int).toNat (x608002 : Int).toNat).size : Int) = 0 then (none) else ((some (([(⟨0, x2.extract (t613 : Int).toNat (x608002 : Int).toNat⟩ : S93)] : List (S93)) : List (S93))).bind fun y614 => (if y614.length + x608000.length < 5864062014805 then ((some (y614 ++ x608000 : List (S93))).bind fun y617 => ((q_min.f (x2.size : Int) (wrap64 ((wrap64 (x608002 + x608003)) + (wrap64 (x8 + 4))))).bind fun t620 => (if 0 ≤ (wrap64 (x608002 + x608003)) then (if (wrap64 (x608002 + x608003)) ≤ t620 then (if t620 ≤ (x2.size : Int) then (if ((x2.extract ((wrap64 (x608002 + x608003)) : Int).toNat (t620 : Int).toNat).size : Int) = 0 then (none) else (if y617.length < 5864062014805 then (some ((y617 ++ [(⟨0, x2.extract ((wrap64 (x608002 + x608003)) : Int).toNat (t620 : Int).toNat⟩ : S93)]), wrap64 (x608001 - ((x2.extract (t613 : Int).toNat (x608002 : Int).toNat).size : Int)), wrap64 (x608002 - ((x2.extract (t613 : Int).toNat (x608002 : Int).toNat).size : Int)), wrap64 (x608003 + (wrap64 (((x2.extract (t613 : Int).toNat (x608002 : Int).toNat).size : Int) + ((x2.extract ((wrap64 (x608002 + x608003)) : Int).toNat (t620 : Int).toNat).size : Int)))), wrap64 (x608004 + (wrap64 (((x2.extract (t613 : Int).toNat (x608002 : Int).toNat).size : Int) + ((x2.extract ((wrap64 (x608002 + x608003)) : Int).toNat (t620 : Int).toNat).size : Int)))))) else (none))) else (none)) else (none)) else (none)))) else (none)))) else (none)) else (none)) else (none)))
end
def p_PatchAddContext.f (k : Nat) (a0 : Nat) (l1_0 : List (S93)) (a1_1 : Int) (a1_2 : Int) (a1_3 : Int) (a1_4 : Int) (a2 : ByteArray) : Option ((List (S93)) × Int × Int × Int × Int) := if (a2.size : Int) = 0 then (none) else (if 0 ≤ a1_2 then (if a1_2 ≤ (wrap64 (a1_2 + a1_3)) then (if (wrap64 (a1_2 + a1_3)) ≤ (a2.size : Int) then (p_PatchAddContext.l0 k a2 (a2.extract (a1_2 : Int).toNat ((wrap64 (a1_2 + a1_3)) : Int).toNat) 0 l1_0 a1_1 a1_2 a1_3 a1_4) else (none)) else (none)) else (none))
theorem p_PatchAddContext.calls (k : Nat) (a0 : Nat) (A1_0 : Option Addr) (c1_0 : Nat) (l1_0 : List (S93)) (a1_1 : Int) (a1_2 : Int) (a1_3 : Int) (a1_4 : Int) (a2 : ByteArray) (r1 : List (S93)) (r2 : Int) (r3 : Int) (r4 : Int) (r5 : Int) (w : World) (hd0 : DmpAt w a0) (hr1_0 : Kd.C k93 w A1_0 l1_0.length l1_0) (hc1_0 : l1_0.length ≤ c1_0) (h : p_PatchAddContext.f k a0 l1_0 a1_1 a1_2 a1_3 a1_4 a2 = some (r1, r2, r3, r4, r5)) :
  Calls Tryz.prog 95 #[.pointer (some ⟨a0, 0, none⟩), .agg #[.slice A1_0 l1_0.length c1_0, .int .i64 a1_1, .int .i64 a1_2, .int .i64 a1_3, .int .i64 a1_4], .string a2] w fun e w' => ∃ v0_ : Value, e = .returned (.agg #[v0_, .int .i64 r2, .int .i64 r3, .int .i64 r4, .int .i64 r5]) ∧ Kd.R k93 93 w' w.heap.size (fun _ => True) v0_ r1 ∧ Below w.heap.size w w' := by
 have hu67 := Tryz.underlying67
 have hu93 := Tryz.underlying93
 have HD0 := Aside0.mk hd0
 clear hd0
 have HR1_0 := Aside0.mk hr1_0
 have HC1_0 := Aside0.mk hc1_0
 clear hr1_0 hc1_0
 have HB := aS_ (Below.refl w.heap.size w)
 have H : (if (a2.size : Int) = 0 then (none) else (if 0 ≤ a1_2 then (if a1_2 ≤ (wrap64 (a1_2 + a1_3)) then (if (wrap64 (a1_2 + a1_3)) ≤ (a2.size : Int) then (p_PatchAddContext.l0 k a2 (a2.extract (a1_2 : Int).toNat ((wrap64 (a1_2 + a1_3)) : Int).toNat) 0 l1_0 a1_1 a1_2 a1_3 a1_4) else (none)) else (none)) else (none))) = some (r1, r2, r3, r4, r5) := h
 clear h
 by_cases c4 : (a2.size : Int) = 0
 ·rw [if_pos c4] at H
  exact absurd H (by simp)
 ·rw [if_neg c4] at H
  have c4b0 := beq_eq_false_iff_ne.mpr c4
  have c4b1 := bne_iff_ne.mpr c4
  replace H := yes_ H; obtain ⟨c5, H⟩ := H
  have c5b0 := eq_true c5
  have c5b1 := decide_eq_true c5
  clear c5
  replace H := yes_ H; obtain ⟨c6, H⟩ := H
  have c6b0 := eq_true c6
  have c6b1 := decide_eq_true c6
  replace H := yes_ H; obtain ⟨c7, H⟩ := H
  have c7b0 := eq_true c7
  have c7b1 := decide_eq_true c7
  have H' := Aside0.mk H
  clear H
  go_enter Tryz.func95, Tryz.ntmps95
  go_wp2_with (first | ((with_reducible refine gate_dst (N := 4) rfl ?_); (try (refine gate_guard (by rfl) ?_; dsimp only)); refine box_event ?hg (N := 4) ?hd (cs := #[.slice A1_0 l1_0.length c1_0, .int .i64 a1_1, .int .i64 a1_2, .int .i64 a1_3, .int .i64 a1_4]) (t := 67) ?hr ?_; (case hd => rfl); (case hg => rfl); (case hr => (go_simp; done)); intro gb607 hg w8 hbox hb; have BK607 := aS_ (hbox); have GW607 := aS_ ((by rw [hg]; exact (bz_ (bel_ HB.out)) : w.heap.size ≤ gb607)); have GE607 := aS_ ((by rw [hg]; exact (bz_ (bel_ HB.out)) : w.heap.size ≤ gb607)); replace HB := aS_ (bt_ (bel_ HB.out) hb); clear hb hbox hg) | ((with_reducible refine gate_dst (N := 6) rfl ?_); (try (refine gate_guard (by rfl) ?_; dsimp only)); refine box_event ?hg (N := 6) ?hd (cs := #[.slice none 0 0, .int .i64 0, .int .i64 0, .int .i64 0, .int .i64 0]) (t := 67) ?hr ?_; (case hd => rfl); (case hg => rfl); (case hr => (go_simp; done)); intro gb608 hg w9 hbox hb; have BK608 := aS_ (hbox); have GW608 := aS_ ((by rw [hg]; exact (bz_ (by with_reducible repeat exact HB.out)) : w.heap.size ≤ gb608)); have GE608 := aS_ ((by rw [hg]; exact (bz_ (by with_reducible repeat exact HB.out)) : w.heap.size ≤ gb608)); replace HB := aS_ (bt_ (by with_reducible repeat exact HB.out) hb); have NB607_608 := aS_ ((by rw [hg]; exact Nat.ne_of_lt (blk_lt (g := gb607) (o := .cells #[.slice A1_0 l1_0.length c1_0, .int .i64 a1_1, .int .i64 a1_2, .int .i64 a1_3, .int .i64 a1_4] 67 (0, 0)) (blk_st BK607.out)) : gb607 ≠ gb608)); have NB608_607 := aS_ ((by rw [hg]; exact Nat.ne_of_gt (blk_lt (g := gb607) (o := .cells #[.slice A1_0 l1_0.length c1_0, .int .i64 a1_1, .int .i64 a1_2, .int .i64 a1_3, .int .i64 a1_4] 67 (0, 0)) (blk_st BK607.out)) : gb608 ≠ gb607)); replace BK607 := aS_ (blk_below (g := gb607) (o := .cells #[.slice A1_0 l1_0.length c1_0, .int .i64 a1_1, .int .i64 a1_2, .int .i64 a1_3, .int .i64 a1_4] 67 (0, 0)) (blk_st BK607.out) hb); clear hb hbox hg; have hnb10 := NB607_608.out; have hnc10 := NB608_607.out; obtain ⟨hcz11_0, hcz11_1, hcz11_2, hcz11_3, hcz11_4, hfz11_0, hfz11_1, hfz11_2, hfz11_3, hfz11_4⟩ := blk5 BK607.out))
  go_loopg [7, 8] k (fun kq v7 v8 w' => ∃ (x7_1 : ByteArray) (x8_1 : Int), v7 = .string x7_1 ∧ v8 = .int .i64 x8_1 ∧ Aside0 (p_PatchAddContext.l0 kq a2 x7_1 x8_1 l1_0 a1_1 a1_2 a1_3 a1_4 = some (r1, r2, r3, r4, r5)) ∧ Aside0 (kq ≤ k) ∧ Aside0 (w'.heap[gb607]? = some (.cells #[(.slice A1_0 l1_0.length c1_0), .int .i64 a1_1, .int .i64 a1_2, .int .i64 a1_3, .int .i64 a1_4] 67 (0, 0))) ∧ Aside0 (w'.heap[gb608]? = some (.cells #[(.slice none 0 0), .int .i64 0, .int .i64 0, .int .i64 0, .int .i64 0] 67 (0, 0))) ∧ Aside0 (Below w.heap.size w w'))
  case atStart => exact ⟨(a2.extract (a1_2 : Int).toNat ((wrap64 (a1_2 + a1_3)) : Int).toNat), (0), (by rfl), (by rfl), H', ⟨Nat.le_refl _⟩, ⟨blk_st BK607.out⟩, ⟨blk_st BK608.out⟩, ⟨by with_reducible repeat exact HB.out⟩⟩
  case round =>
   clear H'
   obtain ⟨x7_1, x8_1, rfl, rfl, HA, HK1, BK607, BK608, HB⟩ := hrel
   cases gk with
   | zero => exact absurd HA.out (by simp [p_PatchAddContext.l0])
   | succ k1 =>
    have H := HA.out; clear HA
    simp only [p_PatchAddContext.l0] at H
    have HC12 := Aside0.mk H
    clear H
    go_upto_region 5 with (fail)
    go_cut [47] (fun v47 wc => ∃ (kq : Nat) (x47_11 : Bool), v47 = .bool x47_11 ∧ Aside0 (p_PatchAddContext.j1 kq a2 x8_1 x47_11 l1_0 a1_1 a1_2 a1_3 a1_4 = some (r1, r2, r3, r4, r5)) ∧ Aside0 (kq ≤ k1) ∧ Aside0 (wc.heap[gb607]? = some (.cells #[(.slice A1_0 l1_0.length c1_0), .int .i64 a1_1, .int .i64 a1_2, .int .i64 a1_3, .int .i64 a1_4] 67 (0, 0))) ∧ Aside0 (wc.heap[gb608]? = some (.cells #[(.slice none 0 0), .int .i64 0, .int .i64 0, .int .i64 0, .int .i64 0] 67 (0, 0))) ∧ Aside0 (Below w.heap.size w wc))
    case first =>
     have H := HC12.out
     clear HC12
     replace H := Option.bind_eq_some_iff.mp H
     obtain ⟨t609, A130, H⟩ := H
     have A13 := Aside0.mk A130
     clear A130
     replace H := Option.bind_eq_some_iff.mp H
     obtain ⟨t610, A140, H⟩ := H
     have A14 := Aside0.mk A140
     clear A140
     by_cases c15 : t609 = t610
     ·rw [if_pos c15] at H
      have c15b0 := beq_iff_eq.mpr c15
      have c15b1 := bne_eq_false_iff_eq.mpr c15
      clear c15
      have H' := Aside0.mk H
      clear H
      go_wp2_with (fail)
      repeat (go_quiet (first | (go_at_call 68; (with_reducible refine (q_zzIndex.calls k1 a2 x7_1 t609 _ A13.out).mono ?_); rintro e w' ⟨rfl, ⟨nd, rfl⟩⟩; (try exact ⟨rfl, _, World.drewN_drewN _ _ _⟩)) | (go_at_call 127; (with_reducible refine (q_zzLastIndex.calls k1 a2 x7_1 t610 _ A14.out).mono ?_); rintro e w' ⟨rfl, ⟨nd, rfl⟩⟩; (try exact ⟨rfl, _, World.drewN_drewN _ _ _⟩))); try go_wp2_with (fail))
      go_meet
      case rel => exact ⟨_, (false), (by rfl), H', ⟨by have := HK1.out; omega⟩, ⟨blk_st BK607.out⟩, ⟨blk_st BK608.out⟩, ⟨by with_reducible repeat first | exact HB.out | apply bN_⟩⟩
     ·rw [if_neg c15] at H
      have c15b0 := beq_eq_false_iff_ne.mpr c15
      have c15b1 := bne_iff_ne.mpr c15
      have H' := Aside0.mk H
      clear H
      go_wp2_with (fail)
      repeat (go_quiet (first | (go_at_call 68; (with_reducible refine (q_zzIndex.calls k1 a2 x7_1 t609 _ A13.out).mono ?_); rintro e w' ⟨rfl, ⟨nd, rfl⟩⟩; (try exact ⟨rfl, _, World.drewN_drewN _ _ _⟩)) | (go_at_call 127; (with_reducible refine (q_zzLastIndex.calls k1 a2 x7_1 t610 _ A14.out).mono ?_); rintro e w' ⟨rfl, ⟨nd, rfl⟩⟩; (try exact ⟨rfl, _, World.drewN_drewN _ _ _⟩); have hdm16 := dmp_cell5 (dmp_below HD0.out HB.out); have hdm17 := dmp_cell4 (dmp_below HD0.out HB.out))); try go_wp2_with (fail))
      go_meet
      case rel => exact ⟨_, (decide ((x7_1.size : Int) < (32 - (2 * 4)))), (by rfl), H', ⟨by have := HK1.out; omega⟩, ⟨blk_st BK607.out⟩, ⟨blk_st BK608.out⟩, ⟨by with_reducible repeat first | exact HB.out | apply bN_⟩⟩
    case rest =>
     clear HC12
     obtain ⟨kq, x47_11, rfl, HA, HJ11, BK607, BK608, HB⟩ := hcut
     cases kq with
     | zero => exact absurd HA.out (by simp [p_PatchAddContext.j1])
     | succ kj11 =>
      have H := HA.out; clear HA
      simp only [p_PatchAddContext.j1] at H
      by_cases c18 : x47_11 = true
      ·subst c18
       rw [if_pos rfl] at H
       replace H := Option.bind_eq_some_iff.mp H
       obtain ⟨t611, A190, H⟩ := H
       have A19 := Aside0.mk A190
       clear A190
       replace H := Option.bind_eq_some_iff.mp H
       obtain ⟨t612, A200, H⟩ := H
       have A20 := Aside0.mk A200
       clear A200
       replace H := yes_ H; obtain ⟨c21, H⟩ := H
       have c21b0 := eq_true c21
       have c21b1 := decide_eq_true c21
       clear c21
       replace H := yes_ H; obtain ⟨c22, H⟩ := H
       have c22b0 := eq_true c22
       have c22b1 := decide_eq_true c22
       clear c22
       replace H := yes_ H; obtain ⟨c23, H⟩ := H
       have c23b0 := eq_true c23
       have c23b1 := decide_eq_true c23
       clear c23
       have H' := Aside0.mk H
       clear H
       have hdm24 := dmp_cell4 (dmp_below HD0.out HB.out)
       have hnb25 := NB607_608.out
       have hnc25 := NB608_607.out
       obtain ⟨hcz26_0, hcz26_1, hcz26_2, hcz26_3, hcz26_4, hfz26_0, hfz26_1, hfz26_2, hfz26_3, hfz26_4⟩ := blk5 BK607.out
       go_wp2_with (first | (go_at_call 82; (with_reducible refine (q_max.calls 0 (wrap64 (a1_2 - (wrap64 (x8_1 + 4)))) t611 _ A19.out).mono ?_); rintro e w' ⟨rfl, ⟨nd, rfl⟩⟩) | (go_at_call 81; (with_reducible refine (q_min.calls (a2.size : Int) (wrap64 ((wrap64 (a1_2 + a1_3)) + (wrap64 (x8_1 + 4)))) t612 _ A20.out).mono ?_); rintro e w' ⟨rfl, ⟨nd, rfl⟩⟩))
       go_roundg kj11
       case measure => have := HK1.out; have := HJ11.out; omega
       case rel => exact ⟨(a2.extract (t611 : Int).toNat (t612 : Int).toNat), (wrap64 (x8_1 + 4)), (by rfl), (by rfl), H', ⟨by have := HK1.out; have := HJ11.out; omega⟩, ⟨blk_st BK607.out⟩, ⟨blk_st BK608.out⟩, ⟨by with_reducible repeat first | exact HB.out | apply bN_⟩⟩
      ·replace c18 := Bool.eq_false_iff.mpr c18
       subst c18
       rw [if_neg (show ¬ (false = true) by decide)] at H
       replace H := Option.bind_eq_some_iff.mp H
       obtain ⟨t613, A270, H⟩ := H
       have A27 := Aside0.mk A270
       clear A270
       replace H := yes_ H; obtain ⟨c28, H⟩ := H
       have c28b0 := eq_true c28
       have c28b1 := decide_eq_true c28
       clear c28
       replace H := yes_ H; obtain ⟨c29, H⟩ := H
       have c29b0 := eq_true c29
       have c29b1 := decide_eq_true c29
       clear c29
       replace H := yes_ H; obtain ⟨c30, H⟩ := H
       have c30b0 := eq_true c30
       have c30b1 := decide_eq_true c30
       clear c30
       by_cases c31 : ((a2.extract (t613 : Int).toNat (a1_2 : Int).toNat).size : Int) = 0
       ·rw [if_pos c31] at H
        exact absurd H (by simp)
       ·rw [if_neg c31] at H
        have c31b0 := beq_eq_false_iff_ne.mpr c31
        have c31b1 := bne_iff_ne.mpr c31
        have hszc31 : (a2.extract (t613 : Int).toNat (a1_2 : Int).toNat).size = (a1_2 : Int).toNat - (t613 : Int).toNat := by (have h1_ : (a1_2 : Int) ≤ (a2.size : Int) := (of_decide_eq_true (by assumption)); rw [ByteArray.size_extract]; omega)
        have c31s : ((((a1_2 : Int).toNat - (t613 : Int).toNat : Nat) : Int) != 0) = true := by rw [← hszc31]; exact c31b1
        have c31t : ((((a1_2 : Int).toNat - (t613 : Int).toNat : Nat) : Int) == 0) = false := by rw [← hszc31]; exact c31b0
        obtain ⟨y614, hy614, H⟩ := bindc_ H
        have Ny614 := Aside0.mk hy614
        clear hy614
        replace H := yes_ H; obtain ⟨c32, H⟩ := H
        have LMc32 := Aside0.mk c32
        clear c32
        obtain ⟨y617, hy617, H⟩ := bindc_ H
        have Ny617 := Aside0.mk hy617
        clear hy617
        replace H := Option.bind_eq_some_iff.mp H
        obtain ⟨t620, A330, H⟩ := H
        have A33 := Aside0.mk A330
        clear A330
        obtain ⟨ji34, hji34⟩ : ∃ j_ : Int, (wrap64 (a1_2 + a1_3)) = j_ := ⟨_, rfl⟩
        rw [hji34] at H
        (try rw [hji34] at c6b0)
        (try rw [hji34] at c6b1)
        (try rw [hji34] at c6)
        (try rw [hji34] at c7b0)
        (try rw [hji34] at c7b1)
        (try rw [hji34] at c7)
        (try rw [hji34] at A33)
        have hji34w : (IntKind.i64.wrap (a1_2 + a1_3)) = ji34 := (i64_w _).trans hji34
        replace H := yes_ H; obtain ⟨c35, H⟩ := H
        have c35b0 := eq_true c35
        have c35b1 := decide_eq_true c35
        clear c35
        replace H := yes_ H; obtain ⟨c36, H⟩ := H
        have c36b0 := eq_true c36
        have c36b1 := decide_eq_true c36
        clear c36
        replace H := yes_ H; obtain ⟨c37, H⟩ := H
        have c37b0 := eq_true c37
        have c37b1 := decide_eq_true c37
        clear c37
        by_cases c38 : ((a2.extract ((ji34) : Int).toNat (t620 : Int).toNat).size : Int) = 0
        ·rw [if_pos c38] at H
         exact absurd H (by simp)
        ·rw [if_neg c38] at H
         have c38b0 := beq_eq_false_iff_ne.mpr c38
         have c38b1 := bne_iff_ne.mpr c38
         have hszc38 : (a2.extract ((ji34) : Int).toNat (t620 : Int).toNat).size = (t620 : Int).toNat - ((ji34) : Int).toNat := by (have h1_ : (t620 : Int) ≤ (a2.size : Int) := (of_decide_eq_true (by assumption)); rw [ByteArray.size_extract]; omega)
         have c38s : ((((t620 : Int).toNat - ((ji34) : Int).toNat : Nat) : Int) != 0) = true := by rw [← hszc38]; exact c38b1
         have c38t : ((((t620 : Int).toNat - ((ji34) : Int).toNat : Nat) : Int) == 0) = false := by rw [← hszc38]; exact c38b0
         replace H := yes_ H; obtain ⟨c39, H⟩ := H
         have LMc39 := Aside0.mk c39
         clear c39
         obtain ⟨y621, hy621⟩ : ∃ y_ : List (S93), y_ = (y617 ++ [(⟨0, a2.extract ((ji34) : Int).toNat (t620 : Int).toNat⟩ : S93)]) := ⟨_, rfl⟩
         replace H : (some (y621, wrap64 (a1_1 - ((a2.extract (t613 : Int).toNat (a1_2 : Int).toNat).size : Int)), wrap64 (a1_2 - ((a2.extract (t613 : Int).toNat (a1_2 : Int).toNat).size : Int)), wrap64 (a1_3 + (wrap64 (((a2.extract (t613 : Int).toNat (a1_2 : Int).toNat).size : Int) + ((a2.extract ((ji34) : Int).toNat (t620 : Int).toNat).size : Int)))), wrap64 (a1_4 + (wrap64 (((a2.extract (t613 : Int).toNat (a1_2 : Int).toNat).size : Int) + ((a2.extract ((ji34) : Int).toNat (t620 : Int).toNat).size : Int)))))) = some (r1, r2, r3, r4, r5) := by (rw [hy621]; with_reducible exact H)
         have Ny621 := Aside0.mk hy621
         clear hy621
         simp only [Option.some.injEq, Prod.mk.injEq] at H
         obtain ⟨rfl, rfl, rfl, rfl, rfl⟩ := H
         have hdm40 := dmp_cell4 (dmp_below HD0.out HB.out)
         have hnb41 := NB607_608.out
         have hnc41 := NB608_607.out
         obtain ⟨hcz42_0, hcz42_1, hcz42_2, hcz42_3, hcz42_4, hfz42_0, hfz42_1, hfz42_2, hfz42_3, hfz42_4⟩ := blk5 BK607.out
         go_wp2_with (fail)
         repeat (go_quiet (first | (go_at_call 82; (with_reducible refine (q_max.calls 0 (wrap64 (a1_2 - (wrap64 (x8_1 + 4)))) t613 _ A27.out).mono ?_); rintro e w' ⟨rfl, ⟨nd, rfl⟩⟩; (try exact ⟨rfl, _, World.drewN_drewN _ _ _⟩)) | (go_at_call 81; (with_reducible refine (q_min.calls (a2.size : Int) (wrap64 ((ji34) + (wrap64 (x8_1 + 4)))) t620 _ A33.out).mono ?_); rintro e w' ⟨rfl, ⟨nd, rfl⟩⟩; (try exact ⟨rfl, _, World.drewN_drewN _ _ _⟩))); try go_wp2_with (first | ((with_reducible refine gate_dst (N := 93) rfl ?_); (try (refine gate_guard (by rfl) ?_; dsimp only)); refine Kd.R_lit k93 _ 93 ?hg (N := 93) ?hd (xs := ([(⟨0, a2.extract (t613 : Int).toNat (a1_2 : Int).toNat⟩ : S93)] : List (S93))) (inner := [.int .i8 0, .string (a2.extract (t613 : Int).toNat (a1_2 : Int).toNat)]) (ok := fun _ => True) (okp := fun _ => True) ?hr ?hp (fun _ hk => hk) trivial (Below.refl _ _) (Nat.le_refl _) (by simp) ?_; (case hd => rfl); (case hg => rfl); (case hr => (go_simp; done)); (case hp => exact (Reps.c2 (show Kd.M k93 _ _ _ (⟨0, a2.extract (t613 : Int).toNat (a1_2 : Int).toNat⟩ : S93) [.int .i8 0, .string (a2.extract (t613 : Int).toNat (a1_2 : Int).toNat)] from (k93_mkM _ _ _ (⟨0, a2.extract (t613 : Int).toNat (a1_2 : Int).toNat⟩ : S93) )) (Reps.none _ _))); intro v615 w43 ho44 hb hg_ hnew_; clear hg_ hnew_; (rw [← Ny614.out] at ho44); have n0_ := aS_ (Kd.R_lower ho44 (bz_ (by with_reducible repeat first | exact HB.out | apply bN_))); have n1_ := aS_ (blk_below (g := gb607) (o := .cells #[.slice A1_0 l1_0.length c1_0, .int .i64 a1_1, .int .i64 a1_2, .int .i64 a1_3, .int .i64 a1_4] 67 (0, 0)) (blk_st BK607.out) hb); have n2_ := aS_ (blk_below (g := gb608) (o := .cells #[.slice none 0 0, .int .i64 0, .int .i64 0, .int .i64 0, .int .i64 0] 67 (0, 0)) (blk_st BK608.out) hb); have n3_ := aS_ (bt_ (by with_reducible repeat first | exact HB.out | apply bN_) hb); clear BK607; clear BK608; clear HB; have HO616 := n0_; have BK607 := n1_; have BK608 := n2_; have HB := n3_; clear n0_ n1_ n2_ n3_; clear hb ho44; obtain ⟨hcz45_0, hcz45_1, hcz45_2, hcz45_3, hcz45_4, hfz45_0, hfz45_1, hfz45_2, hfz45_3, hfz45_4⟩ := blk5 BK607.out) | ((with_reducible refine gate_builtin (b := .append) (xs := #[.tmp 93, .tmp 95]) rfl ?_); (try (refine gate_guard (by rfl) ?_; dsimp only)); at_builtin; refine Kd.R_append_rows k93 (w0 := w) w.heap.size rfl (.tmp 93) (.tmp 95) 65 93 (.agg #[(.int .i8 0), (.string ⟨#[]⟩)]) 24 rfl Tryz.underlying65 info93 rfl (by decide) (by omega) v615 y614 l1_0 _ _ _ (fun _ => True) (fun _ => False) rfl rfl ?aO ?aR (fun _ _ h => h) (fun _ h => h.elim) ?aF ?aB ?aS ?aL ?_; (case aR => repeat (exact (Kd.C_below HR1_0.out HB.out))); (case aB => exact (by with_reducible repeat exact HB.out)); (case aF => exact (fun _ _ => trivial)); (case aO => exact (Kd.R_st HO616.out)); (case aS => exact (bz_ (by with_reducible repeat exact HB.out))); (case aL => have := LMc32.out; omega); intro v618 w46 ho hb hg hat; rw [← Ny617.out] at ho; have n0_ := aS_ (blk_grown (g := gb607) (o := .cells #[.slice A1_0 l1_0.length c1_0, .int .i64 a1_1, .int .i64 a1_2, .int .i64 a1_3, .int .i64 a1_4] 67 (0, 0)) (blk_st BK607.out) hg (Kd.R_ne HO616.out BK607.out (by decide))); have n1_ := aS_ (blk_grown (g := gb608) (o := .cells #[.slice none 0 0, .int .i64 0, .int .i64 0, .int .i64 0, .int .i64 0] 67 (0, 0)) (blk_st BK608.out) hg (Kd.R_ne HO616.out BK608.out (by decide))); have n2_ := aS_ (hb); have n3_ := aS_ (ho); clear BK607; clear BK608; clear HB; clear HO616; have BK607 := n0_; have BK608 := n1_; have HB := n2_; have HO619 := n3_; clear n0_ n1_ n2_ n3_; clear ho hb hg hat; obtain ⟨Ao47, co47, eo47⟩ := Kd.R_slice HO619.out; subst eo47; obtain ⟨hcz48_0, hcz48_1, hcz48_2, hcz48_3, hcz48_4, hfz48_0, hfz48_1, hfz48_2, hfz48_3, hfz48_4⟩ := blk5 BK607.out) | ((with_reducible refine gate_builtin (b := .append) (xs := #[.tmp 119, .tmp 122]) rfl ?_); (try (refine gate_guard (by rfl) ?_; dsimp only)); at_builtin; refine Kd.R_append k93 (w0 := w) w.heap.size rfl (.tmp 119) (.tmp 122) 65 93 (.agg #[(.int .i8 0), (.string ⟨#[]⟩)]) 24 rfl Tryz.underlying65 info93 rfl (by decide) (by omega) (.slice Ao47 y617.length co47) y617 (⟨0, a2.extract ((ji34) : Int).toNat (t620 : Int).toNat⟩ : S93) [.int .i8 0, .string (a2.extract ((ji34) : Int).toNat (t620 : Int).toNat)] (fun _ => True) (fun _ => False) rfl (by (go_simp; done)) ?aP (fun _ hk => hk.elim) ?aF ?aO ?aB ?aS ?aL ?_; (case aP => exact k93_mkM _ _ _ (⟨0, a2.extract ((ji34) : Int).toNat (t620 : Int).toNat⟩ : S93)); (case aB => exact (by with_reducible repeat first | exact HB.out | apply bN_ | refine bS_ ?_ GE607.out)); (case aF => exact (fun _ _ => trivial)); (case aO => exact (Kd.R_st (Kd.R_mono (Kd.R_far (p := ⟨gb607, 0, none⟩) (Kd.R_types HO619.out BK607.out (by decide)) (fun _ hk => hk.2) (.slice Ao47 y617.length co47)) (fun _ hk => trivial)))); (case aS => exact (bz_ (by with_reducible repeat first | exact HB.out | apply bN_ | refine bS_ ?_ GE607.out))); (case aL => have := LMc39.out; omega); intro v622 w49 ho hb hg hat; rw [← Ny621.out] at ho; have n0_ := aS_ (blk_grown (g := gb607) (o := .cells #[.slice Ao47 y617.length co47, .int .i64 a1_1, .int .i64 a1_2, .int .i64 a1_3, .int .i64 a1_4] 67 (0, 0)) (by (with_reducible repeat (refine kN_ ?_ _)); refine blk_put (cs := #[.slice A1_0 l1_0.length c1_0, .int .i64 a1_1, .int .i64 a1_2, .int .i64 a1_3, .int .i64 a1_4]) ?_ 0 _ rfl; (with_reducible skip); exact BK607.out) hg (Kd.R_ne HO619.out BK607.out (by decide))); have n1_ := aS_ (blk_grown (g := gb608) (o := .cells #[.slice none 0 0, .int .i64 0, .int .i64 0, .int .i64 0, .int .i64 0] 67 (0, 0)) (by (with_reducible repeat (refine kN_ ?_ _)); refine blk_far ?_ NB608_607.out _; (with_reducible skip); exact BK608.out) hg (Kd.R_ne HO619.out BK608.out (by decide))); have n2_ := aS_ (hb); have n3_ := aS_ (ho); clear BK607; clear BK608; clear HB; clear HO619; have BK607 := n0_; have BK608 := n1_; have HB := n2_; have HO623 := n3_; clear n0_ n1_ n2_ n3_; clear ho hb hg hat; obtain ⟨Ao50, co50, eo50⟩ := Kd.R_slice HO623.out; subst eo50; obtain ⟨hcz51_0, hcz51_1, hcz51_2, hcz51_3, hcz51_4, hfz51_0, hfz51_1, hfz51_2, hfz51_3, hfz51_4⟩ := blk5 BK607.out; obtain ⟨hcz52_0, hcz52_1, hcz52_2, hcz52_3, hcz52_4, hfz52_0, hfz52_1, hfz52_2, hfz52_3, hfz52_4⟩ := blk5 BK608.out)))
         refine bodyPost_ret (results_cell_row rfl _ _ gb608 67 #[.slice Ao50 y621.length co50, .int .i64 (wrap64 (a1_1 - (((a1_2 : Int).toNat - (t613 : Int).toNat : Nat) : Int))), .int .i64 (wrap64 (a1_2 - (((a1_2 : Int).toNat - (t613 : Int).toNat : Nat) : Int))), .int .i64 (wrap64 (a1_3 + (wrap64 ((((a1_2 : Int).toNat - (t613 : Int).toNat : Nat) : Int) + (((t620 : Int).toNat - ((ji34) : Int).toNat : Nat) : Int))))), .int .i64 (wrap64 (a1_4 + (wrap64 ((((a1_2 : Int).toNat - (t613 : Int).toNat : Nat) : Int) + (((t620 : Int).toNat - ((ji34) : Int).toNat : Nat) : Int)))))] (0, 0) _ rfl (by (with_reducible skip); refine blk_put (cs := #[.slice Ao50 y621.length co50, .int .i64 (wrap64 (a1_1 - (((a1_2 : Int).toNat - (t613 : Int).toNat : Nat) : Int))), .int .i64 (wrap64 (a1_2 - (((a1_2 : Int).toNat - (t613 : Int).toNat : Nat) : Int))), .int .i64 (wrap64 (a1_3 + (wrap64 ((((a1_2 : Int).toNat - (t613 : Int).toNat : Nat) : Int) + (((t620 : Int).toNat - ((ji34) : Int).toNat : Nat) : Int))))), .int .i64 0]) ?_ 4 _ rfl; (with_reducible skip); refine blk_put (cs := #[.slice Ao50 y621.length co50, .int .i64 (wrap64 (a1_1 - (((a1_2 : Int).toNat - (t613 : Int).toNat : Nat) : Int))), .int .i64 (wrap64 (a1_2 - (((a1_2 : Int).toNat - (t613 : Int).toNat : Nat) : Int))), .int .i64 0, .int .i64 0]) ?_ 3 _ rfl; (with_reducible skip); refine blk_put (cs := #[.slice Ao50 y621.length co50, .int .i64 (wrap64 (a1_1 - (((a1_2 : Int).toNat - (t613 : Int).toNat : Nat) : Int))), .int .i64 0, .int .i64 0, .int .i64 0]) ?_ 2 _ rfl; (with_reducible skip); refine blk_put (cs := #[.slice Ao50 y621.length co50, .int .i64 0, .int .i64 0, .int .i64 0, .int .i64 0]) ?_ 1 _ rfl; (with_reducible skip); refine blk_put (cs := #[.slice none 0 0, .int .i64 0, .int .i64 0, .int .i64 0, .int .i64 0]) ?_ 0 _ rfl; (with_reducible skip); refine blk_far ?_ NB608_607.out _; (with_reducible skip); refine blk_far ?_ NB608_607.out _; (with_reducible skip); refine blk_far ?_ NB608_607.out _; (with_reducible skip); refine blk_far ?_ NB608_607.out _; (with_reducible skip); refine blk_far ?_ NB608_607.out _; (with_reducible skip); exact BK608.out) Tryz.underlying67 rfl (by kernel_rfl)) rfl ?_
         simp only [hszc31, hszc38]
         exact ⟨_, by rfl, Kd.R_st (Kd.R_mono (Kd.R_far (p := ⟨gb608, 4, none⟩) (Kd.R_far (p := ⟨gb608, 3, none⟩) (Kd.R_far (p := ⟨gb608, 2, none⟩) (Kd.R_far (p := ⟨gb608, 1, none⟩) (Kd.R_far (p := ⟨gb608, 0, none⟩) (Kd.R_far (p := ⟨gb607, 4, none⟩) (Kd.R_far (p := ⟨gb607, 3, none⟩) (Kd.R_far (p := ⟨gb607, 2, none⟩) (Kd.R_far (p := ⟨gb607, 1, none⟩) (Kd.R_far (p := ⟨gb607, 0, none⟩) (Kd.R_types (Kd.R_types HO623.out BK607.out (by decide)) BK608.out (by decide)) (fun _ hk => hk.1.2) (.slice Ao50 y621.length co50)) (fun _ hk => hk.1.2) (.int .i64 (wrap64 (a1_1 - (((a1_2 : Int).toNat - (t613 : Int).toNat : Nat) : Int))))) (fun _ hk => hk.1.2) (.int .i64 (wrap64 (a1_2 - (((a1_2 : Int).toNat - (t613 : Int).toNat : Nat) : Int))))) (fun _ hk => hk.1.2) (.int .i64 (wrap64 (a1_3 + (wrap64 ((((a1_2 : Int).toNat - (t613 : Int).toNat : Nat) : Int) + (((t620 : Int).toNat - ((ji34) : Int).toNat : Nat) : Int))))))) (fun _ hk => hk.1.2) (.int .i64 (wrap64 (a1_4 + (wrap64 ((((a1_2 : Int).toNat - (t613 : Int).toNat : Nat) : Int) + (((t620 : Int).toNat - ((ji34) : Int).toNat : Nat) : Int))))))) (fun _ hk => hk.2) (.slice Ao50 y621.length co50)) (fun _ hk => hk.2) (.int .i64 (wrap64 (a1_1 - (((a1_2 : Int).toNat - (t613 : Int).toNat : Nat) : Int))))) (fun _ hk => hk.2) (.int .i64 (wrap64 (a1_2 - (((a1_2 : Int).toNat - (t613 : Int).toNat : Nat) : Int))))) (fun _ hk => hk.2) (.int .i64 (wrap64 (a1_3 + (wrap64 ((((a1_2 : Int).toNat - (t613 : Int).toNat : Nat) : Int) + (((t620 : Int).toNat - ((ji34) : Int).toNat : Nat) : Int))))))) (fun _ hk => hk.2) (.int .i64 (wrap64 (a1_4 + (wrap64 ((((a1_2 : Int).toNat - (t613 : Int).toNat : Nat) : Int) + (((t620 : Int).toNat - ((ji34) : Int).toNat : Nat) : Int))))))) (fun _ hk => trivial)), by with_reducible repeat first | exact HB.out | refine bS_ ?_ GE607.out | refine bS_ ?_ GE608.out⟩
mutual
def p_patchMake2.l0 : Nat → Nat → List (S93) → List (S67) → Int → Int → ByteArray → ByteArray → List (S93) → Int → Int → List (S93) → Int → Int → Int → Int → Option ((List (S67)))
 | 0, _, _, _, _, _, _, _, _, _, _, _, _, _, _, _ => none
 | k + 1, x0, x2, x7, x9, x10, x11, x12, x23, x24, x25, x628000, x628001, x628002, x628003, x628004 => if x25 < x24 then (if 0 ≤ x25 then (if x25 < (x23.length : Int) then (if (x628000.length : Int) = 0 then (p_patchMake2.j1 k x0 x2 x7 x9 x10 x11 x12 x25 x23 x24 x25 (((rd_T93 x23 x25).f0) != 0) x628000 x628001 x628002 x628003 x628004 ((rd_T93 x23 x25).f0) ((rd_T93 x23 x25).f1)) else (p_patchMake2.j1 k x0 x2 x7 x9 x10 x11 x12 x25 x23 x24 x25 false x628000 x628001 x628002 x628003 x628004 ((rd_T93 x23 x25).f0) ((rd_T93 x23 x25).f1))) else (none)) else (none)) else (if (x628000.length : Int) = 0 then (some x7) else ((p_PatchAddContext.f k x0 x628000 x628001 x628002 x628003 x628004 x11).bind fun bt628 => (if x7.length < 2513169434916 then (some (x7 ++ [(⟨bt628.1, bt628.2.1, bt628.2.2.1, bt628.2.2.2.1, bt628.2.2.2.2⟩ : S67)])) else (none))))
def p_patchMake2.j1 : Nat → Nat → List (S93) → List (S67) → Int → Int → ByteArray → ByteArray → Int → List (S93) → Int → Int → Bool → List (S93) → Int → Int → Int → Int → Int → ByteArray → Option ((List (S67)))
 | 0, _, _, _, _, _, _, _, _, _, _, _, _, _, _, _, _, _, _, _ => none
 | k + 1, x0, x2, x7, x9, x10, x11, x12, x13, x23, x24, x25, x38, x628000, x628001, x628002, x628003, x628004, x640000, x640001 => if x38 = true then (p_patchMake2.j2 k x0 x2 x7 x9 x10 x11 x12 x13 x23 x24 x25 x628000 x9 x10 x628003 x628004 x640000 x640001) else (p_patchMake2.j2 k x0 x2 x7 x9 x10 x11 x12 x13 x23 x24 x25 x628000 x628001 x628002 x628003 x628004 x640000 x640001)
def p_patchMake2.j2 : Nat → Nat → List (S93) → List (S67) → Int → Int → ByteArray → ByteArray → Int → List (S93) → Int → Int → List (S93) → Int → Int → Int → Int → Int → ByteArray → Option ((List (S67)))
 | 0, _, _, _, _, _, _, _, _, _, _, _, _, _, _, _, _, _, _ => none
 | k + 1, x0, x2, x7, x9, x10, x11, x12, x13, x23, x24, x25, x628000, x628001, x628002, x628003, x628004, x640000, x640001 => if x640000 = 1 then (if x628000.length < 5864062014805 then (if 0 ≤ x10 then (if x10 ≤ (x12.size : Int) then (if (x12.extract 0 (x10 : Int).toNat).size + x640001.size ≤ 9223372036854775807 then (if ((x12.extract 0 (x10 : Int).toNat) ++ x640001).size + (x12.extract (x10 : Int).toNat x12.size).size ≤ 9223372036854775807 then (p_patchMake2.j4 k x0 x2 x7 x9 x10 x11 (((x12.extract 0 (x10 : Int).toNat) ++ x640001) ++ (x12.extract (x10 : Int).toNat x12.size)) x23 x24 x25 (x628000 ++ [(⟨x640000, x640001⟩ : S93)]) x628001 x628002 x628003 (wrap64 (x628004 + (x640001.size : Int))) x640000 x640001) else (none)) else (none)) else (none)) else (none)) else (none)) else (if x640000 = (-1) then (none) else (if x640000 = 0 then (if (x640001.size : Int) ≤ (2 * 4) then (if (x628000.length : Int) = 0 then (p_patchMake2.j3 k x0 x2 x7 x9 x10 x11 x12 x23 x24 x25 false x628000 x628001 x628002 x628003 x628004 x640000 x640001) else (p_patchMake2.j3 k x0 x2 x7 x9 x10 x11 x12 x23 x24 x25 (x13 != (wrap64 ((x2.length : Int) - 1))) x628000 x628001 x628002 x628003 x628004 x640000 x640001)) else (p_patchMake2.j3 k x0 x2 x7 x9 x10 x11 x12 x23 x24 x25 false x628000 x628001 x628002 x628003 x628004 x640000 x640001)) else (p_patchMake2.j4 k x0 x2 x7 x9 x10 x11 x12 x23 x24 x25 x628000 x628001 x628002 x628003 x628004 x640000 x640001)))
def p_patchMake2.j4 : Nat → Nat → List (S93) → List (S67) → Int → Int → ByteArray → ByteArray → List (S93) → Int → Int → List (S93) → Int → Int → Int → Int → Int → ByteArray → Option ((List (S67)))
 | 0, _, _, _, _, _, _, _, _, _, _, _, _, _, _, _, _, _ => none
 | k + 1, x0, x2, x7, x9, x10, x11, x12, x23, x24, x25, x628000, x628001, x628002, x628003, x628004, x640000, x640001 => if x640000 = 1 then (if x640000 = (-1) then (p_patchMake2.l0 k x0 x2 x7 x9 x10 x11 x12 x23 x24 (wrap64 (x25 + 1)) x628000 x628001 x628002 x628003 x628004) else (p_patchMake2.l0 k x0 x2 x7 x9 (wrap64 (x10 + (x640001.size : Int))) x11 x12 x23 x24 (wrap64 (x25 + 1)) x628000 x628001 x628002 x628003 x628004)) else (if x640000 = (-1) then (p_patchMake2.l0 k x0 x2 x7 (wrap64 (x9 + (x640001.size : Int))) x10 x11 x12 x23 x24 (wrap64 (x25 + 1)) x628000 x628001 x628002 x628003 x628004) else (p_patchMake2.l0 k x0 x2 x7 (wrap64 (x9 + (x640001.size : Int))) (wrap64 (x10 + (x640001.size : Int))) x11 x12 x23 x24 (wrap64 (x25 + 1)) x628000 x628001 x628002 x628003 x628004))
def p_patchMake2.j3 : Nat → Nat → List (S93) → List (S67) → Int → Int → ByteArray → ByteArray → List (S93) → Int → Int → Bool → List (S93) → Int → Int → Int → Int → Int → ByteArray → Option ((List (S67)))
 | 0, _, _, _, _, _, _, _, _, _, _, _, _, _, _, _, _, _, _ => none
 | k + 1, x0, x2, x7, x9, x10, x11, x12, x23, x24, x25, x119, x628000, x628001, x628002, x628003, x628004, x640000, x640001 => if x119 = true then (none) else (if (x640001.size : Int) ≥ (2 * 4) then (none) else (p_patchMake2.j4 k x0 x2 x7 x9 x10 x11 x12 x23 x24 x25 x628000 x628001 x628002 x628003 x628004 x640000 x640001))
end
def p_patchMake2.f (k : Nat) (a0 : Nat) (a1 : ByteArray) (l2 : List (S93)) : Option ((List (S67))) := if (l2.length : Int) = 0 then (none) else (p_patchMake2.l0 k a0 l2 (([] : List (S67))) 0 0 a1 a1 l2 (l2.length : Int) 0 ([] : List (S93)) 0 0 0 0)
theorem p_patchMake2.calls (k : Nat) (a0 : Nat) (a1 : ByteArray) (A2 : Option Addr) (c2 : Nat) (l2 : List (S93)) (r : List (S67)) (w : World) (hd0 : DmpAt w a0) (hr2 : Kd.C k93 w A2 l2.length l2) (hc2 : l2.length ≤ c2) (h : p_patchMake2.f k a0 a1 l2 = some r) :
  Calls Tryz.prog 67 #[.pointer (some ⟨a0, 0, none⟩), .string a1, .slice A2 l2.length c2] w fun e w' => ∃ v0_ : Value, e = .returned (v0_) ∧ Kd.S k67 67 w' w.heap.size (fun _ => True) v0_ r ∧ Below w.heap.size w w' := by
 have hu67 := Tryz.underlying67
 have hu93 := Tryz.underlying93
 have HD0 := Aside0.mk hd0
 clear hd0
 have HR2 := Aside0.mk hr2
 have HC2 := Aside0.mk hc2
 clear hr2 hc2
 have HB := aS_ (Below.refl w.heap.size w)
 have H : (if (l2.length : Int) = 0 then (none) else (p_patchMake2.l0 k a0 l2 (([] : List (S67))) 0 0 a1 a1 l2 (l2.length : Int) 0 ([] : List (S93)) 0 0 0 0)) = some r := h
 clear h
 obtain ⟨y624, hy624⟩ : ∃ y_ : List (S67), y_ = (([] : List (S67))) := ⟨_, rfl⟩
 replace H : (if (l2.length : Int) = 0 then (none) else (p_patchMake2.l0 k a0 l2 y624 0 0 a1 a1 l2 (l2.length : Int) 0 ([] : List (S93)) 0 0 0 0)) = some r := by (rw [hy624]; with_reducible exact H)
 have Ny624 := Aside0.mk hy624
 clear hy624
 by_cases c4 : (l2.length : Int) = 0
 ·rw [if_pos c4] at H
  exact absurd H (by simp)
 ·rw [if_neg c4] at H
  have c4b0 := beq_eq_false_iff_ne.mpr c4
  have c4b1 := bne_iff_ne.mpr c4
  have c4b2 : ¬ (l2 = []) := fun h_ => c4 (by rw [h_]; rfl)
  have H' := Aside0.mk H
  clear H
  go_enter Tryz.func67, Tryz.ntmps67
  go_wp2_with (first | ((with_reducible refine gate_dst (N := 15) rfl ?_); (try (refine gate_guard (by rfl) ?_; dsimp only)); refine Kd.S_lit k67 _ 67 ?hg (N := 15) ?hd (xs := ([] : List (S67))) (inner := []) (ok := fun _ => True) (okp := fun _ => True) ?hr ?hp (fun _ hk => hk) trivial (Below.refl _ _) (Nat.le_refl _) (by simp) ?_; (case hd => rfl); (case hg => rfl); (case hr => (go_simp; done)); (case hp => exact (Reps.none _ _)); intro v625 w5 ho6 hb hg_ hnew_; clear hg_ hnew_; (rw [← Ny624.out] at ho6); have HO626 := aS_ (Kd.S_lower ho6 (bz_ (bel_ HB.out))); replace HB := aS_ (bt_ (bel_ HB.out) hb); clear hb ho6) | ((with_reducible refine gate_dst (N := 8) rfl ?_); (try (refine gate_guard (by rfl) ?_; dsimp only)); refine box_event ?hg (N := 8) ?hd (cs := #[.slice none 0 0, .int .i64 0, .int .i64 0, .int .i64 0, .int .i64 0]) (t := 67) ?hr ?_; (case hd => rfl); (case hg => rfl); (case hr => (go_simp; done)); intro gb627 hg w7 hbox hb; replace HO626 := aS_ (Kd.S_below (Kd.S_elderB (Kd.S_st HO626.out) gb627 (Nat.le_of_eq hg.symm)) hb); have BK627 := aS_ (hbox); have GW627 := aS_ ((by rw [hg]; exact (bz_ (bel_ HB.out)) : w.heap.size ≤ gb627)); have GE627 := aS_ ((by rw [hg]; exact (bz_ (bel_ HB.out)) : w.heap.size ≤ gb627)); replace HB := aS_ (bt_ (bel_ HB.out) hb); clear hb hbox hg; obtain ⟨hcz8_0, hcz8_1, hcz8_2, hcz8_3, hcz8_4, hfz8_0, hfz8_1, hfz8_2, hfz8_3, hfz8_4⟩ := blk5 BK627.out))
  go_loopg [9, 10, 12, 25, 7, 11] k (fun kq v9 v10 v12 v25 v7 v11 w' => ∃ (x9_1 : Int) (x10_1 : Int) (x12_1 : ByteArray) (x25_1 : Int) (x628000_1 : List (S93)) (x628001_1 : Int) (x628002_1 : Int) (x628004_1 : Int) (u628000 : Value), v9 = .int .i64 x9_1 ∧ v10 = .int .i64 x10_1 ∧ v12 = .string x12_1 ∧ v25 = .int .i64 x25_1 ∧ (v625 : Value) = v7 ∧ (.string a1 : Value) = v11 ∧ Aside0 (p_patchMake2.l0 kq a0 l2 y624 x9_1 x10_1 a1 x12_1 l2 (l2.length : Int) x25_1 x628000_1 x628001_1 x628002_1 0 x628004_1 = some r) ∧ Aside0 (kq ≤ k) ∧ Aside0 (Kd.S k67 67 w' w.heap.size (fun k_ => some k_ ≠ (u628000 : Value).ownBlock ∧ k_ ≠ gb627) v625 y624) ∧ Aside0 (Kd.R k93 93 w' w.heap.size (fun _ => True) u628000 x628000_1) ∧ Aside0 (w'.heap[gb627]? = some (.cells #[u628000, .int .i64 x628001_1, .int .i64 x628002_1, .int .i64 0, .int .i64 x628004_1] 67 (0, 0))) ∧ Aside0 (Below w.heap.size w w'))
  case atStart => exact ⟨(0), (0), (a1), (0), (([] : List (S93))), (0), (0), (0), (.slice none 0 0), (by rfl), (by rfl), (by rfl), (by rfl), (by rfl), (by rfl), H', ⟨Nat.le_refl _⟩, ⟨Kd.S_st (Kd.S_mono (Kd.S_far (p := ⟨gb627, 4, none⟩) (Kd.S_far (p := ⟨gb627, 3, none⟩) (Kd.S_far (p := ⟨gb627, 2, none⟩) (Kd.S_far (p := ⟨gb627, 1, none⟩) (Kd.S_far (p := ⟨gb627, 0, none⟩) (Kd.S_mono HO626.out (fun k_ hk => (⟨hk, hk.2⟩ : _ ∧ k_ ≠ gb627))) (fun _ hk => hk.2) (.slice none 0 0)) (fun _ hk => hk.2) (.int .i64 0)) (fun _ hk => hk.2) (.int .i64 0)) (fun _ hk => hk.2) (.int .i64 0)) (fun _ hk => hk.2) (.int .i64 0)) (fun _ hk => ⟨(by simp [Value.ownBlock]), hk.1.2⟩))⟩, ⟨by exact Kd.R_nil _ _ _ _ _⟩, ⟨by (with_reducible skip); refine blk_put (cs := #[.slice none 0 0, .int .i64 0, .int .i64 0, .int .i64 0, .int .i64 0]) ?_ 4 _ rfl; (with_reducible skip); refine blk_put (cs := #[.slice none 0 0, .int .i64 0, .int .i64 0, .int .i64 0, .int .i64 0]) ?_ 3 _ rfl; (with_reducible skip); refine blk_put (cs := #[.slice none 0 0, .int .i64 0, .int .i64 0, .int .i64 0, .int .i64 0]) ?_ 2 _ rfl; (with_reducible skip); refine blk_put (cs := #[.slice none 0 0, .int .i64 0, .int .i64 0, .int .i64 0, .int .i64 0]) ?_ 1 _ rfl; (with_reducible skip); refine blk_put (cs := #[.slice none 0 0, .int .i64 0, .int .i64 0, .int .i64 0, .int .i64 0]) ?_ 0 _ rfl; (with_reducible skip); exact BK627.out⟩, ⟨by with_reducible repeat first | exact HB.out | refine bS_ ?_ GE627.out⟩⟩
  case round =>
   clear H'
   obtain ⟨x9_1, x10_1, x12_1, x25_1, x628000_1, x628001_1, x628002_1, x628004_1, u628000, rfl, rfl, rfl, rfl, rfl, rfl, HA, HK1, HO_7, HO_628000, BK627, HB⟩ := hrel
   cases gk with
   | zero => exact absurd HA.out (by simp [p_patchMake2.l0])
   | succ k1 =>
    have H := HA.out; clear HA
    simp only [p_patchMake2.l0] at H
    by_cases c9 : x25_1 < (l2.length : Int)
    ·rw [if_pos c9] at H
     have c9b0 := decide_eq_true c9
     clear c9
     replace H := yes_ H; obtain ⟨c10, H⟩ := H
     have c10b0 := decide_eq_true c10
     clear c10
     replace H := yes_ H; obtain ⟨c11, H⟩ := H
     have c11b0 := decide_eq_true c11
     clear c11
     have HC12 := Aside0.mk H
     clear H
     have p638 : 0 ≤ (x25_1 : Int) := of_decide_eq_true (by assumption)
     have q638 : x25_1 < (l2.length : Int) := of_decide_eq_true (by assumption)
     obtain ⟨ad638, e638, hx638_0, hx638_1⟩ := at_T93 HR2.out x25_1 p638 q638
     cases e638
     replace hx638_0 := (HB.out.cell (World.block_lt_of_cell? w _ hx638_0)).trans hx638_0
     replace hx638_1 := (HB.out.cell (World.block_lt_of_cell? w _ hx638_1)).trans hx638_1
     replace p638 := eq_true p638
     replace q638 := eq_true q638
     go_upto_region 12 with (((with_reducible refine gate_dst (N := 14) rfl ?_); (try (refine gate_guard (by rfl) ?_; dsimp only)); refine box_event ?hg (N := 14) ?hd (cs := #[.int .i8 0, .string (⟨#[]⟩ : ByteArray)]) (t := 93) ?hr ?_; (case hd => rfl); (case hg => rfl); (case hr => (go_simp; done)); intro gb639 hg w13 hbox hb; replace HO_7 := aS_ (Kd.S_below (Kd.S_elderB (Kd.S_st HO_7.out) gb639 (Nat.le_of_eq hg.symm)) hb); replace HO_628000 := aS_ (Kd.R_below (Kd.R_elderB (Kd.R_st HO_628000.out) gb639 (Nat.le_of_eq hg.symm)) hb); have BK639 := aS_ (hbox); have GW639 := aS_ ((by rw [hg]; exact (bz_ (by with_reducible repeat exact HB.out)) : w.heap.size ≤ gb639)); have GE639 := aS_ ((by rw [hg]; exact (bz_ (by with_reducible repeat exact HB.out)) : w.heap.size ≤ gb639)); replace HB := aS_ (bt_ (by with_reducible repeat exact HB.out) hb); have NB627_639 := aS_ ((by rw [hg]; exact Nat.ne_of_lt (blk_lt (g := gb627) (o := .cells #[u628000, .int .i64 x628001_1, .int .i64 x628002_1, .int .i64 0, .int .i64 x628004_1] 67 (0, 0)) (blk_st BK627.out)) : gb627 ≠ gb639)); have NB639_627 := aS_ ((by rw [hg]; exact Nat.ne_of_gt (blk_lt (g := gb627) (o := .cells #[u628000, .int .i64 x628001_1, .int .i64 x628002_1, .int .i64 0, .int .i64 x628004_1] 67 (0, 0)) (blk_st BK627.out)) : gb639 ≠ gb627)); replace BK627 := aS_ (blk_below (g := gb627) (o := .cells #[u628000, .int .i64 x628001_1, .int .i64 x628002_1, .int .i64 0, .int .i64 x628004_1] 67 (0, 0)) (blk_st BK627.out) hb); clear hb hbox hg; have hnb14 := NB639_627.out; have hnc14 := NB627_639.out; obtain ⟨hcz15_0, hcz15_1, hfz15_0, hfz15_1⟩ := blk2 BK639.out))
     go_cut [38] (fun v38 wc => ∃ (kq : Nat) (x38_11 : Bool), v38 = .bool x38_11 ∧ Aside0 (p_patchMake2.j1 kq a0 l2 y624 x9_1 x10_1 a1 x12_1 x25_1 l2 (l2.length : Int) x25_1 x38_11 x628000_1 x628001_1 x628002_1 0 x628004_1 ((rd_T93 l2 x25_1).f0) ((rd_T93 l2 x25_1).f1) = some r) ∧ Aside0 (kq ≤ k1) ∧ Aside0 (Kd.S k67 67 wc w.heap.size (fun k_ => some k_ ≠ (u628000 : Value).ownBlock ∧ k_ ≠ gb627 ∧ k_ ≠ gb639) v625 y624) ∧ Aside0 (Kd.R k93 93 wc w.heap.size (fun k_ => k_ ≠ gb639) u628000 x628000_1) ∧ Aside0 (wc.heap[gb627]? = some (.cells #[u628000, .int .i64 x628001_1, .int .i64 x628002_1, .int .i64 0, .int .i64 x628004_1] 67 (0, 0))) ∧ Aside0 (wc.heap[gb639]? = some (.cells #[.int .i8 ((rd_T93 l2 x25_1).f0), .string ((rd_T93 l2 x25_1).f1)] 93 (0, 0))) ∧ Aside0 (Below w.heap.size w wc))
     case first =>
      have H := HC12.out
      clear HC12
      by_cases c16 : (x628000_1.length : Int) = 0
      ·rw [if_pos c16] at H
       have c16b0 := beq_iff_eq.mpr c16
       have c16b1 := bne_eq_false_iff_eq.mpr c16
       clear c16
       have H' := Aside0.mk H
       clear H
       have hnb17 := NB627_639.out
       have hnc17 := NB639_627.out
       obtain ⟨hcz18_0, hcz18_1, hcz18_2, hcz18_3, hcz18_4, hfz18_0, hfz18_1, hfz18_2, hfz18_3, hfz18_4⟩ := blk5 BK627.out
       obtain ⟨Ao19, co19, eo19⟩ := Kd.R_slice HO_628000.out
       subst eo19
       obtain ⟨hcz20_0, hcz20_1, hfz20_0, hfz20_1⟩ := blk2 BK639.out
       go_wp2
       go_meet
       case rel => exact ⟨_, ((((rd_T93 l2 x25_1).f0) != 0)), (by rfl), H', ⟨by have := HK1.out; omega⟩, ⟨Kd.S_st (Kd.S_mono (Kd.S_far (p := ⟨gb639, 1, none⟩) (Kd.S_far (p := ⟨gb639, 0, none⟩) (Kd.S_mono HO_7.out (fun k_ hk => (⟨hk, hk.2⟩ : _ ∧ k_ ≠ gb639))) (fun _ hk => hk.2) (.int .i8 ((rd_T93 l2 x25_1).f0))) (fun _ hk => hk.2) (.string ((rd_T93 l2 x25_1).f1))) (fun _ hk => ⟨hk.1.1.1, ⟨hk.1.1.2, hk.1.2⟩⟩))⟩, ⟨Kd.R_st (Kd.R_mono (Kd.R_far (p := ⟨gb639, 1, none⟩) (Kd.R_far (p := ⟨gb639, 0, none⟩) (Kd.R_mono HO_628000.out (fun k_ hk => (⟨hk, hk.2⟩ : _ ∧ k_ ≠ gb639))) (fun _ hk => hk.2) (.int .i8 ((rd_T93 l2 x25_1).f0))) (fun _ hk => hk.2) (.string ((rd_T93 l2 x25_1).f1))) (fun _ hk => hk.1.2))⟩, ⟨by (with_reducible skip); refine blk_far ?_ NB627_639.out _; (with_reducible skip); refine blk_far ?_ NB627_639.out _; (with_reducible skip); exact BK627.out⟩, ⟨by (with_reducible skip); refine blk_put (cs := #[.int .i8 ((rd_T93 l2 x25_1).f0), .string (⟨#[]⟩ : ByteArray)]) ?_ 1 _ rfl; (with_reducible skip); refine blk_put (cs := #[.int .i8 0, .string (⟨#[]⟩ : ByteArray)]) ?_ 0 _ rfl; (with_reducible skip); exact BK639.out⟩, ⟨by with_reducible repeat first | exact HB.out | refine bS_ ?_ GE639.out⟩⟩
      ·rw [if_neg c16] at H
       have c16b0 := beq_eq_false_iff_ne.mpr c16
       have c16b1 := bne_iff_ne.mpr c16
       have c16b2 : ¬ (x628000_1 = []) := fun h_ => c16 (by rw [h_]; rfl)
       have H' := Aside0.mk H
       clear H
       have hnb21 := NB627_639.out
       have hnc21 := NB639_627.out
       obtain ⟨hcz22_0, hcz22_1, hcz22_2, hcz22_3, hcz22_4, hfz22_0, hfz22_1, hfz22_2, hfz22_3, hfz22_4⟩ := blk5 BK627.out
       obtain ⟨Ao23, co23, eo23⟩ := Kd.R_slice HO_628000.out
       subst eo23
       go_wp2
       go_meet
       case rel => exact ⟨_, (false), (by rfl), H', ⟨by have := HK1.out; omega⟩, ⟨Kd.S_st (Kd.S_mono (Kd.S_far (p := ⟨gb639, 1, none⟩) (Kd.S_far (p := ⟨gb639, 0, none⟩) (Kd.S_mono HO_7.out (fun k_ hk => (⟨hk, hk.2⟩ : _ ∧ k_ ≠ gb639))) (fun _ hk => hk.2) (.int .i8 ((rd_T93 l2 x25_1).f0))) (fun _ hk => hk.2) (.string ((rd_T93 l2 x25_1).f1))) (fun _ hk => ⟨hk.1.1.1, ⟨hk.1.1.2, hk.1.2⟩⟩))⟩, ⟨Kd.R_st (Kd.R_mono (Kd.R_far (p := ⟨gb639, 1, none⟩) (Kd.R_far (p := ⟨gb639, 0, none⟩) (Kd.R_mono HO_628000.out (fun k_ hk => (⟨hk, hk.2⟩ : _ ∧ k_ ≠ gb639))) (fun _ hk => hk.2) (.int .i8 ((rd_T93 l2 x25_1).f0))) (fun _ hk => hk.2) (.string ((rd_T93 l2 x25_1).f1))) (fun _ hk => hk.1.2))⟩, ⟨by (with_reducible skip); refine blk_far ?_ NB627_639.out _; (with_reducible skip); refine blk_far ?_ NB627_639.out _; (with_reducible skip); exact BK627.out⟩, ⟨by (with_reducible skip); refine blk_put (cs := #[.int .i8 ((rd_T93 l2 x25_1).f0), .string (⟨#[]⟩ : ByteArray)]) ?_ 1 _ rfl; (with_reducible skip); refine blk_put (cs := #[.int .i8 0, .string (⟨#[]⟩ : ByteArray)]) ?_ 0 _ rfl; (with_reducible skip); exact BK639.out⟩, ⟨by with_reducible repeat first | exact HB.out | refine bS_ ?_ GE639.out⟩⟩
     case rest =>
      clear HC12
      obtain ⟨kq, x38_11, rfl, HA, HJ11, HO_7, HO_628000, BK627, BK639, HB⟩ := hcut
      cases kq with
      | zero => exact absurd HA.out (by simp [p_patchMake2.j1])
      | succ kj11 =>
       have H := HA.out; clear HA
       simp only [p_patchMake2.j1] at H
       have HC24 := Aside0.mk H
       clear H
       go_upto_if 38 with (fail)
       go_cut [] (fun wc => ∃ (kq : Nat) (x628001_23 : Int) (x628002_23 : Int), Aside0 (p_patchMake2.j2 kq a0 l2 y624 x9_1 x10_1 a1 x12_1 x25_1 l2 (l2.length : Int) x25_1 x628000_1 x628001_23 x628002_23 0 x628004_1 ((rd_T93 l2 x25_1).f0) ((rd_T93 l2 x25_1).f1) = some r) ∧ Aside0 (kq ≤ kj11) ∧ Aside0 (Kd.S k67 67 wc w.heap.size (fun k_ => some k_ ≠ (u628000 : Value).ownBlock ∧ k_ ≠ gb627 ∧ k_ ≠ gb639) v625 y624) ∧ Aside0 (Kd.R k93 93 wc w.heap.size (fun k_ => k_ ≠ gb639) u628000 x628000_1) ∧ Aside0 (wc.heap[gb627]? = some (.cells #[u628000, .int .i64 x628001_23, .int .i64 x628002_23, .int .i64 0, .int .i64 x628004_1] 67 (0, 0))) ∧ Aside0 (wc.heap[gb639]? = some (.cells #[.int .i8 ((rd_T93 l2 x25_1).f0), .string ((rd_T93 l2 x25_1).f1)] 93 (0, 0))) ∧ Aside0 (Below w.heap.size w wc))
       case first =>
        have H := HC24.out
        clear HC24
        by_cases c25 : x38_11 = true
        ·subst c25
         rw [if_pos rfl] at H
         have H' := Aside0.mk H
         clear H
         have hnb26 := NB627_639.out
         have hnc26 := NB639_627.out
         obtain ⟨hcz27_0, hcz27_1, hcz27_2, hcz27_3, hcz27_4, hfz27_0, hfz27_1, hfz27_2, hfz27_3, hfz27_4⟩ := blk5 BK627.out
         go_wp2
         go_meet
         case rel => exact ⟨_, (x9_1), (x10_1), H', ⟨by have := HK1.out; have := HJ11.out; omega⟩, ⟨Kd.S_st (Kd.S_mono (Kd.S_far (p := ⟨gb627, 2, none⟩) (Kd.S_far (p := ⟨gb627, 1, none⟩) (Kd.S_mono HO_7.out (fun k_ hk => (⟨hk, hk.2.1⟩ : _ ∧ k_ ≠ gb627))) (fun _ hk => hk.2) (.int .i64 x9_1)) (fun _ hk => hk.2) (.int .i64 x10_1)) (fun _ hk => ⟨hk.1.1, ⟨hk.1.2.1, hk.1.2.2⟩⟩))⟩, ⟨Kd.R_st (Kd.R_mono (Kd.R_far (p := ⟨gb627, 2, none⟩) (Kd.R_far (p := ⟨gb627, 1, none⟩) (Kd.R_types HO_628000.out BK627.out (by decide)) (fun _ hk => hk.2) (.int .i64 x9_1)) (fun _ hk => hk.2) (.int .i64 x10_1)) (fun _ hk => hk.1))⟩, ⟨by (with_reducible skip); refine blk_put (cs := #[u628000, .int .i64 x9_1, .int .i64 x628002_1, .int .i64 0, .int .i64 x628004_1]) ?_ 2 _ rfl; (with_reducible skip); refine blk_put (cs := #[u628000, .int .i64 x628001_1, .int .i64 x628002_1, .int .i64 0, .int .i64 x628004_1]) ?_ 1 _ rfl; (with_reducible skip); exact BK627.out⟩, ⟨by (with_reducible skip); refine blk_far ?_ NB639_627.out _; (with_reducible skip); refine blk_far ?_ NB639_627.out _; (with_reducible skip); exact BK639.out⟩, ⟨by with_reducible repeat first | exact HB.out | refine bS_ ?_ GE627.out⟩⟩
        ·replace c25 := Bool.eq_false_iff.mpr c25
         subst c25
         rw [if_neg (show ¬ (false = true) by decide)] at H
         have H' := Aside0.mk H
         clear H
         go_wp2
         go_meet
         case rel => exact ⟨_, (x628001_1), (x628002_1), H', ⟨by have := HK1.out; have := HJ11.out; omega⟩, ⟨Kd.S_st HO_7.out⟩, ⟨Kd.R_st HO_628000.out⟩, ⟨blk_st BK627.out⟩, ⟨blk_st BK639.out⟩, ⟨by with_reducible repeat exact HB.out⟩⟩
       case rest =>
        clear HC24
        obtain ⟨kq, x628001_23, x628002_23, HA, HJ23, HO_7, HO_628000, BK627, BK639, HB⟩ := hcut
        cases kq with
        | zero => exact absurd HA.out (by simp [p_patchMake2.j2])
        | succ kj23 =>
         have H := HA.out; clear HA
         simp only [p_patchMake2.j2] at H
         have HC28 := Aside0.mk H
         clear H
         have hnb29 := NB639_627.out
         have hnc29 := NB627_639.out
         obtain ⟨hcz30_0, hcz30_1, hfz30_0, hfz30_1⟩ := blk2 BK639.out
         go_upto_block 2 with (fail)
         go_cut [12, 7, 9, 11] (fun v12 v7 v9 v11 wc => ∃ (kq : Nat) (x12_27 : ByteArray) (x628000_27 : List (S93)) (x628004_27 : Int) (u628000 : Value), v12 = .string x12_27 ∧ (v625 : Value) = v7 ∧ (.int .i64 x9_1 : Value) = v9 ∧ (.string a1 : Value) = v11 ∧ Aside0 (p_patchMake2.j4 kq a0 l2 y624 x9_1 x10_1 a1 x12_27 l2 (l2.length : Int) x25_1 x628000_27 x628001_23 x628002_23 0 x628004_27 ((rd_T93 l2 x25_1).f0) ((rd_T93 l2 x25_1).f1) = some r) ∧ Aside0 (kq ≤ kj23) ∧ Aside0 (Kd.S k67 67 wc w.heap.size (fun k_ => some k_ ≠ (u628000 : Value).ownBlock ∧ k_ ≠ gb627 ∧ k_ ≠ gb639) v625 y624) ∧ Aside0 (Kd.R k93 93 wc w.heap.size (fun k_ => k_ ≠ gb639) u628000 x628000_27) ∧ Aside0 (wc.heap[gb627]? = some (.cells #[u628000, .int .i64 x628001_23, .int .i64 x628002_23, .int .i64 0, .int .i64 x628004_27] 67 (0, 0))) ∧ Aside0 (wc.heap[gb639]? = some (.cells #[.int .i8 ((rd_T93 l2 x25_1).f0), .string ((rd_T93 l2 x25_1).f1)] 93 (0, 0))) ∧ Aside0 (Below w.heap.size w wc))
         case first =>
          have H := HC28.out
          clear HC28
          by_cases c31 : ((rd_T93 l2 x25_1).f0) = 1
          ·rw [if_pos c31] at H
           have c31b0 := beq_iff_eq.mpr c31
           have c31b1 := bne_eq_false_iff_eq.mpr c31
           clear c31
           replace H := yes_ H; obtain ⟨c32, H⟩ := H
           have LMc32 := Aside0.mk c32
           clear c32
           obtain ⟨y640, hy640⟩ : ∃ y_ : List (S93), y_ = (x628000_1 ++ [(⟨((rd_T93 l2 x25_1).f0), ((rd_T93 l2 x25_1).f1)⟩ : S93)]) := ⟨_, rfl⟩
           replace H : (if 0 ≤ x10_1 then (if x10_1 ≤ (x12_1.size : Int) then (if (x12_1.extract 0 (x10_1 : Int).toNat).size + ((rd_T93 l2 x25_1).f1).size ≤ 9223372036854775807 then (if ((x12_1.extract 0 (x10_1 : Int).toNat) ++ ((rd_T93 l2 x25_1).f1)).size + (x12_1.extract (x10_1 : Int).toNat x12_1.size).size ≤ 9223372036854775807 then (p_patchMake2.j4 kj23 a0 l2 y624 x9_1 x10_1 a1 (((x12_1.extract 0 (x10_1 : Int).toNat) ++ ((rd_T93 l2 x25_1).f1)) ++ (x12_1.extract (x10_1 : Int).toNat x12_1.size)) l2 (l2.length : Int) x25_1 y640 x628001_23 x628002_23 0 (wrap64 (x628004_1 + (((rd_T93 l2 x25_1).f1).size : Int))) ((rd_T93 l2 x25_1).f0) ((rd_T93 l2 x25_1).f1)) else (none)) else (none)) else (none)) else (none)) = some r := by (rw [hy640]; with_reducible exact H)
           have Ny640 := Aside0.mk hy640
           clear hy640
           replace H := yes_ H; obtain ⟨c33, H⟩ := H
           have c33b0 := eq_true c33
           have c33b1 := decide_eq_true c33
           clear c33
           replace H := yes_ H; obtain ⟨c34, H⟩ := H
           have c34b0 := eq_true c34
           have c34b1 := decide_eq_true c34
           clear c34
           replace H := yes_ H; obtain ⟨c35, H⟩ := H
           have c35b0 := eq_true c35
           have c35b1 := decide_eq_true c35
           try have c35b2 : (9223372036854775807 < (x12_1.extract 0 (x10_1 : Int).toNat).size + ((rd_T93 l2 x25_1).f1).size) = False := eq_false (Nat.not_lt.2 c35)
           have c36b0 := eq_true (of_decide_eq_true (by assumption) : 0 ≤ x10_1)
           have c37b0 := eq_true (of_decide_eq_true (by assumption) : x10_1 ≤ (x12_1.size : Int))
           replace H := yes_ H; obtain ⟨c38, H⟩ := H
           have c38b0 := eq_true c38
           have c38b1 := decide_eq_true c38
           try have c38b2 : (9223372036854775807 < ((x12_1.extract 0 (x10_1 : Int).toNat) ++ ((rd_T93 l2 x25_1).f1)).size + (x12_1.extract (x10_1 : Int).toNat x12_1.size).size) = False := eq_false (Nat.not_lt.2 c38)
           have H' := Aside0.mk H
           clear H
           have hnb39 := NB627_639.out
           have hnc39 := NB639_627.out
           obtain ⟨hcz40_0, hcz40_1, hcz40_2, hcz40_3, hcz40_4, hfz40_0, hfz40_1, hfz40_2, hfz40_3, hfz40_4⟩ := blk5 BK627.out
           obtain ⟨hcz41_0, hcz41_1, hfz41_0, hfz41_1⟩ := blk2 BK639.out
           go_wp2_with (((with_reducible refine gate_builtin (b := .append) (xs := #[.tmp 48, .tmp 50]) rfl ?_); (try (refine gate_guard (by rfl) ?_; dsimp only)); at_builtin; refine Kd.R_append k93 (w0 := w) w.heap.size rfl (.tmp 48) (.tmp 50) 65 93 (.agg #[(.int .i8 0), (.string ⟨#[]⟩)]) 24 rfl Tryz.underlying65 info93 rfl (by decide) (by omega) u628000 x628000_1 (⟨((rd_T93 l2 x25_1).f0), ((rd_T93 l2 x25_1).f1)⟩ : S93) [.int .i8 ((rd_T93 l2 x25_1).f0), .string ((rd_T93 l2 x25_1).f1)] (fun k_ => k_ ≠ gb639) (fun _ => False) rfl rfl ?aP (fun _ hk => hk.elim) ?aF ?aO ?aB ?aS ?aL ?_; (case aP => exact k93_mkM _ _ _ (⟨((rd_T93 l2 x25_1).f0), ((rd_T93 l2 x25_1).f1)⟩ : S93)); (case aB => exact (by with_reducible repeat exact HB.out)); (case aF => exact (fun k_ hk => Kd.freshB (g := gb639) (o := .cells #[.int .i8 ((rd_T93 l2 x25_1).f0), .string ((rd_T93 l2 x25_1).f1)] 93 (0, 0)) (blk_st BK639.out) k_ hk)); (case aO => exact (Kd.R_st HO_628000.out)); (case aS => exact (bz_ (by with_reducible repeat exact HB.out))); (case aL => have := LMc32.out; omega); intro v641 w42 ho hb hg hat; rw [← Ny640.out] at ho; replace HO_7 := aS_ (Kd.S_after (ok := (fun k_ => k_ ≠ gb627 ∧ k_ ≠ gb639)) (Kd.S_st (Kd.S_mono HO_7.out (fun _ hk => ⟨⟨hk.2.1, hk.2.2⟩, hk.1⟩))) hg hat); replace BK627 := aS_ (blk_grown (g := gb627) (o := .cells #[u628000, .int .i64 x628001_23, .int .i64 x628002_23, .int .i64 0, .int .i64 x628004_1] 67 (0, 0)) (blk_st BK627.out) hg (Kd.R_ne HO_628000.out BK627.out (by decide))); replace BK639 := aS_ (blk_grown (g := gb639) (o := .cells #[.int .i8 ((rd_T93 l2 x25_1).f0), .string ((rd_T93 l2 x25_1).f1)] 93 (0, 0)) (blk_st BK639.out) hg (Kd.R_away HO_628000.out (fun _ hk => hk))); replace HB := aS_ (hb); have HO642 := aS_ (ho); clear HO_628000; clear ho hb hg hat; obtain ⟨Ao43, co43, eo43⟩ := Kd.R_slice HO642.out; subst eo43; obtain ⟨hcz44_0, hcz44_1, hcz44_2, hcz44_3, hcz44_4, hfz44_0, hfz44_1, hfz44_2, hfz44_3, hfz44_4⟩ := blk5 BK627.out; obtain ⟨hcz45_0, hcz45_1, hfz45_0, hfz45_1⟩ := blk2 BK639.out))
           repeat (go_quiet (fail); try go_wp2_with (fail))
           go_meet
           case rel => exact ⟨_, (((x12_1.extract 0 (x10_1 : Int).toNat) ++ ((rd_T93 l2 x25_1).f1)) ++ (x12_1.extract (x10_1 : Int).toNat x12_1.size)), (y640), (wrap64 (x628004_1 + (((rd_T93 l2 x25_1).f1).size : Int))), (.slice Ao43 y640.length co43), (by rfl), (by rfl), (by rfl), (by rfl), H', ⟨by have := HK1.out; have := HJ11.out; have := HJ23.out; omega⟩, ⟨Kd.S_st (Kd.S_mono (Kd.S_far (p := ⟨gb627, 4, none⟩) (Kd.S_far (p := ⟨gb627, 0, none⟩) (Kd.S_mono HO_7.out (fun k_ hk => (⟨hk, hk.1.1⟩ : _ ∧ k_ ≠ gb627))) (fun _ hk => hk.2) (.slice Ao43 y640.length co43)) (fun _ hk => hk.2) (.int .i64 (wrap64 (x628004_1 + (((rd_T93 l2 x25_1).f1).size : Int))))) (fun _ hk => ⟨hk.1.2, ⟨hk.1.1.1, hk.1.1.2⟩⟩))⟩, ⟨Kd.R_st (Kd.R_mono (Kd.R_far (p := ⟨gb627, 4, none⟩) (Kd.R_far (p := ⟨gb627, 0, none⟩) (Kd.R_types HO642.out BK627.out (by decide)) (fun _ hk => hk.2) (.slice Ao43 y640.length co43)) (fun _ hk => hk.2) (.int .i64 (wrap64 (x628004_1 + (((rd_T93 l2 x25_1).f1).size : Int))))) (fun _ hk => hk.1))⟩, ⟨by (with_reducible repeat (refine kN_ ?_ _)); refine blk_put (cs := #[.slice Ao43 y640.length co43, .int .i64 x628001_23, .int .i64 x628002_23, .int .i64 0, .int .i64 x628004_1]) ?_ 4 _ rfl; (with_reducible skip); refine blk_put (cs := #[u628000, .int .i64 x628001_23, .int .i64 x628002_23, .int .i64 0, .int .i64 x628004_1]) ?_ 0 _ rfl; (with_reducible skip); exact BK627.out⟩, ⟨by (with_reducible repeat (refine kN_ ?_ _)); refine blk_far ?_ NB639_627.out _; (with_reducible skip); refine blk_far ?_ NB639_627.out _; (with_reducible skip); exact BK639.out⟩, ⟨by with_reducible repeat first | exact HB.out | apply bN_ | refine bS_ ?_ GE627.out⟩⟩
          ·rw [if_neg c31] at H
           have c31b0 := beq_eq_false_iff_ne.mpr c31
           have c31b1 := bne_iff_ne.mpr c31
           by_cases c46 : ((rd_T93 l2 x25_1).f0) = (-1)
           ·rw [if_pos c46] at H
            exact absurd H (by simp)
           ·rw [if_neg c46] at H
            have c46b0 := beq_eq_false_iff_ne.mpr c46
            have c46b1 := bne_iff_ne.mpr c46
            by_cases c47 : ((rd_T93 l2 x25_1).f0) = 0
            ·rw [if_pos c47] at H
             have c47b0 := beq_iff_eq.mpr c47
             have c47b1 := bne_eq_false_iff_eq.mpr c47
             clear c47
             have HC48 := Aside0.mk H
             clear H
             go_upto_region 25 with (fail)
             go_cut [119] (fun v119 wc => ∃ (kq : Nat) (x119_47 : Bool), v119 = .bool x119_47 ∧ Aside0 (p_patchMake2.j3 kq a0 l2 y624 x9_1 x10_1 a1 x12_1 l2 (l2.length : Int) x25_1 x119_47 x628000_1 x628001_23 x628002_23 0 x628004_1 ((rd_T93 l2 x25_1).f0) ((rd_T93 l2 x25_1).f1) = some r) ∧ Aside0 (kq ≤ kj23) ∧ Aside0 (Kd.S k67 67 wc w.heap.size (fun k_ => some k_ ≠ (u628000 : Value).ownBlock ∧ k_ ≠ gb627 ∧ k_ ≠ gb639) v625 y624) ∧ Aside0 (Kd.R k93 93 wc w.heap.size (fun k_ => k_ ≠ gb639) u628000 x628000_1) ∧ Aside0 (wc.heap[gb627]? = some (.cells #[u628000, .int .i64 x628001_23, .int .i64 x628002_23, .int .i64 0, .int .i64 x628004_1] 67 (0, 0))) ∧ Aside0 (wc.heap[gb639]? = some (.cells #[.int .i8 ((rd_T93 l2 x25_1).f0), .string ((rd_T93 l2 x25_1).f1)] 93 (0, 0))) ∧ Aside0 (Below w.heap.size w wc))
             case first =>
              have H := HC48.out
              clear HC48
              by_cases c49 : (((rd_T93 l2 x25_1).f1).size : Int) ≤ (2 * 4)
              ·rw [if_pos c49] at H
               have c49b0 := decide_eq_true c49
               have c49s8 : decide ((((rd_T93 l2 x25_1).f1).size : Int) ≤ 8) = true := c49b0
               clear c49
               by_cases c50 : (x628000_1.length : Int) = 0
               ·rw [if_pos c50] at H
                have c50b0 := beq_iff_eq.mpr c50
                have c50b1 := bne_eq_false_iff_eq.mpr c50
                clear c50
                have H' := Aside0.mk H
                clear H
                have hnb51 := NB639_627.out
                have hnc51 := NB627_639.out
                obtain ⟨hcz52_0, hcz52_1, hfz52_0, hfz52_1⟩ := blk2 BK639.out
                have hdm53 := dmp_cell4 (dmp_below HD0.out HB.out)
                obtain ⟨hcz54_0, hcz54_1, hcz54_2, hcz54_3, hcz54_4, hfz54_0, hfz54_1, hfz54_2, hfz54_3, hfz54_4⟩ := blk5 BK627.out
                obtain ⟨Ao55, co55, eo55⟩ := Kd.R_slice HO_628000.out
                subst eo55
                go_wp2
                repeat (go_quiet (fail); try go_wp2)
                go_meet
                case rel => exact ⟨_, (false), (by rfl), H', ⟨by have := HK1.out; have := HJ11.out; have := HJ23.out; omega⟩, ⟨Kd.S_st HO_7.out⟩, ⟨Kd.R_st HO_628000.out⟩, ⟨blk_st BK627.out⟩, ⟨blk_st BK639.out⟩, ⟨by with_reducible repeat first | exact HB.out | apply bN_⟩⟩
               ·rw [if_neg c50] at H
                have c50b0 := beq_eq_false_iff_ne.mpr c50
                have c50b1 := bne_iff_ne.mpr c50
                have c50b2 : ¬ (x628000_1 = []) := fun h_ => c50 (by rw [h_]; rfl)
                have H' := Aside0.mk H
                clear H
                have hnb56 := NB639_627.out
                have hnc56 := NB627_639.out
                obtain ⟨hcz57_0, hcz57_1, hfz57_0, hfz57_1⟩ := blk2 BK639.out
                have hdm58 := dmp_cell4 (dmp_below HD0.out HB.out)
                obtain ⟨hcz59_0, hcz59_1, hcz59_2, hcz59_3, hcz59_4, hfz59_0, hfz59_1, hfz59_2, hfz59_3, hfz59_4⟩ := blk5 BK627.out
                obtain ⟨Ao60, co60, eo60⟩ := Kd.R_slice HO_628000.out
                subst eo60
                go_wp2
                repeat (go_quiet (fail); try go_wp2)
                go_meet
                case rel => exact ⟨_, ((x25_1 != (wrap64 ((l2.length : Int) - 1)))), (by rfl), H', ⟨by have := HK1.out; have := HJ11.out; have := HJ23.out; omega⟩, ⟨Kd.S_st HO_7.out⟩, ⟨Kd.R_st HO_628000.out⟩, ⟨blk_st BK627.out⟩, ⟨blk_st BK639.out⟩, ⟨by with_reducible repeat first | exact HB.out | apply bN_⟩⟩
              ·rw [if_neg c49] at H
               have c49b0 := decide_eq_false c49
               have c49s8 : decide ((((rd_T93 l2 x25_1).f1).size : Int) ≤ 8) = false := c49b0
               clear c49
               have H' := Aside0.mk H
               clear H
               have hnb61 := NB639_627.out
               have hnc61 := NB627_639.out
               obtain ⟨hcz62_0, hcz62_1, hfz62_0, hfz62_1⟩ := blk2 BK639.out
               have hdm63 := dmp_cell4 (dmp_below HD0.out HB.out)
               go_wp2
               repeat (go_quiet (fail); try go_wp2)
               go_meet
               case rel => exact ⟨_, (false), (by rfl), H', ⟨by have := HK1.out; have := HJ11.out; have := HJ23.out; omega⟩, ⟨Kd.S_st HO_7.out⟩, ⟨Kd.R_st HO_628000.out⟩, ⟨blk_st BK627.out⟩, ⟨blk_st BK639.out⟩, ⟨by with_reducible repeat first | exact HB.out | apply bN_⟩⟩
             case rest =>
              clear HC48
              obtain ⟨kq, x119_47, rfl, HA, HJ47, HO_7, HO_628000, BK627, BK639, HB⟩ := hcut
              cases kq with
              | zero => exact absurd HA.out (by simp [p_patchMake2.j3])
              | succ kj47 =>
               have H := HA.out; clear HA
               simp only [p_patchMake2.j3] at H
               by_cases c64 : x119_47 = true
               ·subst c64
                rw [if_pos rfl] at H
                exact absurd H (by simp)
               ·replace c64 := Bool.eq_false_iff.mpr c64
                subst c64
                rw [if_neg (show ¬ (false = true) by decide)] at H
                by_cases c65 : (((rd_T93 l2 x25_1).f1).size : Int) ≥ (2 * 4)
                ·rw [if_pos c65] at H
                 exact absurd H (by simp)
                ·rw [if_neg c65] at H
                 have c65b0 : decide ((2 * 4) ≤ (((rd_T93 l2 x25_1).f1).size : Int)) = false := decide_eq_false c65
                 have c65s8 : decide (8 ≤ (((rd_T93 l2 x25_1).f1).size : Int)) = false := c65b0
                 clear c65
                 have H' := Aside0.mk H
                 clear H
                 have hnb66 := NB639_627.out
                 have hnc66 := NB627_639.out
                 obtain ⟨hcz67_0, hcz67_1, hfz67_0, hfz67_1⟩ := blk2 BK639.out
                 have hdm68 := dmp_cell4 (dmp_below HD0.out HB.out)
                 go_wp2
                 repeat (go_quiet (fail); try go_wp2)
                 go_meet
                 case rel => exact ⟨_, (x12_1), (x628000_1), (x628004_1), (u628000), (by rfl), (by rfl), (by rfl), (by rfl), H', ⟨by have := HK1.out; have := HJ11.out; have := HJ23.out; have := HJ47.out; omega⟩, ⟨Kd.S_st HO_7.out⟩, ⟨Kd.R_st HO_628000.out⟩, ⟨blk_st BK627.out⟩, ⟨blk_st BK639.out⟩, ⟨by with_reducible repeat first | exact HB.out | apply bN_⟩⟩
            ·rw [if_neg c47] at H
             have c47b0 := beq_eq_false_iff_ne.mpr c47
             have c47b1 := bne_iff_ne.mpr c47
             have H' := Aside0.mk H
             clear H
             go_wp2
             go_meet
             case rel => exact ⟨_, (x12_1), (x628000_1), (x628004_1), (u628000), (by rfl), (by rfl), (by rfl), (by rfl), H', ⟨by have := HK1.out; have := HJ11.out; have := HJ23.out; omega⟩, ⟨Kd.S_st HO_7.out⟩, ⟨Kd.R_st HO_628000.out⟩, ⟨blk_st BK627.out⟩, ⟨blk_st BK639.out⟩, ⟨by with_reducible repeat exact HB.out⟩⟩
         case rest =>
          clear HC28
          obtain ⟨kq, x12_27, x628000_27, x628004_27, u628000, rfl, rfl, rfl, rfl, HA, HJ27, HO_7, HO_628000, BK627, BK639, HB⟩ := hcut
          cases kq with
          | zero => exact absurd HA.out (by simp [p_patchMake2.j4])
          | succ kj27 =>
           have H := HA.out; clear HA
           simp only [p_patchMake2.j4] at H
           by_cases c69 : ((rd_T93 l2 x25_1).f0) = 1
           ·rw [if_pos c69] at H
            have c69b0 := beq_iff_eq.mpr c69
            have c69b1 := bne_eq_false_iff_eq.mpr c69
            clear c69
            by_cases c70 : ((rd_T93 l2 x25_1).f0) = (-1)
            ·rw [if_pos c70] at H
             have c70b0 := beq_iff_eq.mpr c70
             have c70b1 := bne_eq_false_iff_eq.mpr c70
             clear c70
             have H' := Aside0.mk H
             clear H
             have hnb71 := NB639_627.out
             have hnc71 := NB627_639.out
             obtain ⟨hcz72_0, hcz72_1, hfz72_0, hfz72_1⟩ := blk2 BK639.out
             go_wp2
             go_roundg kj27
             case measure => have := HK1.out; have := HJ11.out; have := HJ23.out; have := HJ27.out; omega
             case rel => exact ⟨(x9_1), (x10_1), (x12_27), (wrap64 (x25_1 + 1)), (x628000_27), (x628001_23), (x628002_23), (x628004_27), (u628000), (by rfl), (by rfl), (by rfl), (by rfl), (by rfl), (by rfl), H', ⟨by have := HK1.out; have := HJ11.out; have := HJ23.out; have := HJ27.out; omega⟩, ⟨Kd.S_st (Kd.S_mono HO_7.out (fun _ hk => ⟨hk.1, hk.2.1⟩))⟩, ⟨Kd.R_st (Kd.R_mono HO_628000.out (fun _ hk => trivial))⟩, ⟨blk_st BK627.out⟩, ⟨by with_reducible repeat exact HB.out⟩⟩
            ·rw [if_neg c70] at H
             have c70b0 := beq_eq_false_iff_ne.mpr c70
             have c70b1 := bne_iff_ne.mpr c70
             have H' := Aside0.mk H
             clear H
             have hnb73 := NB639_627.out
             have hnc73 := NB627_639.out
             obtain ⟨hcz74_0, hcz74_1, hfz74_0, hfz74_1⟩ := blk2 BK639.out
             go_wp2
             go_roundg kj27
             case measure => have := HK1.out; have := HJ11.out; have := HJ23.out; have := HJ27.out; omega
             case rel => exact ⟨(x9_1), (wrap64 (x10_1 + (((rd_T93 l2 x25_1).f1).size : Int))), (x12_27), (wrap64 (x25_1 + 1)), (x628000_27), (x628001_23), (x628002_23), (x628004_27), (u628000), (by rfl), (by rfl), (by rfl), (by rfl), (by rfl), (by rfl), H', ⟨by have := HK1.out; have := HJ11.out; have := HJ23.out; have := HJ27.out; omega⟩, ⟨Kd.S_st (Kd.S_mono HO_7.out (fun _ hk => ⟨hk.1, hk.2.1⟩))⟩, ⟨Kd.R_st (Kd.R_mono HO_628000.out (fun _ hk => trivial))⟩, ⟨blk_st BK627.out⟩, ⟨by with_reducible repeat exact HB.out⟩⟩
           ·rw [if_neg c69] at H
            have c69b0 := beq_eq_false_iff_ne.mpr c69
            have c69b1 := bne_iff_ne.mpr c69
            by_cases c75 : ((rd_T93 l2 x25_1).f0) = (-1)
            ·rw [if_pos c75] at H
             have c75b0 := beq_iff_eq.mpr c75
             have c75b1 := bne_eq_false_iff_eq.mpr c75
             clear c75
             have H' := Aside0.mk H
             clear H
             have hnb76 := NB639_627.out
             have hnc76 := NB627_639.out
             obtain ⟨hcz77_0, hcz77_1, hfz77_0, hfz77_1⟩ := blk2 BK639.out
             go_wp2
             go_roundg kj27
             case measure => have := HK1.out; have := HJ11.out; have := HJ23.out; have := HJ27.out; omega
             case rel => exact ⟨(wrap64 (x9_1 + (((rd_T93 l2 x25_1).f1).size : Int))), (x10_1), (x12_27), (wrap64 (x25_1 + 1)), (x628000_27), (x628001_23), (x628002_23), (x628004_27), (u628000), (by rfl), (by rfl), (by rfl), (by rfl), (by rfl), (by rfl), H', ⟨by have := HK1.out; have := HJ11.out; have := HJ23.out; have := HJ27.out; omega⟩, ⟨Kd.S_st (Kd.S_mono HO_7.out (fun _ hk => ⟨hk.1, hk.2.1⟩))⟩, ⟨Kd.R_st (Kd.R_mono HO_628000.out (fun _ hk => trivial))⟩, ⟨blk_st BK627.out⟩, ⟨by with_reducible repeat exact HB.out⟩⟩
            ·rw [if_neg c75] at H
             have c75b0 := beq_eq_false_iff_ne.mpr c75
             have c75b1 := bne_iff_ne.mpr c75
             have H' := Aside0.mk H
             clear H
             have hnb78 := NB639_627.out
             have hnc78 := NB627_639.out
             obtain ⟨hcz79_0, hcz79_1, hfz79_0, hfz79_1⟩ := blk2 BK639.out
             go_wp2
             go_roundg kj27
             case measure => have := HK1.out; have := HJ11.out; have := HJ23.out; have := HJ27.out; omega
             case rel => exact ⟨(wrap64 (x9_1 + (((rd_T93 l2 x25_1).f1).size : Int))), (wrap64 (x10_1 + (((rd_T93 l2 x25_1).f1).size : Int))), (x12_27), (wrap64 (x25_1 + 1)), (x628000_27), (x628001_23), (x628002_23), (x628004_27), (u628000), (by rfl), (by rfl), (by rfl), (by rfl), (by rfl), (by rfl), H', ⟨by have := HK1.out; have := HJ11.out; have := HJ23.out; have := HJ27.out; omega⟩, ⟨Kd.S_st (Kd.S_mono HO_7.out (fun _ hk => ⟨hk.1, hk.2.1⟩))⟩, ⟨Kd.R_st (Kd.R_mono HO_628000.out (fun _ hk => trivial))⟩, ⟨blk_st BK627.out⟩, ⟨by with_reducible repeat exact HB.out⟩⟩
    ·rw [if_neg c9] at H
     have c9b0 := decide_eq_false c9
     clear c9
     by_cases c80 : (x628000_1.length : Int) = 0
     ·rw [if_pos c80] at H
      have c80b0 := beq_iff_eq.mpr c80
      have c80b1 := bne_eq_false_iff_eq.mpr c80
      clear c80
      obtain rfl := Option.some.inj H
      obtain ⟨hcz81_0, hcz81_1, hcz81_2, hcz81_3, hcz81_4, hfz81_0, hfz81_1, hfz81_2, hfz81_3, hfz81_4⟩ := blk5 BK627.out
      obtain ⟨Ao82, co82, eo82⟩ := Kd.R_slice HO_628000.out
      subst eo82
      go_wp2
      go_ret
      exact ⟨_, by rfl, Kd.S_st (Kd.S_mono HO_7.out (fun _ hk => trivial)), by with_reducible repeat exact HB.out⟩
     ·rw [if_neg c80] at H
      have c80b0 := beq_eq_false_iff_ne.mpr c80
      have c80b1 := bne_iff_ne.mpr c80
      have c80b2 : ¬ (x628000_1 = []) := fun h_ => c80 (by rw [h_]; rfl)
      replace H := Option.bind_eq_some_iff.mp H
      obtain ⟨⟨t628, t631, t632, t633, t634⟩, A830, H⟩ := H
      try dsimp only at H
      have A83 := Aside0.mk A830
      clear A830
      replace H := yes_ H; obtain ⟨c84, H⟩ := H
      have LMc84 := Aside0.mk c84
      clear c84
      obtain ⟨y635, hy635⟩ : ∃ y_ : List (S67), y_ = (y624 ++ [(⟨t628, t631, t632, t633, t634⟩ : S67)]) := ⟨_, rfl⟩
      replace H : (some y635) = some r := by (rw [hy635]; with_reducible exact H)
      have Ny635 := Aside0.mk hy635
      clear hy635
      obtain rfl := Option.some.inj H
      obtain ⟨hcz85_0, hcz85_1, hcz85_2, hcz85_3, hcz85_4, hfz85_0, hfz85_1, hfz85_2, hfz85_3, hfz85_4⟩ := blk5 BK627.out
      obtain ⟨Ao86, co86, eo86⟩ := Kd.R_slice HO_628000.out
      subst eo86
      go_wp2_with (first | (go_at_call 95; (with_reducible refine (p_PatchAddContext.calls k1 a0 _ _ x628000_1 x628001_1 x628002_1 0 x628004_1 a1 t628 t631 t632 t633 t634 _ ?side1 ?side2 ?side3 A83.out).mono ?_); (case side1 => exact dmp_below HD0.out (by with_reducible repeat exact HB.out)); (case side2 => repeat (exact (Kd.R_reads' HO_628000.out).2.2)); (case side3 => exact (Kd.R_reads' HO_628000.out).2.1); rintro e w87 ⟨v629, rfl, ho0, hb⟩; replace HO_7 := aS_ (Kd.S_elder' (Kd.S_st HO_7.out) (Kd.R_base ho0) hb); have HO630 := aS_ (Kd.R_lower (Kd.R_new' ho0 (Kd.R_lt (Kd.R_st HO_628000.out))) (bz_ (by with_reducible repeat exact HB.out))); replace HO_628000 := aS_ (Kd.R_elder' (Kd.R_st HO_628000.out) (Kd.R_base ho0) hb); replace BK627 := aS_ (blk_below (g := gb627) (o := .cells #[.slice Ao86 x628000_1.length co86, .int .i64 x628001_1, .int .i64 x628002_1, .int .i64 0, .int .i64 x628004_1] 67 (0, 0)) (blk_st BK627.out) hb); replace HB := aS_ (bt_ (by with_reducible repeat exact HB.out) hb); obtain ⟨Ao88, co88, eo88⟩ := Kd.R_slice HO630.out; subst eo88; obtain ⟨hcz89_0, hcz89_1, hcz89_2, hcz89_3, hcz89_4, hfz89_0, hfz89_1, hfz89_2, hfz89_3, hfz89_4⟩ := blk5 BK627.out) | ((with_reducible refine gate_store (t := 67) (p := 8) rfl ?_); refine store_event (t := 67) (p := 8) (v := ?vo_w90) (w1 := (((((w87.setCell ⟨gb627, 0, none⟩ (.slice Ao88 t628.length co88)).setCell ⟨gb627, 1, none⟩ (.int .i64 t631)).setCell ⟨gb627, 2, none⟩ (.int .i64 t632)).setCell ⟨gb627, 3, none⟩ (.int .i64 t633)).setCell ⟨gb627, 4, none⟩ (.int .i64 t634))) ?hg ?ho ?hn ?hr ?_; (case ho => rfl); (case hg => rfl); (case hn => rfl); (case hr => (go_simp; done)); intro w90 hw; have n0_ : Aside0 (Kd.S k67 67 w90 w.heap.size (fun k_ => some k_ ≠ (.slice Ao86 x628000_1.length co86 : Value).ownBlock ∧ some k_ ≠ (.slice Ao88 t628.length co88 : Value).ownBlock ∧ k_ ≠ gb627) v625 y624) := ⟨(by rw [hw]; exact (Kd.S_st (Kd.S_mono (Kd.S_far (p := ⟨gb627, 4, none⟩) (Kd.S_far (p := ⟨gb627, 3, none⟩) (Kd.S_far (p := ⟨gb627, 2, none⟩) (Kd.S_far (p := ⟨gb627, 1, none⟩) (Kd.S_far (p := ⟨gb627, 0, none⟩) (Kd.S_mono HO_7.out (fun k_ hk => (⟨hk, hk.1.2⟩ : _ ∧ k_ ≠ gb627))) (fun _ hk => hk.2) (.slice Ao88 t628.length co88)) (fun _ hk => hk.2) (.int .i64 t631)) (fun _ hk => hk.2) (.int .i64 t632)) (fun _ hk => hk.2) (.int .i64 t633)) (fun _ hk => hk.2) (.int .i64 t634)) (fun _ hk => ⟨hk.1.1.1, ⟨hk.1.2, hk.1.1.2⟩⟩))))⟩; have n1_ : Aside0 (Kd.R k93 93 w90 w.heap.size (fun k_ => some k_ ≠ (.slice Ao88 t628.length co88 : Value).ownBlock) (.slice Ao86 x628000_1.length co86) x628000_1) := ⟨(by rw [hw]; exact (Kd.R_st (Kd.R_mono (Kd.R_far (p := ⟨gb627, 4, none⟩) (Kd.R_far (p := ⟨gb627, 3, none⟩) (Kd.R_far (p := ⟨gb627, 2, none⟩) (Kd.R_far (p := ⟨gb627, 1, none⟩) (Kd.R_far (p := ⟨gb627, 0, none⟩) (Kd.R_types HO_628000.out BK627.out (by decide)) (fun _ hk => hk.2) (.slice Ao88 t628.length co88)) (fun _ hk => hk.2) (.int .i64 t631)) (fun _ hk => hk.2) (.int .i64 t632)) (fun _ hk => hk.2) (.int .i64 t633)) (fun _ hk => hk.2) (.int .i64 t634)) (fun _ hk => hk.1.2))))⟩; have n2_ : Aside0 (Kd.R k93 93 w90 w.heap.size (fun k_ => some k_ ≠ (.slice Ao86 x628000_1.length co86 : Value).ownBlock) (.slice Ao88 t628.length co88) t628) := ⟨(by rw [hw]; exact (Kd.R_st (Kd.R_mono (Kd.R_far (p := ⟨gb627, 4, none⟩) (Kd.R_far (p := ⟨gb627, 3, none⟩) (Kd.R_far (p := ⟨gb627, 2, none⟩) (Kd.R_far (p := ⟨gb627, 1, none⟩) (Kd.R_far (p := ⟨gb627, 0, none⟩) (Kd.R_types HO630.out BK627.out (by decide)) (fun _ hk => hk.2) (.slice Ao88 t628.length co88)) (fun _ hk => hk.2) (.int .i64 t631)) (fun _ hk => hk.2) (.int .i64 t632)) (fun _ hk => hk.2) (.int .i64 t633)) (fun _ hk => hk.2) (.int .i64 t634)) (fun _ hk => hk.1.2))))⟩; have n3_ : Aside0 (w90.heap[gb627]? = some (.cells #[.slice Ao88 t628.length co88, .int .i64 t631, .int .i64 t632, .int .i64 t633, .int .i64 t634] 67 (0, 0))) := ⟨(by rw [hw]; exact (by (with_reducible skip); refine blk_put (cs := #[.slice Ao88 t628.length co88, .int .i64 t631, .int .i64 t632, .int .i64 t633, .int .i64 x628004_1]) ?_ 4 _ rfl; (with_reducible skip); refine blk_put (cs := #[.slice Ao88 t628.length co88, .int .i64 t631, .int .i64 t632, .int .i64 0, .int .i64 x628004_1]) ?_ 3 _ rfl; (with_reducible skip); refine blk_put (cs := #[.slice Ao88 t628.length co88, .int .i64 t631, .int .i64 x628002_1, .int .i64 0, .int .i64 x628004_1]) ?_ 2 _ rfl; (with_reducible skip); refine blk_put (cs := #[.slice Ao88 t628.length co88, .int .i64 x628001_1, .int .i64 x628002_1, .int .i64 0, .int .i64 x628004_1]) ?_ 1 _ rfl; (with_reducible skip); refine blk_put (cs := #[.slice Ao86 x628000_1.length co86, .int .i64 x628001_1, .int .i64 x628002_1, .int .i64 0, .int .i64 x628004_1]) ?_ 0 _ rfl; (with_reducible skip); exact BK627.out))⟩; have n4_ : Aside0 (Below w.heap.size w w90) := ⟨(by rw [hw]; exact (by with_reducible repeat first | exact HB.out | refine bS_ ?_ GE627.out))⟩; clear hw; clear HO_7; clear HO_628000; clear HO630; clear BK627; clear HB; have HO_7 := n0_; have HO_628000 := n1_; have HO630 := n2_; have BK627 := n3_; have HB := n4_; clear n0_ n1_ n2_ n3_ n4_; obtain ⟨hcz91_0, hcz91_1, hcz91_2, hcz91_3, hcz91_4, hfz91_0, hfz91_1, hfz91_2, hfz91_3, hfz91_4⟩ := blk5 BK627.out) | ((with_reducible refine gate_builtin (b := .append) (xs := #[.tmp 189, .tmp 191]) rfl ?_); (try (refine gate_guard (by rfl) ?_; dsimp only)); at_builtin; refine Kd.S_append k67 (w0 := w) w.heap.size rfl (.tmp 189) (.tmp 191) 52 67 (.agg #[(.slice none 0 0), (.int .i64 0), (.int .i64 0), (.int .i64 0), (.int .i64 0)]) 56 rfl Tryz.underlying52 info67 rfl (by decide) (by omega) v625 y624 (⟨t628, t631, t632, t633, t634⟩ : S67) [.slice Ao88 t628.length co88, .int .i64 t631, .int .i64 t632, .int .i64 t633, .int .i64 t634] (fun k_ => some k_ ≠ (.slice Ao86 x628000_1.length co86 : Value).ownBlock ∧ k_ ≠ gb627) (fun k_ => some k_ = (.slice Ao88 t628.length co88 : Value).ownBlock) rfl rfl ?aP (fun k_ hk_ => ((Kd.R_mono (ok' := fun k_ => ((fun k_ => some k_ ≠ (.slice Ao86 x628000_1.length co86 : Value).ownBlock ∧ k_ ≠ gb627)) k_ ∧ some k_ ≠ (v625 : Value).ownBlock) (Kd.R_types (Kd.R_apart' (HO630.out) (Kd.S_typed HO_7.out) (by decide)) BK627.out (by decide)) (fun k_ hk => ⟨⟨hk.1.1, hk.2⟩, hk.1.2⟩))).1 k_ hk_.symm) ?aF ?aO ?aB ?aS ?aL ?_; (case aP => exact k67_mkM _ _ _ (⟨t628, t631, t632, t633, t634⟩ : S67) (Kd.R_mono (Kd.R_tight rfl (Kd.R_mono (ok' := fun k_ => ((fun k_ => some k_ ≠ (.slice Ao86 x628000_1.length co86 : Value).ownBlock ∧ k_ ≠ gb627)) k_ ∧ some k_ ≠ (v625 : Value).ownBlock) (Kd.R_types (Kd.R_apart' (HO630.out) (Kd.S_typed HO_7.out) (by decide)) BK627.out (by decide)) (fun k_ hk => ⟨⟨hk.1.1, hk.2⟩, hk.1.2⟩))) (fun _ h_ => h_))); (case aB => exact (by with_reducible repeat exact HB.out)); (case aF => exact (fun k_ hk => ⟨Kd.fresh' (Kd.R_lt (Kd.R_st HO_628000.out)) k_ hk, Kd.freshB (g := gb627) (o := .cells #[.slice Ao88 t628.length co88, .int .i64 t631, .int .i64 t632, .int .i64 t633, .int .i64 t634] 67 (0, 0)) (blk_st BK627.out) k_ hk⟩)); (case aO => exact (Kd.S_st (Kd.S_mono HO_7.out (fun k_ hk => ⟨⟨hk.1, hk.2.2⟩, fun e_ => hk.2.1 e_⟩)))); (case aS => exact (bz_ (by with_reducible repeat exact HB.out))); (case aL => have := LMc84.out; omega); intro v636 w92 ho hb hg hat; rw [← Ny635.out] at ho; replace HO_628000 := aS_ (Kd.R_over' (Kd.R_st HO_628000.out) (Kd.S_typed (Kd.S_st HO_7.out)) (by decide) hg); replace BK627 := aS_ (blk_grown (g := gb627) (o := .cells #[.slice Ao88 t628.length co88, .int .i64 t631, .int .i64 t632, .int .i64 t633, .int .i64 t634] 67 (0, 0)) (blk_st BK627.out) hg (Kd.S_away HO_7.out (fun _ hk => hk.2.2))); replace HB := aS_ (hb); have HO637 := aS_ (ho); clear HO_7 HO630; clear ho hb hg hat))
      go_ret
      exact ⟨_, by rfl, Kd.S_st (Kd.S_mono HO637.out (fun _ hk => trivial)), by with_reducible repeat exact HB.out⟩
def p_PatchSplitMax.l0 : Nat → List (S67) → Int → Int → Option ((List (S67)))
 | 0, _, _, _ => none
 | k + 1, x1, x5, x6 => if x6 < (x1.length : Int) then (if 0 ≤ x6 then (if ((rd_T67 x1 x6).f3) ≤ x5 then (p_PatchSplitMax.l0 k x1 x5 (wrap64 (x6 + 1))) else (none)) else (none)) else (some x1)
def p_PatchSplitMax.f (k : Nat) (a0 : Nat) (l1 : List (S67)) : Option ((List (S67))) := p_PatchSplitMax.l0 k l1 32 0
theorem p_PatchSplitMax.calls (k : Nat) (a0 : Nat) (P1_ : Nat → Prop) (A1 : Option Addr) (c1 : Nat) (l1 : List (S67)) (r : List (S67)) (w : World) (hd0 : DmpAt w a0) (hs1 : Kd.V k67 67 w w.heap.size (fun k_ => P1_ k_) (.slice A1 l1.length c1) l1) (h : p_PatchSplitMax.f k a0 l1 = some r) :
  Calls Tryz.prog 56 #[.pointer (some ⟨a0, 0, none⟩), .slice A1 l1.length c1] w fun e w' => ∃ v0_ : Value, e = .returned (v0_) ∧ Kd.V k67 67 w' w.heap.size (fun k_ => (P1_ k_ ∨ w.heap.size ≤ k_)) v0_ r ∧ Below w.heap.size w w' := by
 have HD0 := Aside0.mk hd0
 clear hd0
 have HO1 := aS_ (show Kd.V k67 67 w w.heap.size (fun k_ => (P1_ k_ ∨ w.heap.size ≤ k_)) (.slice A1 l1.length c1) l1 from Kd.V_mono hs1 (fun k_ hk => .inl hk))
 have HB := aS_ (Below.refl w.heap.size w)
 have H : (p_PatchSplitMax.l0 k l1 32 0) = some r := h
 clear h
 have H' := Aside0.mk H
 clear H
 have hdm3 := dmp_cell5 (dmp_below HD0.out HB.out)
 go_enter Tryz.func56, Tryz.ntmps56
 go_wp2
 go_loopg [6, 1] k (fun kq v6 v1 w' => ∃ (x6_1 : Int), v6 = .int .i64 x6_1 ∧ (.slice A1 l1.length c1 : Value) = v1 ∧ Aside0 (p_PatchSplitMax.l0 kq l1 32 x6_1 = some r) ∧ Aside0 (kq ≤ k) ∧ Aside0 (Kd.V k67 67 w' w.heap.size (fun k_ => (P1_ k_ ∨ w.heap.size ≤ k_)) (.slice A1 l1.length c1) l1) ∧ Aside0 (Below w.heap.size w w'))
 case atStart => exact ⟨(0), (by first | rfl | simp [*]), (by first | rfl | simp [*]), H', ⟨Nat.le_refl _⟩, ⟨by (with_reducible repeat (first | apply Kd.V_alloc | apply Kd.V_drewN | apply Kd.V_drew)); exact HO1.out⟩, ⟨bel_ HB.out⟩⟩
 case round =>
  clear H'
  obtain ⟨x6_1, rfl, rfl, HA, HK1, HO_1, HB⟩ := hrel
  cases gk with
  | zero => exact absurd HA.out (by simp [p_PatchSplitMax.l0])
  | succ k1 =>
   have H := HA.out; clear HA
   simp only [p_PatchSplitMax.l0] at H
   by_cases c4 : x6_1 < (l1.length : Int)
   ·rw [if_pos c4] at H
    have c4b0 := decide_eq_true c4
    clear c4
    replace H := yes_ H; obtain ⟨c5, H⟩ := H
    have c5b0 := decide_eq_true c5
    clear c5
    replace H := yes_ H; obtain ⟨c6, H⟩ := H
    have c6b0 := decide_eq_true c6
    clear c6
    have H' := Aside0.mk H
    clear H
    have p200 : 0 ≤ (x6_1 : Int) := of_decide_eq_true (by assumption)
    have q200 : x6_1 < (l1.length : Int) := of_decide_eq_true (by assumption)
    obtain ⟨ad200, A200_0, c200_0, e200, hx200_0, hx200_1, hx200_2, hx200_3, hx200_4, hl200_0, hi200_0⟩ := at_T67 (Kd.V_reads' HO_1.out).2.2 x6_1 p200 q200
    cases e200
    obtain ⟨ce200, hce200, hMe200, hcc200⟩ := Kd.V_get HO_1.out z67 x6_1 p200 (by first | exact q200 | exact of_decide_eq_true (by assumption) | (have e_ := (Kd.V_reads' HO_1.out).1; omega))
    obtain ⟨ua200_0, uc200_0, rfl, ul200_0, ge200_0⟩ := k67_openF hMe200
    have hv200_0 := hcc200 0 _ rfl
    rw [Nat.add_zero] at hv200_0
    replace hv200_0 := Option.some.inj (hv200_0.symm.trans hx200_0)
    injection hv200_0 with hva_ hvn_ hvc_
    rw [hva_] at ge200_0
    rw [hvc_] at ul200_0
    have HL200_0 := aS_ (show Kd.V k93 93 _ w.heap.size _ _ ((rd_T67 l1 x6_1).f0) from Kd.V_mk ul200_0 ge200_0)
    clear hva_ hvn_ hvc_ ge200_0 ul200_0
    clear hcc200 hce200
    have HR200_0 := Aside0.mk hi200_0
    have HC200_0 := Aside0.mk hl200_0
    clear hi200_0 hl200_0
    replace p200 := eq_true p200
    replace q200 := eq_true q200
    go_wp2
    go_roundg k1
    case measure => have := HK1.out; omega
    case rel => exact ⟨(wrap64 (x6_1 + 1)), (by first | rfl | simp [*]), (by first | rfl | simp [*]), H', ⟨by have := HK1.out; omega⟩, ⟨by (with_reducible repeat (first | apply Kd.V_alloc | apply Kd.V_drewN | apply Kd.V_drew)); exact HO_1.out⟩, ⟨bel_ HB.out⟩⟩
   ·rw [if_neg c4] at H
    have c4b0 := decide_eq_false c4
    clear c4
    obtain rfl := Option.some.inj H
    go_wp2
    go_ret
    exact ⟨_, by first | rfl | (simp [*, errW_none, errW_some] <;> rfl), by (with_reducible repeat (first | apply Kd.V_alloc | apply Kd.V_drewN | apply Kd.V_drew)); exact HO_1.out, bel_ HB.out⟩
def p_MatchMain.f (a0 : Nat) (a1 : ByteArray) (a2 : ByteArray) (a3 : Int) : Option (Int) := (math_Min.f (Value.float .f64 (FloatKind.f64.nearest a3)) (Value.float .f64 (FloatKind.f64.nearest (a1.size : Int)))).bind fun t211 => ((math_Max.f (Value.float .f64 0) t211).bind fun t212 => (if f2iOk t212 = true then (if a1.toList = a2.toList then (none) else (if (a1.size : Int) = 0 then (none) else (if (wrap64 ((f2i t212) + (a2.size : Int))) ≤ (a1.size : Int) then (if 0 ≤ (f2i t212) then (if (f2i t212) ≤ (wrap64 ((f2i t212) + (a2.size : Int))) then (if (a1.extract ((f2i t212) : Int).toNat ((wrap64 ((f2i t212) + (a2.size : Int))) : Int).toNat).toList = a2.toList then (some (f2i t212)) else (none)) else (none)) else (none)) else (none)))) else (none)))
theorem p_MatchMain.calls (a0 : Nat) (a1 : ByteArray) (a2 : ByteArray) (a3 : Int) (r : Int) (w : World) (hd0 : DmpAt w a0) (h : p_MatchMain.f a0 a1 a2 a3 = some r) :
  Calls Tryz.prog 58 #[.pointer (some ⟨a0, 0, none⟩), .string a1, .string a2, .int .i64 a3] w fun e w' => e = .returned (.int .i64 r) ∧ Drawn0 w w' := by
 have HD0 := Aside0.mk hd0
 clear hd0
 have H : ((math_Min.f (Value.float .f64 (FloatKind.f64.nearest a3)) (Value.float .f64 (FloatKind.f64.nearest (a1.size : Int)))).bind fun t211 => ((math_Max.f (Value.float .f64 0) t211).bind fun t212 => (if f2iOk t212 = true then (if a1.toList = a2.toList then (none) else (if (a1.size : Int) = 0 then (none) else (if (wrap64 ((f2i t212) + (a2.size : Int))) ≤ (a1.size : Int) then (if 0 ≤ (f2i t212) then (if (f2i t212) ≤ (wrap64 ((f2i t212) + (a2.size : Int))) then (if (a1.extract ((f2i t212) : Int).toNat ((wrap64 ((f2i t212) + (a2.size : Int))) : Int).toNat).toList = a2.toList then (some (f2i t212)) else (none)) else (none)) else (none)) else (none)))) else (none)))) = some r := h
 clear h
 replace H := Option.bind_eq_some_iff.mp H
 obtain ⟨t211, A50, H⟩ := H
 have A5 := Aside0.mk A50
 clear A50
 replace H := Option.bind_eq_some_iff.mp H
 obtain ⟨t212, A60, H⟩ := H
 have A6 := Aside0.mk A60
 clear A60
 replace H := yes_ H; obtain ⟨c7, H⟩ := H
 have c7b1 := decide_eq_true c7
 clear c7
 by_cases c8 : a1.toList = a2.toList
 ·rw [if_pos c8] at H
  exact absurd H (by simp)
 ·rw [if_neg c8] at H
  have c8b0 := beq_eq_false_iff_ne.mpr c8
  have c8b1 := bne_iff_ne.mpr c8
  by_cases c9 : (a1.size : Int) = 0
  ·rw [if_pos c9] at H
   exact absurd H (by simp)
  ·rw [if_neg c9] at H
   have c9b0 := beq_eq_false_iff_ne.mpr c9
   have c9b1 := bne_iff_ne.mpr c9
   replace H := yes_ H; obtain ⟨c10, H⟩ := H
   have c10b0 := decide_eq_true c10
   clear c10
   replace H := yes_ H; obtain ⟨c11, H⟩ := H
   have c11b0 := eq_true c11
   have c11b1 := decide_eq_true c11
   clear c11
   replace H := yes_ H; obtain ⟨c12, H⟩ := H
   have c12b0 := eq_true c12
   have c12b1 := decide_eq_true c12
   have c13b0 := eq_true (of_decide_eq_true (by assumption) : (wrap64 ((f2i t212) + (a2.size : Int))) ≤ (a1.size : Int))
   replace H := yes_ H; obtain ⟨c14, H⟩ := H
   have c14b0 := beq_iff_eq.mpr c14
   have c14b1 := bne_eq_false_iff_eq.mpr c14
   clear c14
   obtain rfl := Option.some.inj H
   have hffi15 := run_i2f (P := Tryz.prog) Tryz.underlying3 Tryz.underlying48
   have hffi16 := run_i2f (P := Tryz.prog) Tryz.underlying3 Tryz.underlying48
   go_enter Tryz.func58, Tryz.ntmps58
   go_wp2_with (first | ((with_reducible refine gate_callee (f := 59) rfl ?_); refine goesL_ (some 14) rfl rfl Tryz.func59 (by kernel_rfl) rfl #[(Value.float .f64 (FloatKind.f64.nearest a3)), (Value.float .f64 (FloatKind.f64.nearest (a1.size : Int)))] rfl (by (try simp only [List.map_toArray, List.map_cons, List.map_nil]); rfl) ?_; (with_reducible refine (math_Min.calls (Value.float .f64 (FloatKind.f64.nearest a3)) (Value.float .f64 (FloatKind.f64.nearest (a1.size : Int))) t211 _ A5.out).mono ?_); rintro e w' ⟨rfl, ⟨nd, rfl⟩⟩; refine ⟨_, rfl, ?_⟩) | ((with_reducible refine gate_callee (f := 83) rfl ?_); refine goesL_ (some 15) rfl rfl Tryz.func83 (by kernel_rfl) rfl #[(Value.float .f64 0), t211] rfl (by (try simp only [List.map_toArray, List.map_cons, List.map_nil]); rfl) ?_; (with_reducible refine (math_Max.calls (Value.float .f64 0) t211 t212 _ A6.out).mono ?_); rintro e w' ⟨rfl, ⟨nd, rfl⟩⟩; refine ⟨_, rfl, ?_⟩; have hffi17 := run_f2i (P := Tryz.prog) Tryz.underlying48 Tryz.underlying3 (x := t212) (of_decide_eq_true (by assumption))))
   go_ret
   exact ⟨by rfl, by repeat (first | exact Drawn0.refl _ | apply Drawn0.step)⟩
def p_PatchApply.l0 : Nat → Nat → ByteArray → ByteArray → Int → Int → List Bool → List (S67) → Int → Int → Option (ByteArray × List Bool)
 | 0, _, _, _, _, _, _, _, _, _ => none
 | k + 1, x0, x2, x8, x9, x10, x11, x47, x48, x49 => if x49 < x48 then (if 0 ≤ x49 then (if x49 < (x47.length : Int) then ((p_DiffText1.f k x0 ((rd_T67 x47 x49).f0)).bind fun t595 => (if (t595.size : Int) > 32 then (none) else ((p_MatchMain.f x0 x2 t595 (wrap64 (((rd_T67 x47 x49).f2) + x10))).bind fun t596 => (if t596 = (-1) then (none) else (if 0 ≤ x9 then (if x9 < (x11.length : Int) then (if (-1) = (-1) then ((math_Min.f (Value.float .f64 (FloatKind.f64.nearest (wrap64 (t596 + (t595.size : Int))))) (Value.float .f64 (FloatKind.f64.nearest (x2.size : Int)))).bind fun t598 => (if f2iOk t598 = true then (if 0 ≤ t596 then (if t596 ≤ (f2i t598) then (if (f2i t598) ≤ (x2.size : Int) then (if t595.toList = (x2.extract (t596 : Int).toNat ((f2i t598) : Int).toNat).toList then (if t596 ≤ (x2.size : Int) then ((p_DiffText2.f k x0 ((rd_T67 x47 x49).f0)).bind fun t599 => (if (x2.extract 0 (t596 : Int).toNat).size + t599.size ≤ 9223372036854775807 then (if 0 ≤ (wrap64 (t596 + (t595.size : Int))) then (if (wrap64 (t596 + (t595.size : Int))) ≤ (x2.size : Int) then (if ((x2.extract 0 (t596 : Int).toNat) ++ t599).size + (x2.extract ((wrap64 (t596 + (t595.size : Int))) : Int).toNat x2.size).size ≤ 9223372036854775807 then (p_PatchApply.l0 k x0 (((x2.extract 0 (t596 : Int).toNat) ++ t599) ++ (x2.extract ((wrap64 (t596 + (t595.size : Int))) : Int).toNat x2.size)) x8 (wrap64 (x9 + 1)) (wrap64 (t596 - (wrap64 (((rd_T67 x47 x49).f2) + x10)))) (x11.set (x9 : Int).toNat true) x47 x48 (wrap64 (x49 + 1))) else (none)) else (none)) else (none)) else (none))) else (none)) else (none)) else (none)) else (none)) else (none)) else (none))) else (none)) else (none)) else (none)))))) else (none)) else (none)) else (if 0 ≤ (x8.size : Int) then (if (x8.size : Int) ≤ (wrap64 ((x8.size : Int) + (wrap64 ((x2.size : Int) - (wrap64 (2 * (x8.size : Int))))))) then (if (wrap64 ((x8.size : Int) + (wrap64 ((x2.size : Int) - (wrap64 (2 * (x8.size : Int))))))) ≤ (x2.size : Int) then (some (x2.extract x8.size ((wrap64 ((x8.size : Int) + (wrap64 ((x2.size : Int) - (wrap64 (2 * (x8.size : Int))))))) : Int).toNat, x11)) else (none)) else (none)) else (none))
def p_PatchApply.f (k : Nat) (a0 : Nat) (l1 : List (S67)) (a2 : ByteArray) : Option (ByteArray × List Bool) := if (l1.length : Int) = 0 then (none) else ((p_PatchDeepCopy.f k a0 l1).bind fun t583 => ((padf t583).bind fun (t586, t583b) => (if t586.size + a2.size ≤ 9223372036854775807 then (if (t586 ++ a2).size + t586.size ≤ 9223372036854775807 then ((p_PatchSplitMax.f k a0 t583b).bind fun t587 => (if 0 ≤ (t587.length : Int) then (if ((t587.length : Int) : Int).toNat ≤ 281474976710656 then (p_PatchApply.l0 k a0 ((t586 ++ a2) ++ t586) t586 0 0 (List.replicate ((t587.length : Int) : Int).toNat false) t587 (t587.length : Int) 0) else (none)) else (none))) else (none)) else (none))))
def p_PatchApply.T34 : Bool × List (List Nat × List Nat) := (true, [([], []), ([], []), ([0, 1], [0, 1]), ([], []), ([], []), ([4], [4]), ([3, 5], [3, 5]), ([2, 6], [2, 6]), ([], []), ([], []), ([], []), ([10], [10]), ([9, 11], [9, 11]), ([8, 12], [8, 12]), ([7, 13], [7, 13]), ([14, 6, 0, 1, 2, 3, 4, 5, 6, 7, 8, 9, 10, 11, 12, 13, 14], [0, 8, 14])])
def p_PatchApply.B34 : List Nat := [0, 0, 3, 0, 0, 16, 56, 127, 0, 0, 0, 1024, 3584, 7936, 16383, 32767]
theorem p_PatchApply.tab34 : rtab .any (opsOf Tryz.f34 34) = p_PatchApply.T34 := by kernel_rfl
theorem p_PatchApply.bits34 : waitsOk p_PatchApply.T34.2 p_PatchApply.B34 = true := by kernel_rfl
theorem p_PatchApply.calls (k : Nat) (a0 : Nat) (A1 : Option Addr) (c1 : Nat) (l1 : List (S67)) (a2 : ByteArray) (r1 : ByteArray) (r2 : List Bool) (w : World) (hd0 : DmpAt w a0) (hr1 : Kd.C k67 w A1 l1.length l1) (hc1 : l1.length ≤ c1) (h : p_PatchApply.f k a0 l1 a2 = some (r1, r2)) :
  Calls Tryz.prog 34 #[.pointer (some ⟨a0, 0, none⟩), .slice A1 l1.length c1, .string a2] w fun e w' => ∃ v1_ : Value, e = .returned (.tuple #[.string r1, v1_]) ∧ Kd.R Kd.bool 4 w' w.heap.size (fun _ => True) v1_ r2 ∧ Below w.heap.size w w' := by
 have hu67 := Tryz.underlying67
 have HD0 := Aside0.mk hd0
 clear hd0
 have HR1 := Aside0.mk hr1
 have HC1 := Aside0.mk hc1
 clear hr1 hc1
 have HB := aS_ (Below.refl w.heap.size w)
 have H : (if (l1.length : Int) = 0 then (none) else ((p_PatchDeepCopy.f k a0 l1).bind fun t583 => ((padf t583).bind fun (t586, t583b) => (if t586.size + a2.size ≤ 9223372036854775807 then (if (t586 ++ a2).size + t586.size ≤ 9223372036854775807 then ((p_PatchSplitMax.f k a0 t583b).bind fun t587 => (if 0 ≤ (t587.length : Int) then (if ((t587.length : Int) : Int).toNat ≤ 281474976710656 then (p_PatchApply.l0 k a0 ((t586 ++ a2) ++ t586) t586 0 0 (List.replicate ((t587.length : Int) : Int).toNat false) t587 (t587.length : Int) 0) else (none)) else (none))) else (none)) else (none))))) = some (r1, r2) := h
 clear h
 by_cases c4 : (l1.length : Int) = 0
 ·rw [if_pos c4] at H
  exact absurd H (by simp)
 ·rw [if_neg c4] at H
  have c4b0 := beq_eq_false_iff_ne.mpr c4
  have c4b1 := bne_iff_ne.mpr c4
  have c4b2 : ¬ (l1 = []) := fun h_ => c4 (by rw [h_]; rfl)
  replace H := Option.bind_eq_some_iff.mp H
  obtain ⟨t583, A50, H⟩ := H
  try dsimp only at H
  have A5 := Aside0.mk A50
  clear A50
  replace H := Option.bind_eq_some_iff.mp H
  obtain ⟨⟨t586, t583b⟩, A60, H⟩ := H
  try dsimp only at H
  have A6 := Aside0.mk A60
  clear A60
  replace H := yes_ H; obtain ⟨c7, H⟩ := H
  have c7b0 := eq_true c7
  have c7b1 := decide_eq_true c7
  try have c7b2 : (9223372036854775807 < t586.size + a2.size) = False := eq_false (Nat.not_lt.2 c7)
  replace H := yes_ H; obtain ⟨c8, H⟩ := H
  have c8b0 := eq_true c8
  have c8b1 := decide_eq_true c8
  try have c8b2 : (9223372036854775807 < (t586 ++ a2).size + t586.size) = False := eq_false (Nat.not_lt.2 c8)
  try have c8b3 : (9223372036854775807 < t586.size + a2.size + t586.size) = False := eq_false (Nat.not_lt.2 (by have h_ := c8; simp only [ByteArray.size_append] at h_; exact h_))
  try have c8b4 : decide (t586.size + a2.size + t586.size ≤ 9223372036854775807) = true := decide_eq_true (by have h_ := c8; simp only [ByteArray.size_append] at h_; exact h_)
  replace H := Option.bind_eq_some_iff.mp H
  obtain ⟨t587, A90, H⟩ := H
  have A9 := Aside0.mk A90
  clear A90
  replace H := yes_ H; obtain ⟨c10, H⟩ := H
  have c10b0 := eq_true c10
  have c10b1 := decide_eq_true c10
  clear c10
  replace H := yes_ H; obtain ⟨c11, H⟩ := H
  have c11b0 := eq_true c11
  have c11b1 := decide_eq_true c11
  clear c11
  obtain ⟨y590, hy590⟩ : ∃ y_ : List Bool, y_ = (List.replicate ((t587.length : Int) : Int).toNat false) := ⟨_, rfl⟩
  replace H : (p_PatchApply.l0 k a0 ((t586 ++ a2) ++ t586) t586 0 0 y590 t587 (t587.length : Int) 0) = some (r1, r2) := by (rw [hy590]; with_reducible exact H)
  have Ny590 := Aside0.mk hy590
  clear hy590
  have H' := Aside0.mk H
  clear H
  go_enter Tryz.func34, Tryz.ntmps34
  go_wp2_with (first | (go_at_call 29; (with_reducible refine (p_PatchDeepCopy.calls k a0 _ _ l1 t583 _ ?side1 ?side2 ?side3 A5.out).mono ?_); (case side1 => exact dmp_below HD0.out (bel_ HB.out)); (case side2 => exact Kd.C_st HR1.out); (case side3 => exact HC1.out); rintro e w12 ⟨v584, rfl, ho0, hb⟩; have HO585 := aS_ (Kd.S_R (Kd.S_lower ho0 (bz_ (bel_ HB.out)))); replace HB := aS_ (bt_ (bel_ HB.out) hb); obtain ⟨Ao13, co13, eo13⟩ := Kd.R_slice HO585.out; subst eo13) | (go_at_call 55; (refine (pad_f a0 w _ _ _ _ _ _ (dmp_below HD0.out (bel_ HB.out)) (bel_ HB.out) (Kd.R_st HO585.out) A6.out).mono ?_); rintro e w14 ⟨rfl, ho0, hb⟩; clear HO585; clear HB; have HO585 := Aside0.mk ho0; have HB := Aside0.mk hb; clear ho0 hb) | (go_at_call 56; rw [show t583.length = t583b.length from padf_len A6.out]; (with_reducible refine (p_PatchSplitMax.calls k a0 (fun k_ => True) _ _ t583b t587 _ ?side1 ?side2 A9.out).mono ?_); (case side1 => exact dmp_below HD0.out (bel_ HB.out)); (case side2 => rw [show t583.length = t583b.length from padf_len A6.out] at HO585; exact Kd.R_V (HO585.out)); rintro e w15 ⟨v588, rfl, ho0, hb⟩; replace HO585 := aS_ (Kd.R_below (Kd.R_st HO585.out) hb); have HO589 := aS_ (Kd.V_lower (Kd.V_mono (ok' := fun k_ => True) ho0 (fun k_ hk_ => trivial)) (bz_ (bel_ HB.out))); replace HB := aS_ (bt_ (bel_ HB.out) hb); obtain ⟨Ao16, co16, eo16⟩ := Kd.V_slice HO589.out; subst eo16) | ((with_reducible refine gate_dst (N := 46) rfl ?_); refine Kd.R_make Kd.bool _ 4 rfl (N := 46) rfl 45 _ _ rfl (t587.length : Int) rfl rfl Tryz.underlying45 (.bool false) 1 info4 rfl (by decide) (by omega) false (ok := fun _ => True) (okp := fun _ => True) rfl (fun _ hk => hk) trivial (of_decide_eq_true (by assumption)) (Nat.le_trans (Nat.mul_le_mul_right _ (of_decide_eq_true (by assumption) : (t587.length : Int).toNat ≤ 281474976710656)) (by omega)) (Below.refl _ _) (Nat.le_refl _) ?_; intro v591 w17 ho18 hb hg_ hnew_; clear hg_ hnew_; (rw [← Ny590.out] at ho18); replace HO585 := aS_ (Kd.R_below (Kd.R_st HO585.out) hb); replace HO589 := aS_ (Kd.V_elder' (by (with_reducible skip); exact HO589.out) (Kd.R_base ho18) hb); have HO592 := aS_ (Kd.R_lower ho18 (bz_ (bel_ HB.out))); replace HB := aS_ (bt_ (bel_ HB.out) hb); clear hb ho18))
  go_loopg [2, 9, 10, 49] k (fun kq v2 v9 v10 v49 w' => ∃ (x2_1 : ByteArray) (x9_1 : Int) (x10_1 : Int) (x11_1 : List Bool) (x49_1 : Int), v2 = .string x2_1 ∧ v9 = .int .i64 x9_1 ∧ v10 = .int .i64 x10_1 ∧ v49 = .int .i64 x49_1 ∧ Aside0 (p_PatchApply.l0 kq a0 x2_1 t586 x9_1 x10_1 x11_1 t587 (t587.length : Int) x49_1 = some (r1, r2)) ∧ Aside0 (kq ≤ k) ∧ Aside0 (Kd.R Kd.bool 4 w' w.heap.size (fun _ => True) v591 x11_1) ∧ Aside0 (Kd.V k67 67 w' w.heap.size (fun k_ => some k_ ≠ (v591 : Value).ownBlock) (.slice Ao16 t587.length co16) t587) ∧ Aside0 (Below w.heap.size w w'))
  case atStart => exact ⟨((t586 ++ a2) ++ t586), (0), (0), (y590), (0), (by rfl), (by rfl), (by rfl), (by rfl), H', ⟨Nat.le_refl _⟩, ⟨Kd.R_st HO592.out⟩, ⟨by (with_reducible skip); exact Kd.V_mono HO589.out (fun _ hk => hk.2)⟩, ⟨bel_ HB.out⟩⟩
  case round =>
   clear H'
   obtain ⟨x2_1, x9_1, x10_1, x11_1, x49_1, rfl, rfl, rfl, rfl, HA, HK1, HO_11, HO_47, HB⟩ := hrel
   cases gk with
   | zero => exact absurd HA.out (by simp [p_PatchApply.l0])
   | succ k1 =>
    have H := HA.out; clear HA
    simp only [p_PatchApply.l0] at H
    by_cases c19 : x49_1 < (t587.length : Int)
    ·rw [if_pos c19] at H
     have c19b0 := decide_eq_true c19
     clear c19
     replace H := yes_ H; obtain ⟨c20, H⟩ := H
     have c20b0 := decide_eq_true c20
     clear c20
     replace H := yes_ H; obtain ⟨c21, H⟩ := H
     have c21b0 := decide_eq_true c21
     clear c21
     replace H := Option.bind_eq_some_iff.mp H
     obtain ⟨t595, A220, H⟩ := H
     have A22 := Aside0.mk A220
     clear A220
     by_cases c23 : (t595.size : Int) > 32
     ·rw [if_pos c23] at H
      exact absurd H (by simp)
     ·rw [if_neg c23] at H
      have c23b0 : decide (32 < (t595.size : Int)) = false := decide_eq_false c23
      have c23b1 : decide (32 < t595.size) = false := decide_eq_false (by omega)
      clear c23
      replace H := Option.bind_eq_some_iff.mp H
      obtain ⟨t596, A240, H⟩ := H
      have A24 := Aside0.mk A240
      clear A240
      by_cases c25 : t596 = (-1)
      ·rw [if_pos c25] at H
       exact absurd H (by simp)
      ·rw [if_neg c25] at H
       have c25b0 := beq_eq_false_iff_ne.mpr c25
       have c25b1 := bne_iff_ne.mpr c25
       replace H := yes_ H; obtain ⟨c26, H⟩ := H
       have c26b0 := decide_eq_true c26
       clear c26
       replace H := yes_ H; obtain ⟨c27, H⟩ := H
       have c27b0 := decide_eq_true c27
       clear c27
       obtain ⟨y597, hy597⟩ : ∃ y_ : List Bool, y_ = (x11_1.set (x9_1 : Int).toNat true) := ⟨_, rfl⟩
       replace H : (if (-1) = (-1) then ((math_Min.f (Value.float .f64 (FloatKind.f64.nearest (wrap64 (t596 + (t595.size : Int))))) (Value.float .f64 (FloatKind.f64.nearest (x2_1.size : Int)))).bind fun t598 => (if f2iOk t598 = true then (if 0 ≤ t596 then (if t596 ≤ (f2i t598) then (if (f2i t598) ≤ (x2_1.size : Int) then (if t595.toList = (x2_1.extract (t596 : Int).toNat ((f2i t598) : Int).toNat).toList then (if t596 ≤ (x2_1.size : Int) then ((p_DiffText2.f k1 a0 ((rd_T67 t587 x49_1).f0)).bind fun t599 => (if (x2_1.extract 0 (t596 : Int).toNat).size + t599.size ≤ 9223372036854775807 then (if 0 ≤ (wrap64 (t596 + (t595.size : Int))) then (if (wrap64 (t596 + (t595.size : Int))) ≤ (x2_1.size : Int) then (if ((x2_1.extract 0 (t596 : Int).toNat) ++ t599).size + (x2_1.extract ((wrap64 (t596 + (t595.size : Int))) : Int).toNat x2_1.size).size ≤ 9223372036854775807 then (p_PatchApply.l0 k1 a0 (((x2_1.extract 0 (t596 : Int).toNat) ++ t599) ++ (x2_1.extract ((wrap64 (t596 + (t595.size : Int))) : Int).toNat x2_1.size)) t586 (wrap64 (x9_1 + 1)) (wrap64 (t596 - (wrap64 (((rd_T67 t587 x49_1).f2) + x10_1)))) y597 t587 (t587.length : Int) (wrap64 (x49_1 + 1))) else (none)) else (none)) else (none)) else (none))) else (none)) else (none)) else (none)) else (none)) else (none)) else (none))) else (none)) = some (r1, r2) := by (rw [hy597]; exact H)
       have Ny597 := Aside0.mk hy597
       clear hy597
       replace H := yes_ H; obtain ⟨c29, H⟩ := H
       have c29b0 := beq_iff_eq.mpr c29
       have c29b1 := bne_eq_false_iff_eq.mpr c29
       clear c29
       replace H := Option.bind_eq_some_iff.mp H
       obtain ⟨t598, A300, H⟩ := H
       have A30 := Aside0.mk A300
       clear A300
       replace H := yes_ H; obtain ⟨c31, H⟩ := H
       have c31b1 := decide_eq_true c31
       clear c31
       replace H := yes_ H; obtain ⟨c32, H⟩ := H
       have c32b0 := eq_true c32
       have c32b1 := decide_eq_true c32
       clear c32
       replace H := yes_ H; obtain ⟨c33, H⟩ := H
       have c33b0 := eq_true c33
       have c33b1 := decide_eq_true c33
       clear c33
       replace H := yes_ H; obtain ⟨c34, H⟩ := H
       have c34b0 := eq_true c34
       have c34b1 := decide_eq_true c34
       clear c34
       replace H := yes_ H; obtain ⟨c35, H⟩ := H
       have c35b0 := beq_iff_eq.mpr c35
       have c35b1 := bne_eq_false_iff_eq.mpr c35
       clear c35
       have c36b0 := eq_true (of_decide_eq_true (by assumption) : 0 ≤ t596)
       replace H := yes_ H; obtain ⟨c37, H⟩ := H
       have c37b0 := eq_true c37
       have c37b1 := decide_eq_true c37
       clear c37
       replace H := Option.bind_eq_some_iff.mp H
       obtain ⟨t599, A380, H⟩ := H
       have A38 := Aside0.mk A380
       clear A380
       replace H := yes_ H; obtain ⟨c39, H⟩ := H
       have c39b0 := eq_true c39
       have c39b1 := decide_eq_true c39
       try have c39b2 : (9223372036854775807 < (x2_1.extract 0 (t596 : Int).toNat).size + t599.size) = False := eq_false (Nat.not_lt.2 c39)
       have hse_ : (x2_1.extract 0 (t596 : Int).toNat).size = t596.toNat := by (have h1_ : t596 ≤ (x2_1.size : Int) := (of_decide_eq_true (by assumption)); rw [ByteArray.size_extract]; omega)
       have c39s : (9223372036854775807 < t596.toNat + t599.size) = False := eq_false (by have h_ := c39; rw [hse_] at h_; omega)
       obtain ⟨ji40, hji40⟩ : ∃ j_ : Int, (wrap64 (t596 + (t595.size : Int))) = j_ := ⟨_, rfl⟩
       rw [hji40] at H
       (try rw [hji40] at A30)
       have hji40w : (IntKind.i64.wrap (t596 + (t595.size : Int))) = ji40 := (i64_w _).trans hji40
       replace H := yes_ H; obtain ⟨c41, H⟩ := H
       have c41b0 := eq_true c41
       have c41b1 := decide_eq_true c41
       clear c41
       replace H := yes_ H; obtain ⟨c42, H⟩ := H
       have c42b0 := eq_true c42
       have c42b1 := decide_eq_true c42
       clear c42
       replace H := yes_ H; obtain ⟨c43, H⟩ := H
       have c43b0 := eq_true c43
       have c43b1 := decide_eq_true c43
       try have c43b2 : (9223372036854775807 < ((x2_1.extract 0 (t596 : Int).toNat) ++ t599).size + (x2_1.extract ((ji40) : Int).toNat x2_1.size).size) = False := eq_false (Nat.not_lt.2 c43)
       have c43s : (9223372036854775807 < t596.toNat + t599.size + (x2_1.size - ji40.toNat)) = False := eq_false (by have h_ := c43; rw [ByteArray.size_append, hse_, ByteArray.size_extract] at h_; simp only [Nat.min_self] at h_; omega)
       clear hse_
       have H' := Aside0.mk H
       clear H
       have p593 : 0 ≤ (x49_1 : Int) := of_decide_eq_true (by assumption)
       have q593 : x49_1 < (t587.length : Int) := of_decide_eq_true (by assumption)
       obtain ⟨ad593, A593_0, c593_0, e593, hx593_0, hx593_1, hx593_2, hx593_3, hx593_4, hl593_0, hi593_0⟩ := at_T67 (Kd.V_reads' HO_47.out).2.2 x49_1 p593 q593
       cases e593
       obtain ⟨ce593, hce593, hMe593, hcc593⟩ := Kd.V_get HO_47.out z67 x49_1 p593 (by exact q593)
       obtain ⟨ua593_0, uc593_0, rfl, ul593_0, ge593_0⟩ := k67_openF hMe593
       have hv593_0 := hcc593 0 _ rfl
       rw [Nat.add_zero] at hv593_0
       replace hv593_0 := Option.some.inj (hv593_0.symm.trans hx593_0)
       injection hv593_0 with hva_ hvn_ hvc_
       rw [hva_] at ge593_0
       rw [hvc_] at ul593_0
       have HL593_0 := aS_ (show Kd.V k93 93 _ w.heap.size _ _ ((rd_T67 t587 x49_1).f0) from Kd.V_mk ul593_0 ge593_0)
       clear hva_ hvn_ hvc_ ge593_0 ul593_0
       clear hcc593 hce593
       have HR593_0 := Aside0.mk hi593_0
       have HC593_0 := Aside0.mk hl593_0
       clear hi593_0 hl593_0
       replace p593 := eq_true p593
       replace q593 := eq_true q593
       try go_wp2_with (first | ((with_reducible refine gate_dst (N := 13) rfl ?_); refine box_event ?hg (N := 13) ?hd (cs := #[.slice none 0 0, .int .i64 0, .int .i64 0, .int .i64 0, .int .i64 0]) (t := 67) ?hr ?_; (case hd => rfl); (case hg => rfl); (case hr => (go_simp; done)); intro gb594 hg w44 hbox hb; replace HO_11 := aS_ (Kd.R_below (Kd.R_st HO_11.out) hb); replace HO_47 := aS_ (Kd.V_below (Kd.V_elderB (by (with_reducible skip); exact HO_47.out) gb594 (Nat.le_of_eq hg.symm)) hb); replace HL593_0 := aS_ (Kd.V_below (Kd.V_elderB (by (with_reducible skip); exact HL593_0.out) gb594 (Nat.le_of_eq hg.symm)) hb); replace HR593_0 := aS_ (Kd.C_below (Kd.C_st HR593_0.out) hb); have BK594 := aS_ (hbox); have GW594 := aS_ ((by rw [hg]; exact (bz_ (bel_ HB.out)) : w.heap.size ≤ gb594)); have GE594 := aS_ ((by rw [hg]; exact (bz_ (bel_ HB.out)) : w.heap.size ≤ gb594)); replace HB := aS_ (bt_ (bel_ HB.out) hb); clear hb hbox hg; obtain ⟨hcz45_0, hcz45_1, hcz45_2, hcz45_3, hcz45_4, hfz45_0, hfz45_1, hfz45_2, hfz45_3, hfz45_4⟩ := blk5 BK594.out) | (go_at_call 57; (with_reducible refine (p_DiffText1.calls k1 a0 _ _ ((rd_T67 t587 x49_1).f0) t595 _ ?side1 ?side2 ?side3 A22.out).mono ?_); (case side1 => exact dmp_below HD0.out (by with_reducible repeat first | exact HB.out | refine bS_ ?_ GE594.out)); (case side2 => repeat (exact ((Kd.V_reads' (by (with_reducible skip); exact (Kd.V_mono (Kd.V_far (p := ⟨gb594, 4, none⟩) (Kd.V_far (p := ⟨gb594, 3, none⟩) (Kd.V_far (p := ⟨gb594, 2, none⟩) (Kd.V_far (p := ⟨gb594, 1, none⟩) (Kd.V_far (p := ⟨gb594, 0, none⟩) (Kd.V_mono HL593_0.out (fun k_ hk => (⟨hk, hk.2⟩ : _ ∧ k_ ≠ gb594))) (fun _ hk => hk.2) (.slice A593_0 ((rd_T67 t587 x49_1).f0).length c593_0)) (fun _ hk => hk.2) (.int .i64 ((rd_T67 t587 x49_1).f1))) (fun _ hk => hk.2) (.int .i64 ((rd_T67 t587 x49_1).f2))) (fun _ hk => hk.2) (.int .i64 ((rd_T67 t587 x49_1).f3))) (fun _ hk => hk.2) (.int .i64 ((rd_T67 t587 x49_1).f4))) (fun _ h_ => h_.1)))).2.2))); (case side3 => exact HC593_0.out); rintro e w46 ⟨rfl, hb⟩; replace HO_11 := aS_ (Kd.R_below (Kd.R_st ((Kd.R_mono (Kd.R_far (p := ⟨gb594, 4, none⟩) (Kd.R_far (p := ⟨gb594, 3, none⟩) (Kd.R_far (p := ⟨gb594, 2, none⟩) (Kd.R_far (p := ⟨gb594, 1, none⟩) (Kd.R_far (p := ⟨gb594, 0, none⟩) (Kd.R_types HO_11.out BK594.out (by decide)) (fun _ hk => hk.2) (.slice A593_0 ((rd_T67 t587 x49_1).f0).length c593_0)) (fun _ hk => hk.2) (.int .i64 ((rd_T67 t587 x49_1).f1))) (fun _ hk => hk.2) (.int .i64 ((rd_T67 t587 x49_1).f2))) (fun _ hk => hk.2) (.int .i64 ((rd_T67 t587 x49_1).f3))) (fun _ hk => hk.2) (.int .i64 ((rd_T67 t587 x49_1).f4))) (fun _ h_ => h_.1)))) hb); replace HO_47 := aS_ (Kd.V_below (by (with_reducible skip); exact (Kd.V_mono (Kd.V_far (p := ⟨gb594, 4, none⟩) (Kd.V_far (p := ⟨gb594, 3, none⟩) (Kd.V_far (p := ⟨gb594, 2, none⟩) (Kd.V_far (p := ⟨gb594, 1, none⟩) (Kd.V_far (p := ⟨gb594, 0, none⟩) (Kd.V_mono HO_47.out (fun k_ hk => (⟨hk, hk.2⟩ : _ ∧ k_ ≠ gb594))) (fun _ hk => hk.2) (.slice A593_0 ((rd_T67 t587 x49_1).f0).length c593_0)) (fun _ hk => hk.2) (.int .i64 ((rd_T67 t587 x49_1).f1))) (fun _ hk => hk.2) (.int .i64 ((rd_T67 t587 x49_1).f2))) (fun _ hk => hk.2) (.int .i64 ((rd_T67 t587 x49_1).f3))) (fun _ hk => hk.2) (.int .i64 ((rd_T67 t587 x49_1).f4))) (fun _ h_ => h_.1))) hb); replace HR593_0 := aS_ (Kd.C_below ((Kd.V_reads' (by (with_reducible skip); exact (Kd.V_mono (Kd.V_far (p := ⟨gb594, 4, none⟩) (Kd.V_far (p := ⟨gb594, 3, none⟩) (Kd.V_far (p := ⟨gb594, 2, none⟩) (Kd.V_far (p := ⟨gb594, 1, none⟩) (Kd.V_far (p := ⟨gb594, 0, none⟩) (Kd.V_mono HL593_0.out (fun k_ hk => (⟨hk, hk.2⟩ : _ ∧ k_ ≠ gb594))) (fun _ hk => hk.2) (.slice A593_0 ((rd_T67 t587 x49_1).f0).length c593_0)) (fun _ hk => hk.2) (.int .i64 ((rd_T67 t587 x49_1).f1))) (fun _ hk => hk.2) (.int .i64 ((rd_T67 t587 x49_1).f2))) (fun _ hk => hk.2) (.int .i64 ((rd_T67 t587 x49_1).f3))) (fun _ hk => hk.2) (.int .i64 ((rd_T67 t587 x49_1).f4))) (fun _ h_ => h_.1)))).2.2) hb); replace HL593_0 := aS_ (Kd.V_below (by (with_reducible skip); exact (Kd.V_mono (Kd.V_far (p := ⟨gb594, 4, none⟩) (Kd.V_far (p := ⟨gb594, 3, none⟩) (Kd.V_far (p := ⟨gb594, 2, none⟩) (Kd.V_far (p := ⟨gb594, 1, none⟩) (Kd.V_far (p := ⟨gb594, 0, none⟩) (Kd.V_mono HL593_0.out (fun k_ hk => (⟨hk, hk.2⟩ : _ ∧ k_ ≠ gb594))) (fun _ hk => hk.2) (.slice A593_0 ((rd_T67 t587 x49_1).f0).length c593_0)) (fun _ hk => hk.2) (.int .i64 ((rd_T67 t587 x49_1).f1))) (fun _ hk => hk.2) (.int .i64 ((rd_T67 t587 x49_1).f2))) (fun _ hk => hk.2) (.int .i64 ((rd_T67 t587 x49_1).f3))) (fun _ hk => hk.2) (.int .i64 ((rd_T67 t587 x49_1).f4))) (fun _ h_ => h_.1))) hb); replace BK594 := aS_ (blk_below (g := gb594) (o := .cells #[.slice A593_0 ((rd_T67 t587 x49_1).f0).length c593_0, .int .i64 ((rd_T67 t587 x49_1).f1), .int .i64 ((rd_T67 t587 x49_1).f2), .int .i64 ((rd_T67 t587 x49_1).f3), .int .i64 ((rd_T67 t587 x49_1).f4)] 67 (0, 0)) (by (with_reducible skip); refine blk_put (cs := #[.slice A593_0 ((rd_T67 t587 x49_1).f0).length c593_0, .int .i64 ((rd_T67 t587 x49_1).f1), .int .i64 ((rd_T67 t587 x49_1).f2), .int .i64 ((rd_T67 t587 x49_1).f3), .int .i64 0]) ?_ 4 _ rfl; (with_reducible skip); refine blk_put (cs := #[.slice A593_0 ((rd_T67 t587 x49_1).f0).length c593_0, .int .i64 ((rd_T67 t587 x49_1).f1), .int .i64 ((rd_T67 t587 x49_1).f2), .int .i64 0, .int .i64 0]) ?_ 3 _ rfl; (with_reducible skip); refine blk_put (cs := #[.slice A593_0 ((rd_T67 t587 x49_1).f0).length c593_0, .int .i64 ((rd_T67 t587 x49_1).f1), .int .i64 0, .int .i64 0, .int .i64 0]) ?_ 2 _ rfl; (with_reducible skip); refine blk_put (cs := #[.slice A593_0 ((rd_T67 t587 x49_1).f0).length c593_0, .int .i64 0, .int .i64 0, .int .i64 0, .int .i64 0]) ?_ 1 _ rfl; (with_reducible skip); refine blk_put (cs := #[.slice none 0 0, .int .i64 0, .int .i64 0, .int .i64 0, .int .i64 0]) ?_ 0 _ rfl; (with_reducible skip); exact BK594.out) hb); replace HB := aS_ (bt_ (by with_reducible repeat first | exact HB.out | refine bS_ ?_ GE594.out) hb); have hdm47 := dmp_cell5 (dmp_below HD0.out HB.out)) | ((with_reducible refine gate_callee (f := 58) rfl ?_); refine goesL_ (some 112) rfl rfl Tryz.func58 (by kernel_rfl) rfl #[.pointer (some ⟨a0, 0, none⟩), .string x2_1, .string t595, .int .i64 (wrap64 (((rd_T67 t587 x49_1).f2) + x10_1))] rfl (by (try simp only [List.map_toArray, List.map_cons, List.map_nil]); rfl) ?_; (with_reducible refine (p_MatchMain.calls a0 x2_1 t595 (wrap64 (((rd_T67 t587 x49_1).f2) + x10_1)) t596 _ ?side1 A24.out).mono ?_); (case side1 => exact dmp_below HD0.out (by with_reducible repeat exact HB.out)); rintro e w' ⟨rfl, ⟨nd, rfl⟩⟩; refine ⟨_, rfl, ?_⟩; (try (rw [drewN_self w46]; generalize hq_ : World.drewN w46 _ = w46; have n0_ : Aside0 (Kd.V k93 93 w46 w.heap.size (fun k_ => some k_ ≠ (v591 : Value).ownBlock ∧ k_ ≠ gb594) (.slice A593_0 ((rd_T67 t587 x49_1).f0).length c593_0) ((rd_T67 t587 x49_1).f0)) := ⟨by rw [← hq_]; exact (by (with_reducible repeat (apply Kd.V_drewN)); exact HL593_0.out)⟩; have n1_ : Aside0 (Kd.R Kd.bool 4 w46 w.heap.size (fun _ => True) v591 x11_1) := ⟨by rw [← hq_]; exact (Kd.R_st HO_11.out)⟩; have n2_ : Aside0 (Kd.V k67 67 w46 w.heap.size (fun k_ => some k_ ≠ (v591 : Value).ownBlock ∧ k_ ≠ gb594) (.slice (some ad593) t587.length co16) t587) := ⟨by rw [← hq_]; exact (by (with_reducible repeat (apply Kd.V_drewN)); exact HO_47.out)⟩; have n3_ : Aside0 (w46.heap[gb594]? = some (.cells #[.slice A593_0 ((rd_T67 t587 x49_1).f0).length c593_0, .int .i64 ((rd_T67 t587 x49_1).f1), .int .i64 ((rd_T67 t587 x49_1).f2), .int .i64 ((rd_T67 t587 x49_1).f3), .int .i64 ((rd_T67 t587 x49_1).f4)] 67 (0, 0))) := ⟨by rw [← hq_]; exact (blk_st BK594.out)⟩; have n4_ : Aside0 (Below w.heap.size w w46) := ⟨by rw [← hq_]; exact (by with_reducible repeat first | exact HB.out | apply bN_)⟩; have n5_ : Aside0 (Kd.C k93 w46 A593_0 ((rd_T67 t587 x49_1).f0).length ((rd_T67 t587 x49_1).f0)) := ⟨by rw [← hq_]; exact (Kd.C_st HR593_0.out)⟩; clear HL593_0 HO_11 HO_47 BK594 HB HR593_0 hq_; have HL593_0 := n0_; have HO_11 := n1_; have HO_47 := n2_; have BK594 := n3_; have HB := n4_; have HR593_0 := n5_; clear n0_ n1_ n2_ n3_ n4_ n5_)); have p28 : 0 ≤ (x9_1 : Int) := of_decide_eq_true (by assumption); have q28 : (x9_1 : Int) < ((x11_1.length : Int) : Int) := of_decide_eq_true (by assumption); obtain ⟨go28, co28, eo28, gb28, gl28, cl28, HG28⟩ := Kd.R_form HO_11.out (by omega); (cases eo28); have GB28 := Aside0.mk gb28; have GG28 := Aside0.mk HG28; clear gb28 gl28 HG28; obtain ⟨hx28_0, hf28_0⟩ := Kd.R_celln false HO_11.out (x9_1 : Int) p28 q28; replace p28 := eq_true p28; replace q28 := eq_true q28; obtain ⟨hy48_, hz48_⟩ := Kd.R_celln false HO_11.out (x9_1 : Int) (of_decide_eq_true (by assumption)) (of_decide_eq_true (by assumption)); have HP48 := Kd.R_putg HO_11.out (x9_1 : Int) true) | ((with_reducible refine gate_store (t := 4) (p := 127) rfl ?_); refine store_event (t := 4) (p := 127) (v := ?vo_w49) (w1 := (w46.setCell ⟨go28, (x9_1 : Int).toNat, none⟩ (.bool true))) ?hg ?ho ?hn ?hr ?_; (case ho => rfl); (case hg => rfl); (case hn => rfl); (case hr => (go_simp; done)); intro w49 hw; have hg : w46.grownBy w49 (some go28) := (by rw [hw]; exact HP48.2); have hp_ : Kd.R Kd.bool 4 w49 w.heap.size (fun _ => True) (.slice (some ⟨go28, 0, none⟩) x11_1.length co28) y597 := (by rw [hw, Ny597.out]; exact HP48.1); clear HP48; replace HO_47 := aS_ (Kd.V_afterv (v := (.slice (some ⟨go28, 0, none⟩) x11_1.length co28)) (v1 := (.slice (some ⟨go28, 0, none⟩) x11_1.length co28)) (ok := (fun k_ => k_ ≠ gb594)) (by (with_reducible skip); exact Kd.V_mono HO_47.out (fun _ hk => ⟨hk.2, hk.1⟩)) hg (.inl rfl)); replace HL593_0 := aS_ (Kd.V_afterv (v := (.slice (some ⟨go28, 0, none⟩) x11_1.length co28)) (v1 := (.slice (some ⟨go28, 0, none⟩) x11_1.length co28)) (ok := (fun k_ => k_ ≠ gb594)) (by (with_reducible skip); exact Kd.V_mono HL593_0.out (fun _ hk => ⟨hk.2, hk.1⟩)) hg (.inl rfl)); replace BK594 := aS_ (blk_grown (g := gb594) (o := .cells #[.slice A593_0 ((rd_T67 t587 x49_1).f0).length c593_0, .int .i64 ((rd_T67 t587 x49_1).f1), .int .i64 ((rd_T67 t587 x49_1).f2), .int .i64 ((rd_T67 t587 x49_1).f3), .int .i64 ((rd_T67 t587 x49_1).f4)] 67 (0, 0)) (blk_st BK594.out) hg (Kd.R_ne HO_11.out BK594.out (by decide))); replace HO_11 := aS_ (hp_); replace HB := aS_ ((by rw [hw]; exact bS_ (HB.out) GB28.out : Below w.heap.size w w49)); clear hg hw hp_; have hffi50 := run_i2f (P := Tryz.prog) Tryz.underlying3 Tryz.underlying48; have hffi51 := run_i2f (P := Tryz.prog) Tryz.underlying3 Tryz.underlying48) | ((with_reducible refine gate_callee (f := 59) rfl ?_); refine goesL_ (some 143) rfl rfl Tryz.func59 (by kernel_rfl) rfl #[(Value.float .f64 (FloatKind.f64.nearest (ji40))), (Value.float .f64 (FloatKind.f64.nearest (x2_1.size : Int)))] rfl (by (try simp only [List.map_toArray, List.map_cons, List.map_nil]); rfl) ?_; (with_reducible refine (math_Min.calls (Value.float .f64 (FloatKind.f64.nearest (ji40))) (Value.float .f64 (FloatKind.f64.nearest (x2_1.size : Int))) t598 _ A30.out).mono ?_); rintro e w' ⟨rfl, ⟨nd, rfl⟩⟩; refine ⟨_, rfl, ?_⟩; have hffi52 := run_f2i (P := Tryz.prog) Tryz.underlying48 Tryz.underlying3 (x := t598) (of_decide_eq_true (by assumption))))
       (try (rw [drewN_self w49]; generalize hq_ : World.drewN w49 _ = w49; have n0_ : Aside0 (Kd.V k93 93 w49 w.heap.size (fun k_ => some k_ ≠ (.slice (some ⟨go28, 0, none⟩) x11_1.length co28 : Value).ownBlock ∧ k_ ≠ gb594) (.slice A593_0 ((rd_T67 t587 x49_1).f0).length c593_0) ((rd_T67 t587 x49_1).f0)) := ⟨by rw [← hq_]; exact (by (with_reducible repeat (apply Kd.V_drewN)); exact Kd.V_mono HL593_0.out (fun _ hk => ⟨hk.2, hk.1⟩))⟩; have n1_ : Aside0 (Kd.R Kd.bool 4 w49 w.heap.size (fun _ => True) (.slice (some ⟨go28, 0, none⟩) x11_1.length co28) y597) := ⟨by rw [← hq_]; exact (Kd.R_st HO_11.out)⟩; have n2_ : Aside0 (Kd.V k67 67 w49 w.heap.size (fun k_ => some k_ ≠ (.slice (some ⟨go28, 0, none⟩) x11_1.length co28 : Value).ownBlock ∧ k_ ≠ gb594) (.slice (some ad593) t587.length co16) t587) := ⟨by rw [← hq_]; exact (by (with_reducible repeat (apply Kd.V_drewN)); exact Kd.V_mono HO_47.out (fun _ hk => ⟨hk.2, hk.1⟩))⟩; have n3_ : Aside0 (w49.heap[gb594]? = some (.cells #[.slice A593_0 ((rd_T67 t587 x49_1).f0).length c593_0, .int .i64 ((rd_T67 t587 x49_1).f1), .int .i64 ((rd_T67 t587 x49_1).f2), .int .i64 ((rd_T67 t587 x49_1).f3), .int .i64 ((rd_T67 t587 x49_1).f4)] 67 (0, 0))) := ⟨by rw [← hq_]; exact (blk_st BK594.out)⟩; have n4_ : Aside0 (Below w.heap.size w w49) := ⟨by rw [← hq_]; exact (by with_reducible repeat first | exact HB.out | apply bN_)⟩; clear HL593_0 HO_11 HO_47 BK594 HB hq_; have HL593_0 := n0_; have HO_11 := n1_; have HO_47 := n2_; have BK594 := n3_; have HB := n4_; clear n0_ n1_ n2_ n3_ n4_))
       replace HO_11 := aS_ (Kd.R_drew HO_11.out)
       replace HO_47 := aS_ (Kd.V_drew HO_47.out)
       replace HL593_0 := aS_ (Kd.V_drew HL593_0.out)
       replace BK594 := aS_ (kD_ BK594.out)
       replace HB := aS_ (bD_ HB.out)
       refine sA_ (fun w' => w'.cell? ⟨gb594, 0, none⟩ = some (.slice A593_0 ((rd_T67 t587 x49_1).f0).length c593_0) ∧ w'.cell? ⟨gb594, 1, none⟩ = some (.int .i64 ((rd_T67 t587 x49_1).f1)) ∧ w'.cell? ⟨gb594, 2, none⟩ = some (.int .i64 ((rd_T67 t587 x49_1).f2)) ∧ w'.cell? ⟨gb594, 3, none⟩ = some (.int .i64 ((rd_T67 t587 x49_1).f3)) ∧ w'.cell? ⟨gb594, 4, none⟩ = some (.int .i64 ((rd_T67 t587 x49_1).f4))) [] p_PatchApply.tab34 p_PatchApply.bits34 ⟨(bc_ BK594.out 0).trans rfl, (bc_ BK594.out 1).trans rfl, (bc_ BK594.out 2).trans rfl, (bc_ BK594.out 3).trans rfl, (bc_ BK594.out 4).trans rfl⟩ (fun hHeld HT_ HW_ => ?_)
       generalize w49.drew = w53 at HO_11 HO_47 HL593_0 BK594 HB hHeld ⊢
       refine pA_ 0 (h:=pA_ 1 (h:=pA_ 2 (h:=pA_ 3 (h:=pA_ 4 (h:=pA_ 8 (h:=pA_ 9 (h:=pA_ 10 (h:=pA_ 11 (h:=pA_ 12 (h:=pA_ 13 (h:=tA_ 5 (h:=?_))))))))))))
       refine oA_ 6 (some 170) (h:=fun K hK => ?_)
       refine goes_ Tryz.func60 (by kernel_rfl) rfl #[.pointer (some ⟨a0, 0, none⟩), .slice A593_0 ((rd_T67 t587 x49_1).f0).length c593_0] (by rfl) rfl rfl (by (try simp only [List.map_toArray, List.map_cons, List.map_nil]); rfl) ?_
       with_reducible refine (p_DiffText2.calls k1 a0 _ _ ((rd_T67 t587 x49_1).f0) t599 _ ?side1 ?side2 ?side3 A38.out).mono ?_
       (case side1 => exact dmp_below HD0.out (by with_reducible repeat exact HB.out))
       (case side2 => repeat (exact ((Kd.V_reads' (by (with_reducible skip); exact HL593_0.out)).2.2)))
       (case side3 => exact HC593_0.out)
       rintro e w54 ⟨rfl, hb⟩
       refine ⟨_, rfl, ?_⟩
       replace HO_11 := aS_ (Kd.R_below (Kd.R_st HO_11.out) hb)
       replace HO_47 := aS_ (Kd.V_below (by (with_reducible skip); exact HO_47.out) hb)
       replace HL593_0 := aS_ (Kd.V_below (by (with_reducible skip); exact HL593_0.out) hb)
       replace BK594 := aS_ (blk_below (g := gb594) (o := .cells #[.slice A593_0 ((rd_T67 t587 x49_1).f0).length c593_0, .int .i64 ((rd_T67 t587 x49_1).f1), .int .i64 ((rd_T67 t587 x49_1).f2), .int .i64 ((rd_T67 t587 x49_1).f3), .int .i64 ((rd_T67 t587 x49_1).f4)] 67 (0, 0)) (blk_st BK594.out) hb)
       replace HB := aS_ (bt_ (by with_reducible repeat exact HB.out) hb)
       refine hK.out _ _ ⟨(bc_ BK594.out 0).trans rfl, (bc_ BK594.out 1).trans rfl, (bc_ BK594.out 2).trans rfl, (bc_ BK594.out 3).trans rfl, (bc_ BK594.out 4).trans rfl⟩ (fun hHeld => ?_)
       clear hK K
       refine nA_ (h:=?_)
       refine pA_ 7 (h:=pA_ 14 (h:=pA_ 15 (h:=?_)))
       refine done_ (done_of HT_.out (by kernel_rfl)) ?_
       try go_wp2
       go_roundg k1
       case measure => have := HK1.out; omega
       case rel => exact ⟨(((x2_1.extract 0 (t596 : Int).toNat) ++ t599) ++ (x2_1.extract ((ji40) : Int).toNat x2_1.size)), (wrap64 (x9_1 + 1)), (wrap64 (t596 - (wrap64 (((rd_T67 t587 x49_1).f2) + x10_1)))), (y597), (wrap64 (x49_1 + 1)), (by rfl), (by rfl), (by rfl), (by rfl), H', ⟨by have := HK1.out; omega⟩, ⟨Kd.R_st HO_11.out⟩, ⟨by (with_reducible skip); exact Kd.V_mono HO_47.out (fun _ hk => by exact hk.1)⟩, ⟨by with_reducible repeat exact HB.out⟩⟩
    ·rw [if_neg c19] at H
     have c19b0 := decide_eq_false c19
     clear c19
     replace H := yes_ H; obtain ⟨c55, H⟩ := H
     have c55b0 := eq_true c55
     have c55b1 := decide_eq_true c55
     clear c55
     replace H := yes_ H; obtain ⟨c56, H⟩ := H
     have c56b0 := eq_true c56
     have c56b1 := decide_eq_true c56
     replace H := yes_ H; obtain ⟨c57, H⟩ := H
     have c57b0 := eq_true c57
     have c57b1 := decide_eq_true c57
     simp only [Option.some.injEq, Prod.mk.injEq] at H
     obtain ⟨rfl, rfl⟩ := H
     go_wp2
     go_ret2
     exact ⟨_, by rfl, Kd.R_st HO_11.out, bel_ HB.out⟩
def abc : ByteArray := ⟨#[97, 98, 99]⟩
def abxc : ByteArray := ⟨#[97, 98, 120, 99]⟩
def awd : List S93 := [⟨0, ⟨#[97, 98]⟩⟩, ⟨1, ⟨#[120]⟩⟩, ⟨0, ⟨#[99]⟩⟩]
theorem ev_main (a0 : Nat) : p_DiffMain.f 100 a0 abc abxc true = some awd := by kernel_rfl
theorem ev_sem (a0 : Nat) : p_DiffCleanupSemantic.f 100 a0 awd = some awd := by kernel_rfl
theorem ev_eff (a0 : Nat) : p_DiffCleanupEfficiency.f 100 a0 awd = some awd := by kernel_rfl
theorem ev_make2 (a0 : Nat) : p_patchMake2.f 100 a0 abc awd = some aw1 := by kernel_rfl
theorem ev_apply (a0 : Nat) : p_PatchApply.f 100 a0 aw1 abc = some (abxc, [true]) := by kernel_rfl
theorem ta_str (v : Value) (w : World) : (Instr.typeAssert (.iface 9 v) 20 9 false).run Tryz.prog w = .ok v w := by
 simp [Instr.typeAssert, run_underlying Tryz.underlying9, go_sem, Result.andThen]
theorem ta_str_ok (v : Value) (w : World) : (Instr.typeAssert (.iface 9 v) 20 9 true).run Tryz.prog w = .ok (.tuple #[v, .bool true]) w := by
 simp [Instr.typeAssert, run_underlying Tryz.underlying9, go_sem, Result.andThen]
theorem ta_row_ok (v : Value) (w : World) : (Instr.typeAssert (.iface 65 v) 20 65 true).run Tryz.prog w = .ok (.tuple #[v, .bool true]) w := by
 simp [Instr.typeAssert, run_underlying Tryz.underlying65, go_sem, Result.andThen]
theorem ta_row_no (v : Value) (w : World) : (Instr.typeAssert (.iface 65 v) 20 9 true).run Tryz.prog w = .ok (.tuple #[.string ⟨#[]⟩, .bool false]) w := by
 simp [Instr.typeAssert, run_underlying Tryz.underlying9, go_sem, Result.andThen]
theorem make_b (a0 g c : Nat) (A : Option Addr) (w : World) (hd0 : DmpAt w a0) (hg : w.heap[g]? = some (.cells #[.iface 9 (.string abc), .iface 65 (.slice A 3 c)] 20 (0, 0))) (hr : Kd.C k93 w A 3 awd) (hc : 3 ≤ c) :
  Calls Tryz.prog 35 #[.pointer (some ⟨a0, 0, none⟩), .slice (some ⟨g, 0, none⟩) 2 2] w fun e w' => ∃ v0_ : Value, e = .returned v0_ ∧ Kd.S k67 67 w' w.heap.size (fun _ => True) v0_ aw1 ∧ Below w.heap.size w w' := by
 have HD0 := Aside0.mk hd0
 have hc0 := cell_of hg (i := 0) rfl
 have hc1 := cell_of hg (i := 1) rfl
 clear hd0 hg
 have h1_ := ta_str (.string abc)
 have h2_ := ta_row_no (.slice A 3 c)
 have h3_ := ta_row_ok (.slice A 3 c)
 go_enter Tryz.func35, Tryz.ntmps35
 go_wp2_with ((go_at_call 67; refine (p_patchMake2.calls 100 a0 abc A c awd aw1 w HD0.out hr hc (ev_make2 a0)).mono ?_; rintro e w' ⟨v0, rfl, hs, hb⟩))
 go_ret
 exact ⟨v0, rfl, hs, hb⟩
theorem make_a (a0 g : Nat) (w : World) (hd0 : DmpAt w a0) (hg : w.heap[g]? = some (.cells #[.iface 9 (.string abc), .iface 9 (.string abxc)] 20 (0, 0))) :
  Calls Tryz.prog 35 #[.pointer (some ⟨a0, 0, none⟩), .slice (some ⟨g, 0, none⟩) 2 2] w fun e w' => ∃ v0_ : Value, e = .returned v0_ ∧ Kd.S k67 67 w' w.heap.size (fun _ => True) v0_ aw1 ∧ Below w.heap.size w w' := by
 have HD0 := Aside0.mk hd0
 have hc0 := cell_of hg (i := 0) rfl
 have hc1 := cell_of hg (i := 1) rfl
 clear hd0 hg
 have h1_ := ta_str (.string abc)
 have h2_ := ta_str_ok (.string abxc)
 go_enter Tryz.func35, Tryz.ntmps35
 go_wp2_with (first
  | (go_at_call 61; refine (p_DiffMain.calls 100 a0 abc abxc true awd w HD0.out (ev_main a0)).mono ?_; rintro e w1 ⟨v1, rfl, hr1, hb1⟩; obtain ⟨A1, c1, e1⟩ := Kd.R_slice hr1; subst e1)
  | (go_at_call 65; refine (p_DiffCleanupSemantic.calls 100 a0 _ _ awd awd w w1 hb1 HD0.out hr1 (ev_sem a0)).mono ?_; rintro e w2 ⟨v2, rfl, hr2, hb2, hk2⟩)
  | (go_at_call 66; refine (p_DiffCleanupEfficiency.calls 100 a0 _ _ awd awd w w2 hb2 HD0.out hr2 (ev_eff a0)).mono ?_; rintro e w3 ⟨v3, rfl, hr3, hb3, hk3⟩; obtain ⟨A3, c3, e3⟩ := Kd.R_slice hr3; subst e3)
  | (go_at_call 35; refine (make_b a0 w3.heap.size c3 A3 _ (dmp_below HD0.out (Below.alloc hb3 hb3.size _)) (heap_alloc_new w3 _) (Kd.C_alloc (Kd.R_reads' hr3).2.2 _) (Kd.R_reads' hr3).2.1).mono ?_; rintro e w4 ⟨v4, rfl, hs4, hb4⟩))
 go_ret
 exact ⟨v4, rfl, Kd.S_lower hs4 (Below.alloc hb3 hb3.size _).size, bh_ (Below.alloc hb3 hb3.size _) (Below.alloc hb3 hb3.size _).size hb4⟩
theorem apply_calls (w : World) : Calls Tryz.prog 19 #[.string abc, .string abxc, .string abc, setv] w fun e w' => ∃ v0_ : Value, e = .returned (.tuple #[.string abxc, v0_]) ∧ Kd.R Kd.bool 4 w' w.heap.size (fun _ => True) v0_ [true] ∧ Below w.heap.size w w' := by
 have hu50 := Tryz.underlying50
 unfold setv
 go_enter Tryz.func19, Tryz.ntmps19
 go_wp2_with (first
  | (go_at_call 33; refine (set_calls _).mono ?_; rintro e w1 ⟨a0, rfl, hd1, hg1, hb1⟩)
  | (go_at_call 35; refine (make_a a0 w1.heap.size _ (kA_ hd1 _) (heap_alloc_new w1 _)).mono ?_; rintro e w2 ⟨v2, rfl, hs2, hb2⟩; obtain ⟨A2, c2, e2⟩ := Kd.S_slice hs2; subst e2)
  | (go_at_call 34; refine (p_PatchApply.calls 100 a0 A2 c2 aw1 abc abxc [true] w2 (dmp_below (kA_ hd1 _) hb2) (Kd.S_reads' hs2).2.2 (Kd.S_reads' hs2).2.1 (ev_apply a0)).mono ?_; rintro e w3 ⟨v3, rfl, hr3, hb3⟩; obtain ⟨A3, c3, e3⟩ := Kd.R_slice hr3; subst e3; have hbw : Below w.heap.size w w3 := bh_ (bh_ (Below.alloc (bh_ (Below.alloc (Below.refl _ _) (Nat.le_refl _) _) (by simp) hb1) (bh_ (Below.alloc (Below.refl _ _) (Nat.le_refl _) _) (by simp) hb1).size _) (Below.alloc (bh_ (Below.alloc (Below.refl _ _) (Nat.le_refl _) _) (by simp) hb1) (bh_ (Below.alloc (Below.refl _ _) (Nat.le_refl _) _) (by simp) hb1).size _).size hb2) (bh_ (Below.alloc (bh_ (Below.alloc (Below.refl _ _) (Nat.le_refl _) _) (by simp) hb1) (bh_ (Below.alloc (Below.refl _ _) (Nat.le_refl _) _) (by simp) hb1).size _) (Below.alloc (bh_ (Below.alloc (Below.refl _ _) (Nat.le_refl _) _) (by simp) hb1) (bh_ (Below.alloc (Below.refl _ _) (Nat.le_refl _) _) (by simp) hb1).size _).size hb2).size hb3)
  | ((with_reducible refine gate_builtin (b := .append) (xs := #[.const (.slice none 0 0), .tmp 29]) rfl ?_); at_builtin; refine Kd.R_append_row (P := Tryz.prog) Value.bool false (w0 := w) w.heap.size rfl (.const (.slice none 0 0)) (.tmp 29) 45 4 (.bool false) 1 rfl Tryz.underlying45 info4 rfl (by decide) (.slice none 0 0) [] [true] A3 1 c3 (fun _ => True) rfl rfl (fun _ _ => trivial) (Kd.R_nil _ _ _ _ _) (Kd.R_reads' hr3).2.2 hbw hbw.size (by decide) ?_; intro v4 w4 hr4 hb4 hg4 hat4))
 go_ret2
 exact ⟨v4, rfl, hr4, hb4⟩
theorem awake_calls (w : World) : Calls Tryz.prog 7 #[] w fun e w' => e = .returned (.bool true) ∧ Below w.heap.size w w' := by
 have hab_ : (abxc.toList == [97, 98, 120, 99]) = true := by kernel_rfl
 have hac_ : abxc.toList = [97, 98, 120, 99] := by kernel_rfl
 go_enter Tryz.func7, Tryz.ntmps7
 go_wp2_with (first
  | (go_at_call 20; refine (defaults_calls _).mono ?_; rintro e w1 ⟨rfl, hb1⟩)
  | (go_at_call 19; refine (apply_calls _).mono ?_; rintro e w2 ⟨v2, rfl, hr2, hb2⟩; obtain ⟨A2, c2, e2⟩ := Kd.R_slice hr2; subst e2; obtain ⟨ad_, ea_, hx_⟩ := Kd.at_bool (Kd.R_reads' hr2).2.2 0 (by decide) (by decide); subst ea_; replace hx_ : w2.cell? ad_ = some (.bool true) := hx_))
 go_ret
 exact ⟨rfl, bh_ hb1 hb1.size hb2⟩
theorem un_conv (q : S42) : un (conv q) = q := by
 simp only [un, conv, List.map_map]
 rw [show (q.f4.map ((fun d : S93 => (⟨d.f0, d.f1⟩ : S75)) ∘ toG)) = q.f4.map id from rfl, List.map_id]
theorem fits5_one {l : List S33} (h : fits5 l = true) {p : S33} (hp : p ∈ l) : fits5 [p] = true := by
 simp only [fits5, Bool.and_eq_true, decide_eq_true_eq, List.all_eq_true] at h ⊢
 exact ⟨by simp, fun q hq => by
  rw [List.mem_singleton.1 hq]
  exact h.2 p hp⟩
theorem ev_piece {p : S33} (h : okPiece (toP p) = true) : ∃ K, ∀ k, K ≤ k → PStr k (mkP p) (Rq (mkP p)) := ev_pstr _ (by rw [mkP_conv h, un_conv]; exact h)
theorem Rq_text {l : List S33} (h : ∀ p ∈ l, okPiece (toP p) = true) : (l.map mkP).flatMap Rq = textL false (l.map toP) := by
 unfold textL
 rw [List.flatMap_map, List.flatMap_map]
 have : ∀ p ∈ l, Rq (mkP p) = blockL false (linesL (toP p)) := fun p hp => by
  unfold Rq
  rw [mkP_conv (h p hp), un_conv]
 clear h
 induction l with
 | nil => rfl
 | cons p l ih =>
  rw [List.flatMap_cons, List.flatMap_cons, ih fun q hq => this q (List.mem_cons_of_mem _ hq), this p List.mem_cons_self]
theorem factsP {p : S33} (hf : fits5 [p] = true) (h : okPiece (toP p) = true) : ∃ k k', (impl_patch.f k p.f0 p.f1 p.f2 p.f3 p.f4 = some ((mkP p).f0, (mkP p).f1, (mkP p).f2, (mkP p).f3, (mkP p).f4) ∧ PStr k (mkP p) (Rq (mkP p))) ∧ laws_patchText.f k' [p] false = some (B (Rq (mkP p))) := by
 have h6 := (okPiece_facts h).2.2.2.2.2.2
 simp only [toP, List.length_map] at h6
 obtain ⟨K1, h1⟩ := ev_ipatch p (by omega)
 obtain ⟨K2, h2⟩ := ev_piece h
 have ho : ∀ q ∈ [p].map toP, okPiece q = true := fun q hq => by
  rw [List.map_cons, List.map_nil] at hq
  rw [List.mem_singleton.1 hq]
  exact h
 obtain ⟨k', h3⟩ := (ev_patchText [p] false hf ho (by simp)).at
 refine ⟨max K1 K2, k', ⟨h1 _ (by omega), h2 _ (by omega)⟩, ?_⟩
 rw [h3, ← Rq_text fun q hq => by rw [List.mem_singleton.1 hq]; exact h]
 simp
theorem factsT (l : List S33) (hf : fits5 l = true) (hok : okPatches l = true) :
  ∃ (T T1 : Bs) (k0 k1 k2 k3 k4 k5 : Nat), (impl_patches.f k0 l = some (l.map mkP) ∧ (∀ p ∈ l.map mkP, PStr k0 p (Rq p)) ∧ (l.map mkP).flatMap Rq = T) ∧ laws_patchText.f k1 l false = some (B T) ∧ pread.f k2 (B T) = some (l, ⟨#[]⟩) ∧ laws_patchText.f k3 l true = some (B T1) ∧ pread.f k4 (B T1) = some (l, ⟨#[]⟩) ∧
   (impl_patches.f k5 l = some (l.map mkP) ∧ p_PatchDeepCopy.f k5 0 (l.map mkP) = some (l.map mkP) ∧ bps.f k5 (l.map mkP) = some l) ∧ l.length ≤ 8 ∧ (∀ p ∈ l, p.f4.length ≤ 8) ∧ (∀ p ∈ l, okPiece (toP p) = true) := by
 simp only [okPatches, Bool.and_eq_true, decide_eq_true_eq, List.all_eq_true] at hok
 obtain ⟨hp, hl8⟩ := hok
 have hp' : ∀ p ∈ l, okPiece (toP p) = true := fun p h => hp _ (List.mem_map_of_mem h)
 have h8 : ∀ p ∈ l, p.f4.length ≤ 8 := fun p h => by
  have := (okPiece_facts (hp' p h)).2.2.2.2.2.2
  simpa [toP] using this
 obtain ⟨K1, h1⟩ := ev_ipatches l (by omega) fun p h => by have := h8 p h; omega
 obtain ⟨K2, h2⟩ := ev_list (fun k q => PStr k q (Rq q)) (l.map mkP) fun q hq => by
  obtain ⟨p, hm, rfl⟩ := List.mem_map.1 hq
  exact ev_piece (hp' p hm)
 have hconv : l.map mkP = (l.map toP).map conv := by
  rw [List.map_map]
  exact List.map_congr_left fun p hm => mkP_conv (hp' p hm)
 have hback : (l.map mkP).map bkP = l := by
  rw [List.map_map]
  exact (List.map_congr_left fun p hm => bkP_mkP (hp' p hm)).trans (List.map_id l)
 have hlen : ∀ q ∈ l.map mkP, q.f0.length ≤ 1000 := fun q hq => by
  obtain ⟨p, hm, rfl⟩ := List.mem_map.1 hq
  have := h8 p hm
  simp only [mkP, List.length_map]
  omega
 obtain ⟨k1, e1⟩ := (ev_patchText l false hf hp hl8).at
 obtain ⟨k3, e3⟩ := (ev_patchText l true hf hp hl8).at
 have r0 := read_all false (l.map toP) hp (by simpa using hl8)
 have r1 := read_all true (l.map toP) hp (by simpa using hl8)
 rw [← hconv, hback] at r0 r1
 obtain ⟨k2, e2⟩ := r0.at
 obtain ⟨k4, e4⟩ := r1.at
 obtain ⟨K3, h3⟩ := ev_copy (l.map mkP) (by simp; omega) hlen
 obtain ⟨K4, h4⟩ := ev_bps (l.map mkP) (by simp; omega) hlen
 rw [hback] at h4
 exact ⟨_, _, max K1 K2, k1, k2, k3, k4, max K1 (max K3 K4), ⟨h1 _ (by omega), h2 _ (by omega), Rq_text hp'⟩, e1, e2, e3, e4, ⟨h1 _ (by omega), h3 _ (by omega), h4 _ (by omega)⟩, hl8, h8, hp'⟩
def ltx.T11 : Bool × List (List Nat × List Nat) := (true, [([], []), ([0], [0]), ([], []), ([], []), ([], []), ([4], [4]), ([2, 3, 5], [2, 3, 5]), ([6, 1], [6]), ([1, 7], [1, 7])])
def ltx.B11 : List Nat := [0, 1, 0, 0, 0, 16, 60, 127, 255]
theorem ltx.tab11 : rtab .any (opsOf Tryz.f4 11) = ltx.T11 := by kernel_rfl
theorem ltx.bits11 : waitsOk ltx.T11.2 ltx.B11 = true := by kernel_rfl
theorem lawT (A : Option Addr) (c : Nat) (l : List S33) (w : World) (hr : Kd.C k33 w A l.length l) (hc : l.length ≤ c) (ht : Tab10 w) :
  Calls Tryz.prog 4 #[.slice A l.length c] w fun e w' => e = .returned (.bool true) ∧ Below w.heap.size w w' := by
 have HR := Aside0.mk hr
 have HC := Aside0.mk hc
 have HT := Aside0.mk ht
 clear hr hc ht
 obtain ⟨k5, h5⟩ := (ev_fits5 l).at
 have H5 := Aside0.mk h5
 clear h5
 cases hf0 : fits5 l with
 | false =>
  rw [hf0] at H5
  go_enter Tryz.func4, Tryz.ntmps4
  go_wp2_with ((go_at_call 5; refine (laws_zzFits5.calls k5 A c l false w HR.out HC.out H5.out).mono ?_; rintro e w1 ⟨rfl, hb1⟩))
  go_ret
  exact ⟨rfl, hb1⟩
 | true =>
  rw [hf0] at H5
  obtain ⟨k6, h6⟩ := (ev_arePatches l hf0).at
  have H6 := Aside0.mk h6
  clear h6
  cases ho : okPatches l with
  | false =>
   rw [ho] at H6
   clear hf0
   go_enter Tryz.func4, Tryz.ntmps4
   go_wp2_with (first | (go_at_call 5; refine (laws_zzFits5.calls k5 A c l true w HR.out HC.out H5.out).mono ?_; rintro e w1 ⟨rfl, hb1⟩) | (go_at_call 6; refine (laws_arePatches.calls k6 A c l false _ (Kd.C_below HR.out hb1) HC.out H6.out).mono ?_; rintro e w6 ⟨rfl, hb6⟩) | (go_at_call 7; refine (awake_calls _).mono ?_; rintro e w7 ⟨rfl, hb7⟩))
   go_ret
   exact ⟨rfl, bt_ (bt_ hb1 hb6) hb7⟩
  | true =>
   rw [ho] at H6
   obtain ⟨T, T1, k0, k1, k2, k3, k4, k7, ⟨f0, f1, f2⟩, f3, f4, f5, f6, ⟨f7, f8, f9⟩, f10, f11, f12⟩ := factsT l hf0 ho
   have HF := Aside0.mk hf0
   have F0 := Aside0.mk f0
   have F1 := Aside0.mk f1
   have F3 := Aside0.mk f3
   have F4 := Aside0.mk f4
   have F5 := Aside0.mk f5
   have F6 := Aside0.mk f6
   have F7 := Aside0.mk f7
   have F8 := Aside0.mk f8
   have F9 := Aside0.mk f9
   have F10 := Aside0.mk f10
   have F11 := Aside0.mk f11
   have F12 := Aside0.mk f12
   have FT := Aside0.mk f2
   clear f0 f1 f2 f3 f4 f5 f6 f7 f8 f9 f10 f11 f12 hf0 ho
   go_enter Tryz.func4, Tryz.ntmps4
   go_wp2_with (first | (go_at_call 5; refine (laws_zzFits5.calls k5 A c l true w HR.out HC.out H5.out).mono ?_; rintro e w1 ⟨rfl, hb1⟩) | (go_at_call 6; refine (laws_arePatches.calls k6 A c l true _ (Kd.C_below HR.out hb1) HC.out H6.out).mono ?_; rintro e w6 ⟨rfl, hb6⟩; have HB6 := Aside0.mk (bt_ hb1 hb6); clear hb6 hb1) | (go_at_call 11; refine (itext_calls k0 c A l _ Rq _ (Kd.C_below HR.out HB6.out) HC.out (HT.out.below HB6.out) F0.out (by rw [List.length_map]; have := F10.out; omega) F1.out).mono ?_; rw [FT.out]; rintro e w11 ⟨rfl, hb11⟩; have HB11 := Aside0.mk (bt_ HB6.out hb11); clear hb11 HB6) | (go_at_call 9; refine (laws_patchText.calls k1 A c l false _ _ (Kd.C_below HR.out HB11.out) HC.out F3.out).mono ?_; rintro e w9 ⟨rfl, hb9⟩; have HB9 := Aside0.mk (bt_ HB11.out hb9); clear hb9 HB11))
   go_loopg [23] l.length (fun kq v23 w' => ∃ i : Nat, v23 = .int .i64 (i : Int) ∧ Aside0 (i + kq = l.length) ∧ Aside0 (Below w.heap.size w w'))
   case atStart => exact ⟨0, rfl, ⟨by omega⟩, HB9⟩
   case round =>
    clear HB9
    obtain ⟨i, rfl, HI, HB⟩ := hrel
    by_cases ci : i < l.length
    ·cases gk with
     | zero => exact absurd HI.out (by omega)
     | succ g1 =>
      have c0 : decide ((i : Int) < (l.length : Int)) = true := decide_eq_true (by omega)
      have cc1 : decide (i < l.length) = true := decide_eq_true ci
      obtain ⟨ad, A4, c4, e_, x0, x1, x2, x3, x4, m1, i1⟩ := at_T33 HR.out (i : Int) (by omega) (by omega)
      cases e_
      have p1 := eq_true (show (0 : Int) ≤ (i : Int) by omega)
      have q1 := eq_true (show (i : Int) < (l.length : Int) by omega)
      have hrd : rd_T33 l (i : Int) = l[i] := by unfold rd_T33; exact getD_nat l _ i ci
      rw [hrd] at x0 x1 x2 x3 x4 m1 i1
      simp only [Int.toNat_natCast] at x0 x1 x2 x3 x4
      have hm := List.getElem_mem ci
      obtain ⟨kp, kq, ⟨g2, g3⟩, g4⟩ := factsP (fits5_one HF.out hm) (F12.out _ hm)
      have hone := Kd.C_take (Kd.C_drop HR.out (Nat.le_of_lt ci) HC.out) (m := 1) (by rw [List.length_drop]; omega)
      rw [if_neg (by have := HC.out; omega), List.drop_eq_getElem_cons ci, List.take_succ_cons, List.take_zero] at hone
      generalize l[i] = p at x0 x1 x2 x3 x4 m1 i1 g2 g3 g4 hone
      replace x0 := cel_ HB.out x0
      replace x1 := cel_ HB.out x1
      replace x2 := cel_ HB.out x2
      replace x3 := cel_ HB.out x3
      replace x4 := cel_ HB.out x4
      have G2 := Aside0.mk g2
      have G3 := Aside0.mk g3
      have G4 := Aside0.mk g4
      have I1 := Aside0.mk i1
      have M1 := Aside0.mk m1
      have ON := Aside0.mk hone
      have CI := Aside0.mk ci
      have LL := F10.out
      have LC := HC.out
      clear g2 g3 g4 i1 m1 hone ci hrd hm
      go_upto_region 11 with (fail)
      have HD := Aside0.mk (blk_new wr (.cells #[.int .i64 p.f0, .int .i64 p.f1, .int .i64 p.f2, .int .i64 p.f3, .slice A4 p.f4.length c4] 33))
      have HB1 := Aside0.mk (Below.alloc HB.out HB.out.size (.cells #[.int .i64 p.f0, .int .i64 p.f1, .int .i64 p.f2, .int .i64 p.f3, .slice A4 p.f4.length c4] 33))
      clear HB x0 x1 x2 x3 x4
      generalize wr.heap.size = gd at HD ⊢
      refine wp_at (fun W => W.heap[gd]? = some (.cells #[.int .i64 p.f0, .int .i64 p.f1, .int .i64 p.f2, .int .i64 p.f3, .slice A4 p.f4.length c4] 33 (0, 0)) ∧ Below w.heap.size w W) ⟨HD.out, HB1.out⟩ ?_
      clear HD HB1
      rintro W ⟨hd, hb⟩
      have HB := Aside0.mk (bD_ hb)
      have hs : ∀ W2, Below W.drew.heap.size W.drew W2 → (W2.cell? ⟨gd, 0, none⟩ = some (.int .i64 p.f0) ∧ W2.cell? ⟨gd, 1, none⟩ = some (.int .i64 p.f1) ∧ W2.cell? ⟨gd, 2, none⟩ = some (.int .i64 p.f2) ∧ W2.cell? ⟨gd, 3, none⟩ = some (.int .i64 p.f3) ∧ W2.cell? ⟨gd, 4, none⟩ = some (.slice A4 p.f4.length c4)) := fun W2 hb2 => by
       have h_ := blk_below (kD_ hd) hb2
       exact ⟨cell_of h_ (i := 0) rfl, cell_of h_ (i := 1) rfl, cell_of h_ (i := 2) rfl, cell_of h_ (i := 3) rfl, cell_of h_ (i := 4) rfl⟩
      clear hd hb
      refine sA_ (fun w' => w'.cell? ⟨gd, 0, none⟩ = some (.int .i64 p.f0) ∧ w'.cell? ⟨gd, 1, none⟩ = some (.int .i64 p.f1) ∧ w'.cell? ⟨gd, 2, none⟩ = some (.int .i64 p.f2) ∧ w'.cell? ⟨gd, 3, none⟩ = some (.int .i64 p.f3) ∧ w'.cell? ⟨gd, 4, none⟩ = some (.slice A4 p.f4.length c4)) [] ltx.tab11 ltx.bits11 (hs _ (Below.refl _ _)) (fun hHeld HT_ HW_ => ?_)
      generalize W.drew = W0 at HB hs hHeld ⊢
      refine tA_ 0 (h:=?_)
      refine pA_ 2 (h:=pA_ 3 (h:=pA_ 4 (h:=?_)))
      have hic := CI.out
      have wi := w64s i (by omega)
      have d1 : (0 ≤ (i : Int) + 1) = True := eq_true (by omega)
      have d2 : ((i : Int) + 1 ≤ (c : Int)) = True := eq_true (by omega)
      have d3 : (c = i) = False := eq_false (by omega)
      refine pA_ 5 (h:=pA_ 6 (h:=?_))
      clear d1 d2 d3 wi hic
      refine oA_ 1 (some 29) (h:=fun K hK => ?_)
      refine gA_ Tryz.func12 #[.agg #[.int .i64 p.f0, .int .i64 p.f1, .int .i64 p.f2, .int .i64 p.f3, .slice A4 p.f4.length c4]] ?_
      refine (istr_calls kp c4 A4 p (mkP p) (Rq (mkP p)) _ (Kd.C_below I1.out HB.out) M1.out (HT.out.below HB.out) G2.out G3.out).mono ?_
      rintro e w12 ⟨rfl, hb12⟩
      refine ⟨_, rfl, ?_⟩
      have HB2 := Aside0.mk (bt_ HB.out hb12)
      refine hK.out _ _ (hs _ hb12) (fun hHeld => ?_)
      clear hK K
      refine nA_ (h:=?_)
      refine oA_ 7 (some 35) (h:=fun K hK => ?_)
      refine gA_ Tryz.func9 #[.slice (some (ad.add (i * 5))) 1 (c - i), .bool false] ?_
      refine (laws_patchText.calls kq (some (ad.add (i * 5))) (c - i) [p] false _ _ (Kd.C_below ON.out HB2.out) (by have := CI.out; simp only [List.length_cons, List.length_nil]; omega) G4.out).mono ?_
      rintro e w13 ⟨rfl, hb13⟩
      refine ⟨_, rfl, ?_⟩
      have HB3 := Aside0.mk (bt_ HB2.out hb13)
      refine hK.out _ _ (hs _ (bt_ hb12 hb13)) (fun hHeld => ?_)
      clear hK K
      refine nA_ (h:=?_)
      refine pA_ 8 (h:=?_)
      refine dA_ (h:=?_)
      clear HT_ HW_ hs hHeld HB HB2 hb12 hb13
      go_wp2
      go_roundg g1
      case measure => have := HI.out; omega
      case rel => exact ⟨i + 1, by rw [w64s i (by have := CI.out; omega)], ⟨by have := HI.out; omega⟩, HB3⟩
    ·have c0 : decide ((i : Int) < (l.length : Int)) = false := decide_eq_false (by omega)
     have cc1 : decide (i < l.length) = false := decide_eq_false ci
     go_upto_region 15 with ((go_at_call 8; refine (pread.calls k2 _ l _ _ F4.out).mono ?_; rintro e w8 ⟨v8, rfl, hs8, hb8⟩; obtain ⟨A8, c8, e8⟩ := Kd.S_slice hs8; subst e8; replace HB := Aside0.mk (bt_ HB.out hb8); have H8 := Aside0.mk (Kd.S_reads' hs8).2.2; clear hb8 hs8))
     go_upto_region 17 with ((go_at_call 13; refine (same_calls c8 c A8 A l _ H8.out (Kd.C_below HR.out HB.out) (by have := F10.out; omega) (fun p hp => by have := F11.out p hp; omega)).mono ?_; rintro e w13 ⟨rfl, hb13⟩; replace HB := Aside0.mk (bt_ HB.out hb13); clear hb13))
     go_upto_region 18 with (first | (go_at_call 9; refine (laws_patchText.calls k3 A c l true _ _ (Kd.C_below HR.out HB.out) HC.out F5.out).mono ?_; rintro e w9 ⟨rfl, hb9⟩; replace HB := Aside0.mk (bt_ HB.out hb9); clear hb9) | (go_at_call 8; refine (pread.calls k4 _ l _ _ F6.out).mono ?_; rintro e w8 ⟨v8, rfl, hs8, hb8⟩; obtain ⟨A8, c8, e8⟩ := Kd.S_slice hs8; subst e8; replace HB := Aside0.mk (bt_ HB.out hb8); have H8 := Aside0.mk (Kd.S_reads' hs8).2.2; clear hb8 hs8))
     go_wp2_with (first | (go_at_call 13; refine (same_calls c8 c A8 A l _ H8.out (Kd.C_below HR.out HB.out) (by have := F10.out; omega) (fun p hp => by have := F11.out p hp; omega)).mono ?_; rintro e w13 ⟨rfl, hb13⟩; replace HB := Aside0.mk (bt_ HB.out hb13); clear hb13) | (go_at_call 13; refine (same_calls c9 c A9 A l _ H9.out (Kd.C_below HR.out HB.out) (by have := F10.out; omega) (fun p hp => by have := F11.out p hp; omega)).mono ?_; rintro e w13 ⟨rfl, hb13⟩; replace HB := Aside0.mk (bt_ HB.out hb13); clear hb13) | (go_at_call 14; refine (icopy_calls k7 c A l _ _ l _ (Kd.C_below HR.out HB.out) HC.out F7.out F8.out F9.out).mono ?_; rintro e w14 ⟨v9, rfl, hs9, hb9⟩; obtain ⟨A9, c9, e9⟩ := Kd.S_slice hs9; subst e9; replace HB := Aside0.mk (bt_ HB.out hb9); have H9 := Aside0.mk (Kd.S_reads' hs9).2.2; clear hb9 hs9) | (go_at_call 7; refine (awake_calls _).mono ?_; rintro e w7 ⟨rfl, hb7⟩; replace HB := Aside0.mk (bt_ HB.out hb7); clear hb7))
     go_ret
     exact ⟨rfl, HB.out⟩
open Go.RowKit Go.Proofs.YtgogjghfehcpoaaGreatDoorW.PrintWords Go.Proofs.YtgogjghfehcpoaaGreatDoorW.PrintLast Go.Proofs.YtgogjghfehcpoaaGreatDoorW.PrintMore Go.ChangeShapes Go.WideShapes Go.Deep
section
variable {H : Type} {enc : TypeId × Value → H} {W : World} {fuel : Nat}
theorem open_kd {α : Type} (d : Kd α) {t e : TypeId} (ht : Tryz.prog.underlying t = some (.slice e)) (hC : Tryz.prog.cellsOf e = d.sz)
  (hel : ∀ (n : Nat) (cs : List Value) (x : DataW H × List MemPlace), cs.length = d.sz → DataW.trod enc Tryz.prog W 0 (fun _ => true) true n e cs = some x → ∃ y, d.K W y cs)
  {cs : List Value} {x : DataW H × List MemPlace} (h : DataW.trod enc Tryz.prog W 0 (fun _ => true) true fuel t cs = some x) : ∃ (A : Option Addr) (c : Nat) (l : List α), cs = [.slice A l.length c] ∧ l.length ≤ c ∧ Kd.C d W A l.length l := by
 rcases open_slice ht h with ⟨rfl, _⟩ | ⟨a, len, cap, m, n, D, Pl, rfl, hb, hl, hm, hmm, hx, hi⟩
 ·exact ⟨none, 0, [], rfl, Nat.le_refl _, rfl, Nat.zero_le _, fun h0 => absurd h0 (by simp)⟩
 ·have hm2 : m = cap := by simpa using hmm
  have key : ∀ i, ∃ y : Option α, i < len → ∃ z, y = some z ∧ ∃ cs', cs'.length = d.sz ∧ d.K W z cs' ∧ ∀ j, j < d.sz → W.cell? (a.add (i * d.sz + j)) = cs'[j]? := by
   intro i
   by_cases hil : i < len
   ·obtain ⟨cs', hc, ht'⟩ := hi i (by omega)
    rw [hC] at hc
    obtain ⟨_, hcl, hat⟩ := World.cells?_some hc
    obtain ⟨y, hy⟩ := hel _ _ _ hcl ht'
    refine ⟨some y, fun _ => ⟨y, rfl, cs', hcl, hy, fun j hj => ?_⟩⟩
    rw [← hat j hj, Go.Deep.add_add]
   ·exact ⟨none, fun h_ => absurd h_ hil⟩
  let f : Nat → Option α := fun i => Classical.choose (key i)
  have hf : ∀ i, i < len → ∃ z, f i = some z ∧ ∃ cs', cs'.length = d.sz ∧ d.K W z cs' ∧ ∀ j, j < d.sz → W.cell? (a.add (i * d.sz + j)) = cs'[j]? := fun i => Classical.choose_spec (key i)
  let l : List α := (List.range len).filterMap f
  have hl2 : ∀ n, n ≤ len → ((List.range n).filterMap f).length = n ∧ ∀ j, j < n → ((List.range n).filterMap f)[j]? = f j := by
   intro n
   induction n with
   | zero => intro _; exact ⟨rfl, fun j hj => by omega⟩
   | succ n ih =>
    intro hn
    obtain ⟨h1, h2⟩ := ih (by omega)
    obtain ⟨z, hz, _⟩ := hf n (by omega)
    have e1 : (List.range (n + 1)).filterMap f = (List.range n).filterMap f ++ [z] := by
     rw [List.range_succ, List.filterMap_append]
     simp [hz]
    rw [e1]
    refine ⟨by rw [List.length_append, h1]; rfl, fun j hj => ?_⟩
    by_cases hjn : j < n
    ·rw [List.getElem?_append_left (by omega)]
     exact h2 j hjn
    ·have : j = n := by omega
     subst this
     rw [List.getElem?_append_right (by omega), h1, Nat.sub_self, hz]
     rfl
  obtain ⟨hll, hlg⟩ := hl2 len (Nat.le_refl _)
  refine ⟨some a, cap, l, by rw [hll], by rw [hll]; exact hl, ?_⟩
  refine ⟨rfl, by rw [hll]; unfold maxLen at hm; omega, fun _ => ⟨a, rfl, fun j p hj => ?_⟩⟩
  have hjl : j < len := by
   have := (List.getElem?_eq_some_iff.1 hj).1
   rw [hll] at this
   exact this
  rw [hlg j hjl] at hj
  obtain ⟨z, hz, cs', c1, c2, c3⟩ := hf j hjl
  rw [hz] at hj
  have hzp := Option.some.inj hj
  subst hzp
  refine ⟨cs', c1, c2, fun i u hu => ?_⟩
  have hi' : i < d.sz := by
   have := (List.getElem?_eq_some_iff.1 hu).1
   omega
  rw [c3 i hi', hu]
theorem two_cells {cs : List Value} (h : cs.length = 2) : ∃ a b, cs = [a, b] := by
 match cs, h with
 | [a, b], _ => exact ⟨a, b, rfl⟩
theorem five_cells {cs : List Value} (h : cs.length = 5) : ∃ a b c d e, cs = [a, b, c, d, e] := by
 match cs, h with
 | [a, b, c, d, e], _ => exact ⟨a, b, c, d, e, rfl⟩
theorem cells2 : Tryz.prog.cellsOf 2 = 1 := by kernel_rfl
theorem cells9 : Tryz.prog.cellsOf 9 = 1 := by kernel_rfl
theorem cells31 : Tryz.prog.cellsOf 31 = 1 := by kernel_rfl
theorem cells70 : Tryz.prog.cellsOf 70 = 2 := by kernel_rfl
theorem cells33 : Tryz.prog.cellsOf 33 = 5 := by kernel_rfl
theorem open_D {n : Nat} {cs : List Value} {x : DataW H × List MemPlace} (hl : cs.length = 2) (h : DataW.trod enc Tryz.prog W 0 (fun _ => true) true n 70 cs = some x) : ∃ y, k70.K W y cs := by
 obtain ⟨ys, m, _, _, _, hyl, hf⟩ := DataW.trod_struct Tryz.underlying70 h
 obtain ⟨a, b, rfl⟩ := two_cells hl
 have h0 : DataW.trod enc Tryz.prog W 0 (fun _ => true) true m 2 (([a, b].drop 0).take (Tryz.prog.cellsOf 2)) = ys[0]? := hf 0 _ rfl
 have h1 : DataW.trod enc Tryz.prog W 0 (fun _ => true) true m 9 (([a, b].drop 1).take (Tryz.prog.cellsOf 9)) = ys[1]? := hf 1 _ rfl
 have hyl' : ys.length = 2 := hyl
 rw [List.getElem?_eq_getElem (by omega)] at h0 h1
 rw [cells2] at h0
 rw [cells9] at h1
 obtain ⟨k, e0, _⟩ := DataW.trod_int Tryz.underlying2 h0
 obtain ⟨s, e1, _⟩ := DataW.trod_string Tryz.underlying9 h1
 cases e0
 cases e1
 exact ⟨⟨k, s⟩, k70_mk W _⟩
theorem open_P {n : Nat} {cs : List Value} {x : DataW H × List MemPlace} (hl : cs.length = 5) (h : DataW.trod enc Tryz.prog W 0 (fun _ => true) true n 33 cs = some x) : ∃ y, k33.K W y cs := by
 obtain ⟨ys, m, _, _, _, hyl, hf⟩ := DataW.trod_struct Tryz.underlying33 h
 obtain ⟨a, b, c, d, e, rfl⟩ := five_cells hl
 have h0 : DataW.trod enc Tryz.prog W 0 (fun _ => true) true m 2 (([a, b, c, d, e].drop 0).take (Tryz.prog.cellsOf 2)) = ys[0]? := hf 0 _ rfl
 have h1 : DataW.trod enc Tryz.prog W 0 (fun _ => true) true m 2 (([a, b, c, d, e].drop 1).take (Tryz.prog.cellsOf 2)) = ys[1]? := hf 1 _ rfl
 have h2 : DataW.trod enc Tryz.prog W 0 (fun _ => true) true m 2 (([a, b, c, d, e].drop 2).take (Tryz.prog.cellsOf 2)) = ys[2]? := hf 2 _ rfl
 have h3 : DataW.trod enc Tryz.prog W 0 (fun _ => true) true m 2 (([a, b, c, d, e].drop 3).take (Tryz.prog.cellsOf 2)) = ys[3]? := hf 3 _ rfl
 have h4 : DataW.trod enc Tryz.prog W 0 (fun _ => true) true m 31 (([a, b, c, d, e].drop 4).take (Tryz.prog.cellsOf 31)) = ys[4]? := hf 4 _ rfl
 have hyl' : ys.length = 5 := hyl
 rw [List.getElem?_eq_getElem (by omega)] at h0 h1 h2 h3 h4
 rw [cells2] at h0
 rw [cells2] at h1
 rw [cells2] at h2
 rw [cells2] at h3
 rw [cells31] at h4
 obtain ⟨k0, e0, _⟩ := DataW.trod_int Tryz.underlying2 h0
 obtain ⟨k1, e1, _⟩ := DataW.trod_int Tryz.underlying2 h1
 obtain ⟨k2, e2, _⟩ := DataW.trod_int Tryz.underlying2 h2
 obtain ⟨k3, e3, _⟩ := DataW.trod_int Tryz.underlying2 h3
 obtain ⟨A4, c4, l4, e4, hc4, hr4⟩ := open_kd k70 Tryz.underlying31 cells70 (fun _ _ _ hl h => open_D hl h) h4
 cases e0
 cases e1
 cases e2
 cases e3
 cases e4
 exact ⟨⟨k0, k1, k2, k3, l4⟩, k33_mk W _ hc4 hr4⟩
theorem open_Ps {b0 : Nat} {v : Value} {dd : DataW H} {ps : List MemPlace} (hval : Value.okWide Tryz.prog W .any b0 22 v) (h : DataW.Trod enc Tryz.prog W 0 (fun _ => true) true 22 v dd ps) :
  ∃ (A : Option Addr) (c : Nat) (l : List S33), v = .slice A l.length c ∧ l.length ≤ c ∧ Kd.C k33 W A l.length l := by
 obtain ⟨a, len, cap, rfl⟩ := okWide_slice Tryz.underlying22 hval
 obtain ⟨fuel, hf⟩ := h
 obtain ⟨A, c, l, e, hc, hr⟩ := open_kd k33 Tryz.underlying22 cells33 (fun _ _ _ hl h => open_P hl h) hf
 refine ⟨A, c, l, ?_, hc, hr⟩
 simpa [Value.cells] using e
end
end Go.Proofs.YtgogjghfehcpoaaGreatDoor.QT
namespace Go.Proofs.YtgogjghfehcpoaaGreatDoor
open Go.ChangeShapes Go.WideShapes Go.ChangeAt Go.RowKit
open Go.ChangeMaps (open_string shut_string)
set_option linter.unusedVariables false
theorem own : ownKnob Tryz.prog.godebug = none := by kernel_rfl
theorem laidOut : laidOutB Tryz.prog = true := by kernel_rfl
theorem tab10_of {W : World} (h : laidMetH Tryz.prog Rows.fnPatchTextRow.laid W) : QT.Tab10 W := by
 rw [MakeChecks.laidMetH_plain _ _ _ (by kernel_rfl)] at h
 obtain ⟨ps, h0, _⟩ := h
 obtain ⟨_, _, _, _, _, _, _, _, _, _, h1, _⟩ := h0
 obtain ⟨_, _, _, _, _, _, _, _, _, _, h2, _⟩ := h1
 obtain ⟨g, t, cs, fuel, p, q, hg, ht, hvar, hd, _, _⟩ := h2
 have h3 : (Tryz.prog.globalNamed "internal/strconv.uint64pow10").bind (fun g => (Tryz.prog.globals[g]?).map (·.type)) = some 186 := by kernel_rfl
 rw [hg, Option.bind_some, ht] at h3
 obtain rfl := Option.some.inj h3
 have h4 : (Rows.laid_internal_strconv_uint64pow10 : DataW Unit) = Lib.tabData .u64 Lib.pow10Tab := by kernel_rfl
 rw [h4] at hd
 have h5 := Lib.cells_of_tab (show Tryz.prog.underlying 186 = some (.array 20 165) by kernel_rfl) (show Tryz.prog.underlying 165 = some (.int .u64) by kernel_rfl) (by kernel_rfl) (by kernel_rfl) hd
 show Lib.TabIs _ _ _ _ _
 unfold Lib.TabIs
 rw [hvar, ← h5]
theorem liftedT (os : Os) (started : os.Started) (H : Type) (enc : TypeId × Value → H) :
  ReturnsInHanded {} Tryz.checked os 4 .any (fun w args => (Rows.fnPatchTextSpec.pre enc Tryz.prog Tryz.f4 Rows.fnPatchTextRow.domain false w args ∧ laidMetH Tryz.prog Rows.fnPatchTextRow.laid w) ∧ sizedMet enc Tryz.prog Tryz.f4 (OpenSpec.ofChange Rows.fnPatchTextSpec) false w args)
   (Rows.fnPatchTextSpec.post enc Tryz.prog Tryz.f4 false true false false) := by
 refine returnsInHanded_of_change_and (C := Tryz.checked) (X := fun w _ => laidMetH Tryz.prog Rows.fnPatchTextRow.laid w) (fun _ _ _ hh h => h.of_heap hh) own started (by kernel_rfl) Tryz.func4
  (ChangeSpec.witness_shaped (enc := enc) (C := Tryz.checked) (os := os) (X := fun w _ => laidMetH Tryz.prog Rows.fnPatchTextRow.laid w) false (World.laidAll Tryz.prog os Rows.fnPatchTextRow.laid) #[.slice none 0 0] 8 (World.laidAll_os _ _ _)
   (World.shaped_of_ZipB (by kernel_rfl) (by kernel_rfl)) (by kernel_rfl) (by kernel_rfl) (by kernel_rfl)
   (by rw [MakeChecks.laidMetH_plain _ _ _ (by kernel_rfl)]; exact laidMet_laidAll _ (by kernel_rfl) (by kernel_rfl))) ?_
 intro W base args ds gs before hval0 hW hc h8 hL h9
 have hval : ∀ (j : Nat) t v, Tryz.f4.params[j]? = some t → args[j]? = some v → Value.okWide Tryz.prog W .any base t v := hval0
 have hW' := hW
 obtain ⟨p, q, hA0, hV, rfl, _, _⟩ := hW
 have hA : DataW.TrodAll enc Tryz.prog W 0 (fun _ => true) true Tryz.f4.params.toList args.toList ds p := hA0
 rw [Tryz.params4] at hA hval
 obtain ⟨v0, vs0, d0, ds0, p0, q0, hargs, rfl, rfl, h0, r0⟩ := trodAll_cons hA
 obtain ⟨rfl, rfl, rfl⟩ := trodAll_nil r0
 obtain rfl : args = #[v0] := by cases args; simp_all
 obtain ⟨rfl, rfl⟩ := trodVars_none hV
 have k0 := h0
 have lt0 : ∀ x ∈ p0, x.block < W.heap.size := by obtain ⟨m, hm⟩ := k0; exact DataW.trod_lt m _ _ _ hm
 obtain ⟨A, c, l, rfl, hlc, hr⟩ := QT.open_Ps (hval 0 22 v0 rfl rfl) h0
 clear hA0 hval0
 refine (QT.lawT A c l W hr hlc (tab10_of hL)).mono fun e W' ⟨he, bel⟩ => ?_
 subst he
 exact ⟨_, rfl, _, _, _, [], _, [], hW', trodAll_mk1 (shut_bool Tryz.underlying4 _), (trodAll_cons_mk (Below.trod laidOut (by kernel_rfl) (of_decide_eq_true (by kernel_rfl)) k0 bel lt0) trodAll_mk0), rfl, bel.frame _, fun h => by cases h⟩
theorem saidT : Rows.FnPatchTextSaid :=
 OpenClaim.holds_of_wide 4 Tryz.f4 rfl rfl rfl rfl rfl rfl rfl ⟨rfl, rfl, rfl, rfl, rfl⟩ rfl rfl rfl rfl rfl (by kernel_rfl) Tryz.func4 (by kernel_rfl)
  (of_decide_eq_true (by kernel_rfl)) (by unfold Func.isWrapper; first | (rw [if_pos (by decide +kernel)]; kernel_rfl) | (rw [if_neg (by decide +kernel)]; exact ⟨rfl, rfl⟩))
  (fun os started H enc _ => liftedT os started H enc)
theorem fnPatchText_holds : Rows.FnPatchTextCardSaid :=
 Claim7.holds_tied_plain_at .later [] [.data, .data, .data, .data, .sentinel, .sentinel, .sentinel, .pinned] true (true, "ee1e998b0cfbdc22c1cbf08ec3d789573cda507e05ba253133c191073302050a") true
  saidT (fun _ h => by cases h) (by kernel_rfl) (fun _ h => by cases h) fnPatchText_row_tie rfl ⟨rfl, rfl⟩ (by kernel_rfl) rfl
  (fun f fn hf hfn => by
   obtain rfl : f = 4 := Option.some.inj ((show Tryz.prog.funcNamed "pub-emendator/laws.FnPatchText" = some 4 by kernel_rfl).symm.trans hf) |>.symm
   obtain rfl : fn = Tryz.f4 := (Option.some.inj (Tryz.func4.symm.trans hfn)).symm
   exact ⟨by kernel_rfl, fun j t ht => by
    rw [Tryz.params4] at ht
    obtain rfl : t = 22 := by
     rcases j with _ | j
     ·simpa using ht.symm
     ·simp at ht
    exact (show Tryz.prog.wantsStandIn 22 = false by kernel_rfl)⟩)
  (by kernel_rfl)
end Go.Proofs.YtgogjghfehcpoaaGreatDoor
