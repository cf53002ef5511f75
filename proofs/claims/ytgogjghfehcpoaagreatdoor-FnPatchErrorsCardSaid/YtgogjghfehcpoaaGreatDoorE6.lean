/- Part 6 of the proof of: FnPatchErrors: the statement, at every input; its condition: the listed variables read as the row lists them. -/
import Derived.Test.YtgogjghfehcpoaaGreatDoorE5
import Derived.Test.YtgogjghfehcpoaaGreatDoorProg
import Derived.Lib.BufferOld
import Derived.Lib.BufferKept
import Derived.Lib.BufferWrite
import Derived.Handy
set_option maxHeartbeats 8000000
set_option maxRecDepth 100000
namespace Go.Proofs.YtgogjghfehcpoaaGreatDoor.QT
open Go.RowKit Go.Proofs.YtgogjghfehcpoaaGreatDoorW.PrintWords Go.Proofs.YtgogjghfehcpoaaGreatDoorW.PrintLast Go.Proofs.YtgogjghfehcpoaaGreatDoorW.PrintMore
set_option linter.unusedVariables false
set_option linter.unusedSimpArgs false
mutual
def p_PatchAddContext.l0 : Nat → ByteArray → ByteArray → Int → List (S93) → Int → Int → Int → Int → Option ((List (S93)) × Int × Int × Int × Int)
 | 0, _, _, _, _, _, _, _, _ => none
 | k + 1, x2, x7, x8, x608000, x608001, x608002, x608003, x608004 => (q_zzIndex.f k x2 x7).bind fun t609 => ((q_zzLastIndex.f k x2 x7).bind fun t610 => (if t609 = t610 then (p_PatchAddContext.j1 k x2 x8 false x608000 x608001 x608002 x608003 x608004) else (p_PatchAddContext.j1 k x2 x8 (decide ((x7.size : Int) < (32 - (2 * 4)))) x608000 x608001 x608002 x608003 x608004)))
def p_PatchAddContext.j1 : Nat → ByteArray → Int → Bool → List (S93) → Int → Int → Int → Int → Option ((List (S93)) × Int × Int × Int × Int)
 | 0, _, _, _, _, _, _, _, _ => none
 | k + 1, x2, x8, x47, x608000, x608001, x608002, x608003, x608004 => if x47 = true then ((q_max.f 0 (wrap64 (x608002 - (wrap64 (x8 + 4))))).bind fun t611 => ((q_min.f (x2.size : Int) (wrap64 ((wrap64 (x608002 + x608003)) + (wrap64 (x8 + 4))))).bind fun t612 => (if 0 ≤ t611 then (if t611 ≤ t612 then (if t612 ≤ (x2.size : Int) then (p_PatchAddContext.l0 k x2 (x2.extract (t611 : Int).toNat (t612 : Int).toNat) (wrap64 (x8 + 4)) x608000 x608001 x608002 x608003 x608004) else (none)) else (none)) else (none)))) else ((q_max.f 0 (wrap64 (x608002 - (wrap64 (x8 + 4))))).bind fun t613 => (if 0 ≤ t613 then (if t613 ≤ x608002 then (if x608002 ≤ (x2.size : Int) then (if ((x2.extract (t613 : Int).toNat (x608002 : Int).toNat).size : Int) = 0 then (none) else ((some (([(⟨0, x2.extract (t613 : Int).toNat (x608002 : Int).toNat⟩ : S93)] : List (S93)) : List (S93))).bind fun y614 => (if y614.length + x608000.length < 5864062014805 then ((some (y614 ++ x608000 : List (S93))).bind fun y617 => ((q_min.f (x2.size : Int) (wrap64 ((wrap64 (x608002 + x608003)) + (wrap64 (x8 + 4))))).bind fun t620 => (if 0 ≤ (wrap64 (x608002 + x608003)) then (if (wrap64 (x608002 + x608003)) ≤ t620 then (if t620 ≤ (x2.size : Int) then (if ((x2.extract ((wrap64 (x608002 + x608003)) : Int).toNat (t620 : Int).toNat).size : Int) = 0 then (none) else (if y617.length < 5864062014805 then (some ((y617 ++ [(⟨0, x2.extract ((wrap64 (x608002 + x608003)) : Int).toNat (t620 : Int).toNat⟩ : S93)]), wrap64 (x608001 - ((x2.extract (t613 : Int).toNat (x608002 : Int).toNat).size : Int)), wrap64 (x608002 - ((x2.extract (t613 : Int).toNat (x608002 : Int).toNat).size : Int)), wrap64 (x608003 + (wrap64 (((x2.extract (t613 : Int).toNat (x608002 : Int).toNat).size : Int) + ((x2.extract ((wrap64 (x608002 + x608003)) : Int).toNat (t620 : Int).toNat).size : Int)))), wrap64 (x608004 + (wrap64 (((x2.extract (t613 : Int).toNat (x608002 : Int).toNat).size : Int) + ((x2.extract ((wrap64 (x608002 + x608003)) : Int).toNat (t620 : Int).toNat).size : Int)))))) else (none))) else (none)) else (none)) else (none)))) else (none)))) else (none)) else (none)) else (none)))
end
def p_PatchAddContext.f (k : Nat) (a0 : Nat) (l1_0 : List (S93)) (a1_1 : Int) (a1_2 : Int) (a1_3 : Int) (a1_4 : Int) (a2 : ByteArray) : Option ((List (S93)) × Int × Int × Int × Int) := if (a2.size : Int) = 0 then (none) else (if 0 ≤ a1_2 then (if a1_2 ≤ (wrap64 (a1_2 + a1_3)) then (if (wrap64 (a1_2 + a1_3)) ≤ (a2.size : Int) then (p_PatchAddContext.l0 k a2 (a2.extract (a1_2 : Int).toNat ((wrap64 (a1_2 + a1_3)) : Int).toNat) 0 l1_0 a1_1 a1_2 a1_3 a1_4) else (none)) else (none)) else (none))
theorem p_PatchAddContext.calls (k : Nat) (a0 : Nat) (A1_0 : Option Addr) (c1_0 : Nat) (l1_0 : List (S93)) (a1_1 : Int) (a1_2 : Int) (a1_3 : Int) (a1_4 : Int) (a2 : ByteArray) (r1 : List (S93)) (r2 : Int) (r3 : Int) (r4 : Int) (r5 : Int) (w : World) (hd0 : DmpAt w a0) (hr1_0 : Kd.C k93 w A1_0 l1_0.length l1_0) (hc1_0 : l1_0.length ≤ c1_0) (h : p_PatchAddContext.f k a0 l1_0 a1_1 a1_2 a1_3 a1_4 a2 = some (r1, r2, r3, r4, r5)) :
  Calls Tryz.prog 95 #[.pointer (some ⟨a0, 0, none⟩), .agg #[.slice A1_0 l1_0.length c1_0, .int .i64 a1_1, .int .i64 a1_2, .int .i64 a1_3, .int .i64 a1_4], .string a2] w fun e w' => ∃ v0_ : Value, e = .returned (.agg #[v0_, .int .i64 r2, .int .i64 r3, .int .i64 r4, .int .i64 r5]) ∧ Kd.R k93 93 w' w.heap.size (fun _ => True) v0_ r1 ∧ Below w.heap.size w w' := by
 have hu67 := Tryz.underlying67
 have hu93 := Tryz.underlying93
 have HD0 := Aside0.mk hd0
 clear hd0
 have HR1_0 := Aside0.mk hr1_0
 have HC1_0 := Aside0.mk hc1_0
 clear hr1_0 hc1_0
 have HB := aS_ (Below.refl w.heap.size w)
 have H : (if (a2.size : Int) = 0 then (none) else (if 0 ≤ a1_2 then (if a1_2 ≤ (wrap64 (a1_2 + a1_3)) then (if (wrap64 (a1_2 + a1_3)) ≤ (a2.size : Int) then (p_PatchAddContext.l0 k a2 (a2.extract (a1_2 : Int).toNat ((wrap64 (a1_2 + a1_3)) : Int).toNat) 0 l1_0 a1_1 a1_2 a1_3 a1_4) else (none)) else (none)) else (none))) = some (r1, r2, r3, r4, r5) := h
 clear h
 by_cases c4 : (a2.size : Int) = 0
 ·rw [if_pos c4] at H
  exact absurd H (by simp)
 ·rw [if_neg c4] at H
  have c4b0 := beq_eq_false_iff_ne.mpr c4
  have c4b1 := bne_iff_ne.mpr c4
  replace H := yes_ H; obtain ⟨c5, H⟩ := H
  have c5b0 := eq_true c5
  have c5b1 := decide_eq_true c5
  clear c5
  replace H := yes_ H; obtain ⟨c6, H⟩ := H
  have c6b0 := eq_true c6
  have c6b1 := decide_eq_true c6
  replace H := yes_ H; obtain ⟨c7, H⟩ := H
  have c7b0 := eq_true c7
  have c7b1 := decide_eq_true c7
  have H' := Aside0.mk H
  clear H
  go_enter Tryz.func95, Tryz.ntmps95
  go_wp2_with (first | ((with_reducible refine gate_dst (N := 4) rfl ?_); (try (refine gate_guard (by rfl) ?_; dsimp only)); refine box_event ?hg (N := 4) ?hd (cs := #[.slice A1_0 l1_0.length c1_0, .int .i64 a1_1, .int .i64 a1_2, .int .i64 a1_3, .int .i64 a1_4]) (t := 67) ?hr ?_; (case hd => rfl); (case hg => rfl); (case hr => first | (go_simp; done) | (go_simp; rfl)); intro gb607 hg w8 hbox hb; have BK607 := aS_ (hbox); have GW607 := aS_ ((by rw [hg]; exact (bz_ (bel_ HB.out)) : w.heap.size ≤ gb607)); have GE607 := aS_ ((by rw [hg]; exact (bz_ (bel_ HB.out)) : w.heap.size ≤ gb607)); replace HB := aS_ (bt_ (bel_ HB.out) hb); clear hb hbox hg) | ((with_reducible refine gate_dst (N := 6) rfl ?_); (try (refine gate_guard (by rfl) ?_; dsimp only)); refine box_event ?hg (N := 6) ?hd (cs := #[.slice none 0 0, .int .i64 0, .int .i64 0, .int .i64 0, .int .i64 0]) (t := 67) ?hr ?_; (case hd => rfl); (case hg => rfl); (case hr => first | (go_simp; done) | (go_simp; rfl)); intro gb608 hg w9 hbox hb; have BK608 := aS_ (hbox); have GW608 := aS_ ((by rw [hg]; exact (bz_ (by with_reducible repeat first | exact HB.out | apply bA_ | apply bN_ | apply bD_ | refine bS_ ?_ GE607.out)) : w.heap.size ≤ gb608)); have GE608 := aS_ ((by rw [hg]; exact (bz_ (by with_reducible repeat first | exact HB.out | apply bA_ | apply bN_ | apply bD_ | refine bS_ ?_ GE607.out)) : w.heap.size ≤ gb608)); replace HB := aS_ (bt_ (by with_reducible repeat first | exact HB.out | apply bA_ | apply bN_ | apply bD_ | refine bS_ ?_ GE607.out) hb); have NB607_608 := aS_ ((by rw [hg]; exact Nat.ne_of_lt (blk_lt (g := gb607) (o := .cells #[.slice A1_0 l1_0.length c1_0, .int .i64 a1_1, .int .i64 a1_2, .int .i64 a1_3, .int .i64 a1_4] 67 (0, 0)) (blk_st BK607.out)) : gb607 ≠ gb608)); have NB608_607 := aS_ ((by rw [hg]; exact Nat.ne_of_gt (blk_lt (g := gb607) (o := .cells #[.slice A1_0 l1_0.length c1_0, .int .i64 a1_1, .int .i64 a1_2, .int .i64 a1_3, .int .i64 a1_4] 67 (0, 0)) (blk_st BK607.out)) : gb608 ≠ gb607)); replace BK607 := aS_ (blk_below (g := gb607) (o := .cells #[.slice A1_0 l1_0.length c1_0, .int .i64 a1_1, .int .i64 a1_2, .int .i64 a1_3, .int .i64 a1_4] 67 (0, 0)) (blk_st BK607.out) hb); clear hb hbox hg; have hnb10 := NB607_608.out; have hnc10 := NB608_607.out; obtain ⟨hcz11_0, hcz11_1, hcz11_2, hcz11_3, hcz11_4, hfz11_0, hfz11_1, hfz11_2, hfz11_3, hfz11_4⟩ := blk5 BK607.out))
  repeat (go_quiet (first | ((with_reducible refine gate_dst (N := 4) rfl ?_); (try (refine gate_guard (by rfl) ?_; dsimp only)); refine box_event ?hg (N := 4) ?hd (cs := #[.slice A1_0 l1_0.length c1_0, .int .i64 a1_1, .int .i64 a1_2, .int .i64 a1_3, .int .i64 a1_4]) (t := 67) ?hr ?_; (case hd => rfl); (case hg => rfl); (case hr => first | (go_simp; done) | (go_simp; rfl)); intro gb607 hg w8 hbox hb; have BK607 := aS_ (hbox); have GW607 := aS_ ((by rw [hg]; exact (bz_ (bel_ HB.out)) : w.heap.size ≤ gb607)); have GE607 := aS_ ((by rw [hg]; exact (bz_ (bel_ HB.out)) : w.heap.size ≤ gb607)); replace HB := aS_ (bt_ (bel_ HB.out) hb); clear hb hbox hg) | ((with_reducible refine gate_dst (N := 6) rfl ?_); (try (refine gate_guard (by rfl) ?_; dsimp only)); refine box_event ?hg (N := 6) ?hd (cs := #[.slice none 0 0, .int .i64 0, .int .i64 0, .int .i64 0, .int .i64 0]) (t := 67) ?hr ?_; (case hd => rfl); (case hg => rfl); (case hr => first | (go_simp; done) | (go_simp; rfl)); intro gb608 hg w9 hbox hb; have BK608 := aS_ (hbox); have GW608 := aS_ ((by rw [hg]; exact (bz_ (by with_reducible repeat first | exact HB.out | apply bA_ | apply bN_ | apply bD_ | refine bS_ ?_ GE607.out)) : w.heap.size ≤ gb608)); have GE608 := aS_ ((by rw [hg]; exact (bz_ (by with_reducible repeat first | exact HB.out | apply bA_ | apply bN_ | apply bD_ | refine bS_ ?_ GE607.out)) : w.heap.size ≤ gb608)); replace HB := aS_ (bt_ (by with_reducible repeat first | exact HB.out | apply bA_ | apply bN_ | apply bD_ | refine bS_ ?_ GE607.out) hb); have NB607_608 := aS_ ((by rw [hg]; exact Nat.ne_of_lt (blk_lt (g := gb607) (o := .cells #[.slice A1_0 l1_0.length c1_0, .int .i64 a1_1, .int .i64 a1_2, .int .i64 a1_3, .int .i64 a1_4] 67 (0, 0)) (blk_st BK607.out)) : gb607 ≠ gb608)); have NB608_607 := aS_ ((by rw [hg]; exact Nat.ne_of_gt (blk_lt (g := gb607) (o := .cells #[.slice A1_0 l1_0.length c1_0, .int .i64 a1_1, .int .i64 a1_2, .int .i64 a1_3, .int .i64 a1_4] 67 (0, 0)) (blk_st BK607.out)) : gb608 ≠ gb607)); replace BK607 := aS_ (blk_below (g := gb607) (o := .cells #[.slice A1_0 l1_0.length c1_0, .int .i64 a1_1, .int .i64 a1_2, .int .i64 a1_3, .int .i64 a1_4] 67 (0, 0)) (blk_st BK607.out) hb); clear hb hbox hg; have hnb10 := NB607_608.out; have hnc10 := NB608_607.out; obtain ⟨hcz11_0, hcz11_1, hcz11_2, hcz11_3, hcz11_4, hfz11_0, hfz11_1, hfz11_2, hfz11_3, hfz11_4⟩ := blk5 BK607.out)); try go_wp2_with (first | ((with_reducible refine gate_dst (N := 4) rfl ?_); (try (refine gate_guard (by rfl) ?_; dsimp only)); refine box_event ?hg (N := 4) ?hd (cs := #[.slice A1_0 l1_0.length c1_0, .int .i64 a1_1, .int .i64 a1_2, .int .i64 a1_3, .int .i64 a1_4]) (t := 67) ?hr ?_; (case hd => rfl); (case hg => rfl); (case hr => first | (go_simp; done) | (go_simp; rfl)); intro gb607 hg w8 hbox hb; have n0_ := aS_ (bt_ (bel_ HB.out) hb); have n1_ := aS_ (hbox); have n2_ := aS_ ((by rw [hg]; exact (bz_ (bel_ HB.out)) : w.heap.size ≤ gb607)); have n3_ := aS_ ((by rw [hg]; exact (bz_ (bel_ HB.out)) : w.heap.size ≤ gb607)); clear HB; have HB := n0_; have BK607 := n1_; have GW607 := n2_; have GE607 := n3_; clear n0_ n1_ n2_ n3_; clear hb hbox hg) | ((with_reducible refine gate_dst (N := 6) rfl ?_); (try (refine gate_guard (by rfl) ?_; dsimp only)); refine box_event ?hg (N := 6) ?hd (cs := #[.slice none 0 0, .int .i64 0, .int .i64 0, .int .i64 0, .int .i64 0]) (t := 67) ?hr ?_; (case hd => rfl); (case hg => rfl); (case hr => first | (go_simp; done) | (go_simp; rfl)); intro gb608 hg w9 hbox hb; have n0_ := aS_ (blk_below (g := gb607) (o := .cells #[.slice A1_0 l1_0.length c1_0, .int .i64 a1_1, .int .i64 a1_2, .int .i64 a1_3, .int .i64 a1_4] 67 (0, 0)) (blk_st BK607.out) hb); have n1_ := aS_ (bt_ (by with_reducible repeat first | exact HB.out | apply bA_ | apply bN_ | apply bD_ | refine bS_ ?_ GE607.out) hb); have n2_ := aS_ (hbox); have n3_ := aS_ ((by rw [hg]; exact (bz_ (by with_reducible repeat first | exact HB.out | apply bA_ | apply bN_ | apply bD_ | refine bS_ ?_ GE607.out)) : w.heap.size ≤ gb608)); have n4_ := aS_ ((by rw [hg]; exact (bz_ (by with_reducible repeat first | exact HB.out | apply bA_ | apply bN_ | apply bD_ | refine bS_ ?_ GE607.out)) : w.heap.size ≤ gb608)); have n5_ := aS_ ((by rw [hg]; exact Nat.ne_of_lt (blk_lt (g := gb607) (o := .cells #[.slice A1_0 l1_0.length c1_0, .int .i64 a1_1, .int .i64 a1_2, .int .i64 a1_3, .int .i64 a1_4] 67 (0, 0)) (blk_st BK607.out)) : gb607 ≠ gb608)); have n6_ := aS_ ((by rw [hg]; exact Nat.ne_of_gt (blk_lt (g := gb607) (o := .cells #[.slice A1_0 l1_0.length c1_0, .int .i64 a1_1, .int .i64 a1_2, .int .i64 a1_3, .int .i64 a1_4] 67 (0, 0)) (blk_st BK607.out)) : gb608 ≠ gb607)); clear BK607; clear HB; have BK607 := n0_; have HB := n1_; have BK608 := n2_; have GW608 := n3_; have GE608 := n4_; have NB607_608 := n5_; have NB608_607 := n6_; clear n0_ n1_ n2_ n3_ n4_ n5_ n6_; clear hb hbox hg; have hnb10 := NB607_608.out; have hnc10 := NB608_607.out; obtain ⟨hcz11_0, hcz11_1, hcz11_2, hcz11_3, hcz11_4, hfz11_0, hfz11_1, hfz11_2, hfz11_3, hfz11_4⟩ := blk5 BK607.out)))
  go_loopg [7, 8] k (fun kq v7 v8 w' => ∃ (x7_1 : ByteArray) (x8_1 : Int), v7 = .string x7_1 ∧ v8 = .int .i64 x8_1 ∧ Aside0 (p_PatchAddContext.l0 kq a2 x7_1 x8_1 l1_0 a1_1 a1_2 a1_3 a1_4 = some (r1, r2, r3, r4, r5)) ∧ Aside0 (kq ≤ k) ∧ Aside0 (w'.heap[gb607]? = some (.cells #[(.slice A1_0 l1_0.length c1_0), .int .i64 a1_1, .int .i64 a1_2, .int .i64 a1_3, .int .i64 a1_4] 67 (0, 0))) ∧ Aside0 (w'.heap[gb608]? = some (.cells #[(.slice none 0 0), .int .i64 0, .int .i64 0, .int .i64 0, .int .i64 0] 67 (0, 0))) ∧ Aside0 (Below w.heap.size w w'))
  case atStart => exact ⟨(a2.extract (a1_2 : Int).toNat ((wrap64 (a1_2 + a1_3)) : Int).toNat), (0), (by first | rfl | simp [*]), (by first | rfl | simp [*]), H', ⟨Nat.le_refl _⟩, ⟨blk_st BK607.out⟩, ⟨blk_st BK608.out⟩, ⟨by with_reducible repeat first | exact HB.out | apply bA_ | apply bN_ | apply bD_ | refine bS_ ?_ GE607.out | refine bS_ ?_ GE608.out⟩⟩
  case round =>
   clear H'
   obtain ⟨x7_1, x8_1, rfl, rfl, HA, HK1, BK607, BK608, HB⟩ := hrel
   cases gk with
   | zero => exact absurd HA.out (by simp [p_PatchAddContext.l0])
   | succ k1 =>
    have H := HA.out; clear HA
    simp only [p_PatchAddContext.l0] at H
    have HC12 := Aside0.mk H
    clear H
    go_upto_region 5 with (fail)
    repeat (go_quiet (fail); go_upto_region 5 with (fail))
    go_cut [47] (fun v47 wc => ∃ (kq : Nat) (x47_11 : Bool), v47 = .bool x47_11 ∧ Aside0 (p_PatchAddContext.j1 kq a2 x8_1 x47_11 l1_0 a1_1 a1_2 a1_3 a1_4 = some (r1, r2, r3, r4, r5)) ∧ Aside0 (kq ≤ k1) ∧ Aside0 (wc.heap[gb607]? = some (.cells #[(.slice A1_0 l1_0.length c1_0), .int .i64 a1_1, .int .i64 a1_2, .int .i64 a1_3, .int .i64 a1_4] 67 (0, 0))) ∧ Aside0 (wc.heap[gb608]? = some (.cells #[(.slice none 0 0), .int .i64 0, .int .i64 0, .int .i64 0, .int .i64 0] 67 (0, 0))) ∧ Aside0 (Below w.heap.size w wc))
    case first =>
     have H := HC12.out
     clear HC12
     replace H := Option.bind_eq_some_iff.mp H
     obtain ⟨t609, A130, H⟩ := H
     try dsimp only at H
     have A13 := Aside0.mk A130
     clear A130
     replace H := Option.bind_eq_some_iff.mp H
     obtain ⟨t610, A140, H⟩ := H
     try dsimp only at H
     have A14 := Aside0.mk A140
     clear A140
     by_cases c15 : t609 = t610
     ·rw [if_pos c15] at H
      have c15b0 := beq_iff_eq.mpr c15
      have c15b1 := bne_eq_false_iff_eq.mpr c15
      clear c15
      (first | rw [c15b0] | (simp only [i64_w]; rw [c15b0]) | skip)
      have H' := Aside0.mk H
      clear H
      go_wp2_with (first | (go_at_call 68; (with_reducible refine (q_zzIndex.calls k1 a2 x7_1 t609 _ A13.out).mono ?_); rintro e w' ⟨rfl, ⟨nd, rfl⟩⟩; (try first | exact ⟨rfl, _, World.drewN_drewN _ _ _⟩ | exact ⟨rfl, _, Eq.trans (World.drewN_drewN _ _ _) (congrArg (World.drewN _) (Nat.add_assoc _ _ _))⟩)) | (go_at_call 127; (with_reducible refine (q_zzLastIndex.calls k1 a2 x7_1 t610 _ A14.out).mono ?_); rintro e w' ⟨rfl, ⟨nd, rfl⟩⟩; (try first | exact ⟨rfl, _, World.drewN_drewN _ _ _⟩ | exact ⟨rfl, _, Eq.trans (World.drewN_drewN _ _ _) (congrArg (World.drewN _) (Nat.add_assoc _ _ _))⟩)))
      repeat (go_quiet (first | (go_at_call 68; (with_reducible refine (q_zzIndex.calls k1 a2 x7_1 t609 _ A13.out).mono ?_); rintro e w' ⟨rfl, ⟨nd, rfl⟩⟩; (try first | exact ⟨rfl, _, World.drewN_drewN _ _ _⟩ | exact ⟨rfl, _, Eq.trans (World.drewN_drewN _ _ _) (congrArg (World.drewN _) (Nat.add_assoc _ _ _))⟩)) | (go_at_call 127; (with_reducible refine (q_zzLastIndex.calls k1 a2 x7_1 t610 _ A14.out).mono ?_); rintro e w' ⟨rfl, ⟨nd, rfl⟩⟩; (try first | exact ⟨rfl, _, World.drewN_drewN _ _ _⟩ | exact ⟨rfl, _, Eq.trans (World.drewN_drewN _ _ _) (congrArg (World.drewN _) (Nat.add_assoc _ _ _))⟩))); try go_wp2_with (first | (go_at_call 68; (with_reducible refine (q_zzIndex.calls k1 a2 x7_1 t609 _ A13.out).mono ?_); rintro e w' ⟨rfl, ⟨nd, rfl⟩⟩; (try first | exact ⟨rfl, _, World.drewN_drewN _ _ _⟩ | exact ⟨rfl, _, Eq.trans (World.drewN_drewN _ _ _) (congrArg (World.drewN _) (Nat.add_assoc _ _ _))⟩)) | (go_at_call 127; (with_reducible refine (q_zzLastIndex.calls k1 a2 x7_1 t610 _ A14.out).mono ?_); rintro e w' ⟨rfl, ⟨nd, rfl⟩⟩; (try first | exact ⟨rfl, _, World.drewN_drewN _ _ _⟩ | exact ⟨rfl, _, Eq.trans (World.drewN_drewN _ _ _) (congrArg (World.drewN _) (Nat.add_assoc _ _ _))⟩))))
      go_meet
      case rel => exact ⟨_, (false), (by first | rfl | simp [*]), H', ⟨by have := HK1.out; first | omega | exact Nat.le_refl _⟩, ⟨blk_st BK607.out⟩, ⟨blk_st BK608.out⟩, ⟨by with_reducible repeat first | exact HB.out | apply bA_ | apply bN_ | apply bD_ | refine bS_ ?_ GE607.out | refine bS_ ?_ GE608.out⟩⟩
     ·rw [if_neg c15] at H
      have c15b0 := beq_eq_false_iff_ne.mpr c15
      have c15b1 := bne_iff_ne.mpr c15
      (first | rw [c15b0] | (simp only [i64_w]; rw [c15b0]) | skip)
      have H' := Aside0.mk H
      clear H
      go_wp2_with (first | (go_at_call 68; (with_reducible refine (q_zzIndex.calls k1 a2 x7_1 t609 _ A13.out).mono ?_); rintro e w' ⟨rfl, ⟨nd, rfl⟩⟩; (try first | exact ⟨rfl, _, World.drewN_drewN _ _ _⟩ | exact ⟨rfl, _, Eq.trans (World.drewN_drewN _ _ _) (congrArg (World.drewN _) (Nat.add_assoc _ _ _))⟩)) | (go_at_call 127; (with_reducible refine (q_zzLastIndex.calls k1 a2 x7_1 t610 _ A14.out).mono ?_); rintro e w' ⟨rfl, ⟨nd, rfl⟩⟩; (try first | exact ⟨rfl, _, World.drewN_drewN _ _ _⟩ | exact ⟨rfl, _, Eq.trans (World.drewN_drewN _ _ _) (congrArg (World.drewN _) (Nat.add_assoc _ _ _))⟩); have hdm16 := dmp_cell5 (dmp_below HD0.out HB.out); have hdm17 := dmp_cell4 (dmp_below HD0.out HB.out)))
      repeat (go_quiet (first | (go_at_call 68; (with_reducible refine (q_zzIndex.calls k1 a2 x7_1 t609 _ A13.out).mono ?_); rintro e w' ⟨rfl, ⟨nd, rfl⟩⟩; (try first | exact ⟨rfl, _, World.drewN_drewN _ _ _⟩ | exact ⟨rfl, _, Eq.trans (World.drewN_drewN _ _ _) (congrArg (World.drewN _) (Nat.add_assoc _ _ _))⟩)) | (go_at_call 127; (with_reducible refine (q_zzLastIndex.calls k1 a2 x7_1 t610 _ A14.out).mono ?_); rintro e w' ⟨rfl, ⟨nd, rfl⟩⟩; (try first | exact ⟨rfl, _, World.drewN_drewN _ _ _⟩ | exact ⟨rfl, _, Eq.trans (World.drewN_drewN _ _ _) (congrArg (World.drewN _) (Nat.add_assoc _ _ _))⟩); have hdm16 := dmp_cell5 (dmp_below HD0.out HB.out); have hdm17 := dmp_cell4 (dmp_below HD0.out HB.out))); try go_wp2_with (first | (go_at_call 68; (with_reducible refine (q_zzIndex.calls k1 a2 x7_1 t609 _ A13.out).mono ?_); rintro e w' ⟨rfl, ⟨nd, rfl⟩⟩; (try first | exact ⟨rfl, _, World.drewN_drewN _ _ _⟩ | exact ⟨rfl, _, Eq.trans (World.drewN_drewN _ _ _) (congrArg (World.drewN _) (Nat.add_assoc _ _ _))⟩)) | (go_at_call 127; (with_reducible refine (q_zzLastIndex.calls k1 a2 x7_1 t610 _ A14.out).mono ?_); rintro e w' ⟨rfl, ⟨nd, rfl⟩⟩; (try first | exact ⟨rfl, _, World.drewN_drewN _ _ _⟩ | exact ⟨rfl, _, Eq.trans (World.drewN_drewN _ _ _) (congrArg (World.drewN _) (Nat.add_assoc _ _ _))⟩); have hdm16 := dmp_cell5 (dmp_below HD0.out HB.out); have hdm17 := dmp_cell4 (dmp_below HD0.out HB.out))))
      go_meet
      case rel => exact ⟨_, (decide ((x7_1.size : Int) < (32 - (2 * 4)))), (by first | rfl | simp [*]), H', ⟨by have := HK1.out; first | omega | exact Nat.le_refl _⟩, ⟨blk_st BK607.out⟩, ⟨blk_st BK608.out⟩, ⟨by with_reducible repeat first | exact HB.out | apply bA_ | apply bN_ | apply bD_ | refine bS_ ?_ GE607.out | refine bS_ ?_ GE608.out⟩⟩
    case rest =>
     clear HC12
     obtain ⟨kq, x47_11, rfl, HA, HJ11, BK607, BK608, HB⟩ := hcut
     cases kq with
     | zero => exact absurd HA.out (by simp [p_PatchAddContext.j1])
     | succ kj11 =>
      have H := HA.out; clear HA
      simp only [p_PatchAddContext.j1] at H
      by_cases c18 : x47_11 = true
      ·subst c18
       rw [if_pos rfl] at H
       replace H := Option.bind_eq_some_iff.mp H
       obtain ⟨t611, A190, H⟩ := H
       try dsimp only at H
       have A19 := Aside0.mk A190
       clear A190
       replace H := Option.bind_eq_some_iff.mp H
       obtain ⟨t612, A200, H⟩ := H
       try dsimp only at H
       have A20 := Aside0.mk A200
       clear A200
       replace H := yes_ H; obtain ⟨c21, H⟩ := H
       have c21b0 := eq_true c21
       have c21b1 := decide_eq_true c21
       clear c21
       replace H := yes_ H; obtain ⟨c22, H⟩ := H
       have c22b0 := eq_true c22
       have c22b1 := decide_eq_true c22
       clear c22
       replace H := yes_ H; obtain ⟨c23, H⟩ := H
       have c23b0 := eq_true c23
       have c23b1 := decide_eq_true c23
       clear c23
       have H' := Aside0.mk H
       clear H
       have hdm24 := dmp_cell4 (dmp_below HD0.out HB.out)
       have hnb25 := NB607_608.out
       have hnc25 := NB608_607.out
       obtain ⟨hcz26_0, hcz26_1, hcz26_2, hcz26_3, hcz26_4, hfz26_0, hfz26_1, hfz26_2, hfz26_3, hfz26_4⟩ := blk5 BK607.out
       go_wp2_with (first | (go_at_call 82; (with_reducible refine (q_max.calls 0 (wrap64 (a1_2 - (wrap64 (x8_1 + 4)))) t611 _ A19.out).mono ?_); rintro e w' ⟨rfl, ⟨nd, rfl⟩⟩; (try first | exact ⟨rfl, _, World.drewN_drewN _ _ _⟩ | exact ⟨rfl, _, Eq.trans (World.drewN_drewN _ _ _) (congrArg (World.drewN _) (Nat.add_assoc _ _ _))⟩)) | (go_at_call 81; (with_reducible refine (q_min.calls (a2.size : Int) (wrap64 ((wrap64 (a1_2 + a1_3)) + (wrap64 (x8_1 + 4)))) t612 _ A20.out).mono ?_); rintro e w' ⟨rfl, ⟨nd, rfl⟩⟩; (try first | exact ⟨rfl, _, World.drewN_drewN _ _ _⟩ | exact ⟨rfl, _, Eq.trans (World.drewN_drewN _ _ _) (congrArg (World.drewN _) (Nat.add_assoc _ _ _))⟩)))
       repeat (go_quiet (first | (go_at_call 82; (with_reducible refine (q_max.calls 0 (wrap64 (a1_2 - (wrap64 (x8_1 + 4)))) t611 _ A19.out).mono ?_); rintro e w' ⟨rfl, ⟨nd, rfl⟩⟩; (try first | exact ⟨rfl, _, World.drewN_drewN _ _ _⟩ | exact ⟨rfl, _, Eq.trans (World.drewN_drewN _ _ _) (congrArg (World.drewN _) (Nat.add_assoc _ _ _))⟩)) | (go_at_call 81; (with_reducible refine (q_min.calls (a2.size : Int) (wrap64 ((wrap64 (a1_2 + a1_3)) + (wrap64 (x8_1 + 4)))) t612 _ A20.out).mono ?_); rintro e w' ⟨rfl, ⟨nd, rfl⟩⟩; (try first | exact ⟨rfl, _, World.drewN_drewN _ _ _⟩ | exact ⟨rfl, _, Eq.trans (World.drewN_drewN _ _ _) (congrArg (World.drewN _) (Nat.add_assoc _ _ _))⟩))); try go_wp2_with (first | (go_at_call 82; (with_reducible refine (q_max.calls 0 (wrap64 (a1_2 - (wrap64 (x8_1 + 4)))) t611 _ A19.out).mono ?_); rintro e w' ⟨rfl, ⟨nd, rfl⟩⟩; (try first | exact ⟨rfl, _, World.drewN_drewN _ _ _⟩ | exact ⟨rfl, _, Eq.trans (World.drewN_drewN _ _ _) (congrArg (World.drewN _) (Nat.add_assoc _ _ _))⟩)) | (go_at_call 81; (with_reducible refine (q_min.calls (a2.size : Int) (wrap64 ((wrap64 (a1_2 + a1_3)) + (wrap64 (x8_1 + 4)))) t612 _ A20.out).mono ?_); rintro e w' ⟨rfl, ⟨nd, rfl⟩⟩; (try first | exact ⟨rfl, _, World.drewN_drewN _ _ _⟩ | exact ⟨rfl, _, Eq.trans (World.drewN_drewN _ _ _) (congrArg (World.drewN _) (Nat.add_assoc _ _ _))⟩))))
       go_roundg kj11
       case measure => have := HK1.out; have := HJ11.out; omega
       case rel => exact ⟨(a2.extract (t611 : Int).toNat (t612 : Int).toNat), (wrap64 (x8_1 + 4)), (by first | rfl | simp [*]), (by first | rfl | simp [*]), H', ⟨by have := HK1.out; have := HJ11.out; omega⟩, ⟨blk_st BK607.out⟩, ⟨blk_st BK608.out⟩, ⟨by with_reducible repeat first | exact HB.out | apply bA_ | apply bN_ | apply bD_ | refine bS_ ?_ GE607.out | refine bS_ ?_ GE608.out⟩⟩
      ·replace c18 := Bool.eq_false_iff.mpr c18
       subst c18
       rw [if_neg (show ¬ (false = true) by decide)] at H
       replace H := Option.bind_eq_some_iff.mp H
       obtain ⟨t613, A270, H⟩ := H
       try dsimp only at H
       have A27 := Aside0.mk A270
       clear A270
       replace H := yes_ H; obtain ⟨c28, H⟩ := H
       have c28b0 := eq_true c28
       have c28b1 := decide_eq_true c28
       clear c28
       replace H := yes_ H; obtain ⟨c29, H⟩ := H
       have c29b0 := eq_true c29
       have c29b1 := decide_eq_true c29
       clear c29
       replace H := yes_ H; obtain ⟨c30, H⟩ := H
       have c30b0 := eq_true c30
       have c30b1 := decide_eq_true c30
       clear c30
       by_cases c31 : ((a2.extract (t613 : Int).toNat (a1_2 : Int).toNat).size : Int) = 0
       ·rw [if_pos c31] at H
        exact absurd H (by simp)
       ·rw [if_neg c31] at H
        have c31b0 := beq_eq_false_iff_ne.mpr c31
        have c31b1 := bne_iff_ne.mpr c31
        have hszc31 : (a2.extract (t613 : Int).toNat (a1_2 : Int).toNat).size = (a1_2 : Int).toNat - (t613 : Int).toNat := by (have h1_ : (a1_2 : Int) ≤ (a2.size : Int) := (of_decide_eq_true (by assumption)); rw [ByteArray.size_extract]; omega)
        have c31s : ((((a1_2 : Int).toNat - (t613 : Int).toNat : Nat) : Int) != 0) = true := by rw [← hszc31]; exact c31b1
        have c31t : ((((a1_2 : Int).toNat - (t613 : Int).toNat : Nat) : Int) == 0) = false := by rw [← hszc31]; exact c31b0
        obtain ⟨y614, hy614, H⟩ := bindc_ H
        try dsimp only at H
        have Ny614 := Aside0.mk hy614
        clear hy614
        replace H := yes_ H; obtain ⟨c32, H⟩ := H
        have LMc32 := Aside0.mk c32
        clear c32
        obtain ⟨y617, hy617, H⟩ := bindc_ H
        try dsimp only at H
        have Ny617 := Aside0.mk hy617
        clear hy617
        replace H := Option.bind_eq_some_iff.mp H
        obtain ⟨t620, A330, H⟩ := H
        try dsimp only at H
        have A33 := Aside0.mk A330
        clear A330
        obtain ⟨ji34, hji34⟩ : ∃ j_ : Int, (wrap64 (a1_2 + a1_3)) = j_ := ⟨_, rfl⟩
        first | rw [hji34] at H | simp only [hji34] at H
        (try rw [hji34] at c6b0)
        (try rw [hji34] at c6b1)
        (try rw [hji34] at c6)
        (try rw [hji34] at c7b0)
        (try rw [hji34] at c7b1)
        (try rw [hji34] at c7)
        (try rw [hji34] at A27)
        (try rw [hji34] at A33)
        have hji34w : (IntKind.i64.wrap (a1_2 + a1_3)) = ji34 := (i64_w _).trans hji34
        replace H := yes_ H; obtain ⟨c35, H⟩ := H
        have c35b0 := eq_true c35
        have c35b1 := decide_eq_true c35
        clear c35
        replace H := yes_ H; obtain ⟨c36, H⟩ := H
        have c36b0 := eq_true c36
        have c36b1 := decide_eq_true c36
        clear c36
        replace H := yes_ H; obtain ⟨c37, H⟩ := H
        have c37b0 := eq_true c37
        have c37b1 := decide_eq_true c37
        clear c37
        by_cases c38 : ((a2.extract ((ji34) : Int).toNat (t620 : Int).toNat).size : Int) = 0
        ·rw [if_pos c38] at H
         exact absurd H (by simp)
        ·rw [if_neg c38] at H
         have c38b0 := beq_eq_false_iff_ne.mpr c38
         have c38b1 := bne_iff_ne.mpr c38
         have hszc38 : (a2.extract ((ji34) : Int).toNat (t620 : Int).toNat).size = (t620 : Int).toNat - ((ji34) : Int).toNat := by (have h1_ : (t620 : Int) ≤ (a2.size : Int) := (of_decide_eq_true (by assumption)); rw [ByteArray.size_extract]; omega)
         have c38s : ((((t620 : Int).toNat - ((ji34) : Int).toNat : Nat) : Int) != 0) = true := by rw [← hszc38]; exact c38b1
         have c38t : ((((t620 : Int).toNat - ((ji34) : Int).toNat : Nat) : Int) == 0) = false := by rw [← hszc38]; exact c38b0
         replace H := yes_ H; obtain ⟨c39, H⟩ := H
         have LMc39 := Aside0.mk c39
         clear c39
         obtain ⟨y621, hy621⟩ : ∃ y_ : List (S93), y_ = (y617 ++ [(⟨0, a2.extract ((ji34) : Int).toNat (t620 : Int).toNat⟩ : S93)]) := ⟨_, rfl⟩
         replace H : (some (y621, wrap64 (a1_1 - ((a2.extract (t613 : Int).toNat (a1_2 : Int).toNat).size : Int)), wrap64 (a1_2 - ((a2.extract (t613 : Int).toNat (a1_2 : Int).toNat).size : Int)), wrap64 (a1_3 + (wrap64 (((a2.extract (t613 : Int).toNat (a1_2 : Int).toNat).size : Int) + ((a2.extract ((ji34) : Int).toNat (t620 : Int).toNat).size : Int)))), wrap64 (a1_4 + (wrap64 (((a2.extract (t613 : Int).toNat (a1_2 : Int).toNat).size : Int) + ((a2.extract ((ji34) : Int).toNat (t620 : Int).toNat).size : Int)))))) = some (r1, r2, r3, r4, r5) := by first | (rw [hy621]; with_reducible exact H) | (have H2_ := (Option.bind_some _ _).symm.trans H; rw [hy621]; with_reducible exact H2_) | (have H2_ := (Option.bind_some _ _).symm.trans H; with_reducible exact H2_) | with_reducible exact H | (rw [hy621]; exact H) | exact H
         have Ny621 := Aside0.mk hy621
         clear hy621
         simp only [Option.some.injEq, Prod.mk.injEq] at H
         obtain ⟨rfl, rfl, rfl, rfl, rfl⟩ := H
         have hdm40 := dmp_cell4 (dmp_below HD0.out HB.out)
         have hnb41 := NB607_608.out
         have hnc41 := NB608_607.out
         obtain ⟨hcz42_0, hcz42_1, hcz42_2, hcz42_3, hcz42_4, hfz42_0, hfz42_1, hfz42_2, hfz42_3, hfz42_4⟩ := blk5 BK607.out
         go_wp2_with (first | (go_at_call 82; (with_reducible refine (q_max.calls 0 (wrap64 (a1_2 - (wrap64 (x8_1 + 4)))) t613 _ A27.out).mono ?_); rintro e w' ⟨rfl, ⟨nd, rfl⟩⟩; (try first | exact ⟨rfl, _, World.drewN_drewN _ _ _⟩ | exact ⟨rfl, _, Eq.trans (World.drewN_drewN _ _ _) (congrArg (World.drewN _) (Nat.add_assoc _ _ _))⟩)) | ((with_reducible refine gate_dst (N := 93) rfl ?_); (try (refine gate_guard (by rfl) ?_; dsimp only)); refine Kd.R_lit k93 _ 93 ?hg (N := 93) ?hd (xs := ([(⟨0, a2.extract (t613 : Int).toNat (a1_2 : Int).toNat⟩ : S93)] : List (S93))) (inner := [.int .i8 0, .string (a2.extract (t613 : Int).toNat (a1_2 : Int).toNat)]) (ok := fun _ => True) (okp := fun _ => True) ?hr ?hp (fun _ hk => hk) trivial (Below.refl _ _) (Nat.le_refl _) (by simp) ?_; (case hd => rfl); (case hg => rfl); (case hr => first | (go_simp; done) | (go_simp; rfl)); (case hp => exact (Reps.c2 (show Kd.M k93 _ _ _ (⟨0, a2.extract (t613 : Int).toNat (a1_2 : Int).toNat⟩ : S93) [.int .i8 0, .string (a2.extract (t613 : Int).toNat (a1_2 : Int).toNat)] from (k93_mkM _ _ _ (⟨0, a2.extract (t613 : Int).toNat (a1_2 : Int).toNat⟩ : S93) )) (Reps.none _ _))); intro v615 w43 ho44 hb hg_ hnew_; clear hg_ hnew_; (first | rw [← Ny614.out] at ho44 | (simp only [Int.reduceToNat] at ho44; rw [← Ny614.out] at ho44)); have HO616 := aS_ (Kd.R_lower ho44 (bz_ (by with_reducible repeat first | exact HB.out | apply bA_ | apply bN_ | apply bD_ | refine bS_ ?_ GE607.out | refine bS_ ?_ GE608.out))); replace BK607 := aS_ (blk_below (g := gb607) (o := .cells #[.slice A1_0 l1_0.length c1_0, .int .i64 a1_1, .int .i64 a1_2, .int .i64 a1_3, .int .i64 a1_4] 67 (0, 0)) (blk_st BK607.out) hb); replace BK608 := aS_ (blk_below (g := gb608) (o := .cells #[.slice none 0 0, .int .i64 0, .int .i64 0, .int .i64 0, .int .i64 0] 67 (0, 0)) (blk_st BK608.out) hb); replace HB := aS_ (bt_ (by with_reducible repeat first | exact HB.out | apply bA_ | apply bN_ | apply bD_ | refine bS_ ?_ GE607.out | refine bS_ ?_ GE608.out) hb); clear hb ho44; obtain ⟨hcz45_0, hcz45_1, hcz45_2, hcz45_3, hcz45_4, hfz45_0, hfz45_1, hfz45_2, hfz45_3, hfz45_4⟩ := blk5 BK607.out) | ((with_reducible refine gate_builtin (b := .append) (xs := #[.tmp 93, .tmp 95]) rfl ?_); (try (refine gate_guard (by rfl) ?_; dsimp only)); at_builtin; refine Kd.R_append_rows k93 (w0 := w) w.heap.size rfl (.tmp 93) (.tmp 95) 65 93 (.agg #[(.int .i8 0), (.string ⟨#[]⟩)]) 24 rfl Tryz.underlying65 info93 rfl (by decide) (by omega) v615 y614 l1_0 _ _ _ (fun _ => True) (fun _ => False) rfl rfl ?aO ?aR (fun _ _ h => h) (fun _ h => h.elim) ?aF ?aB ?aS ?aL ?_; (case aR => repeat (first | exact (Kd.C_below HR1_0.out HB.out) | (with_reducible refine Kd.C_alloc ?_ _) | (with_reducible refine Kd.C_drewN ?_ _) | (with_reducible refine Kd.C_drew ?_))); (case aB => exact (by with_reducible repeat first | exact HB.out | apply bA_ | apply bN_ | apply bD_ | refine bS_ ?_ GE607.out | refine bS_ ?_ GE608.out)); (case aF => exact (fun _ _ => trivial)); (case aO => exact (Kd.R_st HO616.out)); (case aS => exact (bz_ (by with_reducible repeat first | exact HB.out | apply bA_ | apply bN_ | apply bD_ | refine bS_ ?_ GE607.out | refine bS_ ?_ GE608.out))); (case aL => have := LMc32.out; omega); intro v618 w46 ho hb hg hat; rw [← Ny617.out] at ho; replace BK607 := aS_ (blk_grown (g := gb607) (o := .cells #[.slice A1_0 l1_0.length c1_0, .int .i64 a1_1, .int .i64 a1_2, .int .i64 a1_3, .int .i64 a1_4] 67 (0, 0)) (blk_st BK607.out) hg (Kd.R_ne HO616.out BK607.out (by decide))); replace BK608 := aS_ (blk_grown (g := gb608) (o := .cells #[.slice none 0 0, .int .i64 0, .int .i64 0, .int .i64 0, .int .i64 0] 67 (0, 0)) (blk_st BK608.out) hg (Kd.R_ne HO616.out BK608.out (by decide))); replace HB := aS_ (hb); have HO619 := aS_ (ho); clear HO616; clear ho hb hg hat; obtain ⟨Ao47, co47, eo47⟩ := Kd.R_slice HO619.out; subst eo47; obtain ⟨hcz48_0, hcz48_1, hcz48_2, hcz48_3, hcz48_4, hfz48_0, hfz48_1, hfz48_2, hfz48_3, hfz48_4⟩ := blk5 BK607.out) | (go_at_call 81; (with_reducible refine (q_min.calls (a2.size : Int) (wrap64 ((ji34) + (wrap64 (x8_1 + 4)))) t620 _ A33.out).mono ?_); rintro e w' ⟨rfl, ⟨nd, rfl⟩⟩; (try first | exact ⟨rfl, _, World.drewN_drewN _ _ _⟩ | exact ⟨rfl, _, Eq.trans (World.drewN_drewN _ _ _) (congrArg (World.drewN _) (Nat.add_assoc _ _ _))⟩)) | ((with_reducible refine gate_builtin (b := .append) (xs := #[.tmp 119, .tmp 122]) rfl ?_); (try (refine gate_guard (by rfl) ?_; dsimp only)); at_builtin; refine Kd.R_append k93 (w0 := w) w.heap.size rfl (.tmp 119) (.tmp 122) 65 93 (.agg #[(.int .i8 0), (.string ⟨#[]⟩)]) 24 rfl Tryz.underlying65 info93 rfl (by decide) (by omega) (.slice Ao47 y617.length co47) y617 (⟨0, a2.extract ((ji34) : Int).toNat (t620 : Int).toNat⟩ : S93) [.int .i8 0, .string (a2.extract ((ji34) : Int).toNat (t620 : Int).toNat)] (fun _ => True) (fun _ => False) rfl (by first | (go_simp; done) | (go_simp; rfl)) ?aP (fun _ hk => hk.elim) ?aF ?aO ?aB ?aS ?aL ?_; (case aP => exact k93_mkM _ _ _ (⟨0, a2.extract ((ji34) : Int).toNat (t620 : Int).toNat⟩ : S93)); (case aB => exact (by with_reducible repeat first | exact HB.out | apply bA_ | apply bN_ | apply bD_ | refine bS_ ?_ GE607.out | refine bS_ ?_ GE608.out)); (case aF => exact (fun _ _ => trivial)); (case aO => exact (Kd.R_st (Kd.R_mono (Kd.R_far (p := ⟨gb607, 0, none⟩) (Kd.R_types HO619.out BK607.out (by decide)) (fun _ hk => hk.2) (.slice Ao47 y617.length co47)) (fun _ hk => trivial)))); (case aS => exact (bz_ (by with_reducible repeat first | exact HB.out | apply bA_ | apply bN_ | apply bD_ | refine bS_ ?_ GE607.out | refine bS_ ?_ GE608.out))); (case aL => have := LMc39.out; omega); intro v622 w49 ho hb hg hat; rw [← Ny621.out] at ho; replace BK607 := aS_ (blk_grown (g := gb607) (o := .cells #[.slice Ao47 y617.length co47, .int .i64 a1_1, .int .i64 a1_2, .int .i64 a1_3, .int .i64 a1_4] 67 (0, 0)) (by (with_reducible repeat (first | refine kN_ ?_ _ | refine kD_ ?_ | refine kA_ ?_ _)); refine blk_put (cs := #[.slice A1_0 l1_0.length c1_0, .int .i64 a1_1, .int .i64 a1_2, .int .i64 a1_3, .int .i64 a1_4]) ?_ 0 _ rfl; (with_reducible repeat (first | refine kN_ ?_ _ | refine kD_ ?_ | refine kA_ ?_ _)); exact BK607.out) hg (Kd.R_ne HO619.out BK607.out (by decide))); replace BK608 := aS_ (blk_grown (g := gb608) (o := .cells #[.slice none 0 0, .int .i64 0, .int .i64 0, .int .i64 0, .int .i64 0] 67 (0, 0)) (by (with_reducible repeat (first | refine kN_ ?_ _ | refine kD_ ?_ | refine kA_ ?_ _)); refine blk_far ?_ NB608_607.out _; (with_reducible repeat (first | refine kN_ ?_ _ | refine kD_ ?_ | refine kA_ ?_ _)); exact BK608.out) hg (Kd.R_ne HO619.out BK608.out (by decide))); replace HB := aS_ (hb); have HO623 := aS_ (ho); clear HO619; clear ho hb hg hat; obtain ⟨Ao50, co50, eo50⟩ := Kd.R_slice HO623.out; subst eo50; obtain ⟨hcz51_0, hcz51_1, hcz51_2, hcz51_3, hcz51_4, hfz51_0, hfz51_1, hfz51_2, hfz51_3, hfz51_4⟩ := blk5 BK607.out; obtain ⟨hcz52_0, hcz52_1, hcz52_2, hcz52_3, hcz52_4, hfz52_0, hfz52_1, hfz52_2, hfz52_3, hfz52_4⟩ := blk5 BK608.out))
         repeat (go_quiet (first | (go_at_call 82; (with_reducible refine (q_max.calls 0 (wrap64 (a1_2 - (wrap64 (x8_1 + 4)))) t613 _ A27.out).mono ?_); rintro e w' ⟨rfl, ⟨nd, rfl⟩⟩; (try first | exact ⟨rfl, _, World.drewN_drewN _ _ _⟩ | exact ⟨rfl, _, Eq.trans (World.drewN_drewN _ _ _) (congrArg (World.drewN _) (Nat.add_assoc _ _ _))⟩)) | ((with_reducible refine gate_dst (N := 93) rfl ?_); (try (refine gate_guard (by rfl) ?_; dsimp only)); refine Kd.R_lit k93 _ 93 ?hg (N := 93) ?hd (xs := ([(⟨0, a2.extract (t613 : Int).toNat (a1_2 : Int).toNat⟩ : S93)] : List (S93))) (inner := [.int .i8 0, .string (a2.extract (t613 : Int).toNat (a1_2 : Int).toNat)]) (ok := fun _ => True) (okp := fun _ => True) ?hr ?hp (fun _ hk => hk) trivial (Below.refl _ _) (Nat.le_refl _) (by simp) ?_; (case hd => rfl); (case hg => rfl); (case hr => first | (go_simp; done) | (go_simp; rfl)); (case hp => exact (Reps.c2 (show Kd.M k93 _ _ _ (⟨0, a2.extract (t613 : Int).toNat (a1_2 : Int).toNat⟩ : S93) [.int .i8 0, .string (a2.extract (t613 : Int).toNat (a1_2 : Int).toNat)] from (k93_mkM _ _ _ (⟨0, a2.extract (t613 : Int).toNat (a1_2 : Int).toNat⟩ : S93) )) (Reps.none _ _))); intro v615 w43 ho44 hb hg_ hnew_; clear hg_ hnew_; (first | rw [← Ny614.out] at ho44 | (simp only [Int.reduceToNat] at ho44; rw [← Ny614.out] at ho44)); have HO616 := aS_ (Kd.R_lower ho44 (bz_ (by with_reducible repeat first | exact HB.out | apply bA_ | apply bN_ | apply bD_ | refine bS_ ?_ GE607.out | refine bS_ ?_ GE608.out))); replace BK607 := aS_ (blk_below (g := gb607) (o := .cells #[.slice A1_0 l1_0.length c1_0, .int .i64 a1_1, .int .i64 a1_2, .int .i64 a1_3, .int .i64 a1_4] 67 (0, 0)) (blk_st BK607.out) hb); replace BK608 := aS_ (blk_below (g := gb608) (o := .cells #[.slice none 0 0, .int .i64 0, .int .i64 0, .int .i64 0, .int .i64 0] 67 (0, 0)) (blk_st BK608.out) hb); replace HB := aS_ (bt_ (by with_reducible repeat first | exact HB.out | apply bA_ | apply bN_ | apply bD_ | refine bS_ ?_ GE607.out | refine bS_ ?_ GE608.out) hb); clear hb ho44; obtain ⟨hcz45_0, hcz45_1, hcz45_2, hcz45_3, hcz45_4, hfz45_0, hfz45_1, hfz45_2, hfz45_3, hfz45_4⟩ := blk5 BK607.out) | ((with_reducible refine gate_builtin (b := .append) (xs := #[.tmp 93, .tmp 95]) rfl ?_); (try (refine gate_guard (by rfl) ?_; dsimp only)); at_builtin; refine Kd.R_append_rows k93 (w0 := w) w.heap.size rfl (.tmp 93) (.tmp 95) 65 93 (.agg #[(.int .i8 0), (.string ⟨#[]⟩)]) 24 rfl Tryz.underlying65 info93 rfl (by decide) (by omega) v615 y614 l1_0 _ _ _ (fun _ => True) (fun _ => False) rfl rfl ?aO ?aR (fun _ _ h => h) (fun _ h => h.elim) ?aF ?aB ?aS ?aL ?_; (case aR => repeat (first | exact (Kd.C_below HR1_0.out HB.out) | (with_reducible refine Kd.C_alloc ?_ _) | (with_reducible refine Kd.C_drewN ?_ _) | (with_reducible refine Kd.C_drew ?_))); (case aB => exact (by with_reducible repeat first | exact HB.out | apply bA_ | apply bN_ | apply bD_ | refine bS_ ?_ GE607.out | refine bS_ ?_ GE608.out)); (case aF => exact (fun _ _ => trivial)); (case aO => exact (Kd.R_st HO616.out)); (case aS => exact (bz_ (by with_reducible repeat first | exact HB.out | apply bA_ | apply bN_ | apply bD_ | refine bS_ ?_ GE607.out | refine bS_ ?_ GE608.out))); (case aL => have := LMc32.out; omega); intro v618 w46 ho hb hg hat; rw [← Ny617.out] at ho; replace BK607 := aS_ (blk_grown (g := gb607) (o := .cells #[.slice A1_0 l1_0.length c1_0, .int .i64 a1_1, .int .i64 a1_2, .int .i64 a1_3, .int .i64 a1_4] 67 (0, 0)) (blk_st BK607.out) hg (Kd.R_ne HO616.out BK607.out (by decide))); replace BK608 := aS_ (blk_grown (g := gb608) (o := .cells #[.slice none 0 0, .int .i64 0, .int .i64 0, .int .i64 0, .int .i64 0] 67 (0, 0)) (blk_st BK608.out) hg (Kd.R_ne HO616.out BK608.out (by decide))); replace HB := aS_ (hb); have HO619 := aS_ (ho); clear HO616; clear ho hb hg hat; obtain ⟨Ao47, co47, eo47⟩ := Kd.R_slice HO619.out; subst eo47; obtain ⟨hcz48_0, hcz48_1, hcz48_2, hcz48_3, hcz48_4, hfz48_0, hfz48_1, hfz48_2, hfz48_3, hfz48_4⟩ := blk5 BK607.out) | (go_at_call 81; (with_reducible refine (q_min.calls (a2.size : Int) (wrap64 ((ji34) + (wrap64 (x8_1 + 4)))) t620 _ A33.out).mono ?_); rintro e w' ⟨rfl, ⟨nd, rfl⟩⟩; (try first | exact ⟨rfl, _, World.drewN_drewN _ _ _⟩ | exact ⟨rfl, _, Eq.trans (World.drewN_drewN _ _ _) (congrArg (World.drewN _) (Nat.add_assoc _ _ _))⟩)) | ((with_reducible refine gate_builtin (b := .append) (xs := #[.tmp 119, .tmp 122]) rfl ?_); (try (refine gate_guard (by rfl) ?_; dsimp only)); at_builtin; refine Kd.R_append k93 (w0 := w) w.heap.size rfl (.tmp 119) (.tmp 122) 65 93 (.agg #[(.int .i8 0), (.string ⟨#[]⟩)]) 24 rfl Tryz.underlying65 info93 rfl (by decide) (by omega) (.slice Ao47 y617.length co47) y617 (⟨0, a2.extract ((ji34) : Int).toNat (t620 : Int).toNat⟩ : S93) [.int .i8 0, .string (a2.extract ((ji34) : Int).toNat (t620 : Int).toNat)] (fun _ => True) (fun _ => False) rfl (by first | (go_simp; done) | (go_simp; rfl)) ?aP (fun _ hk => hk.elim) ?aF ?aO ?aB ?aS ?aL ?_; (case aP => exact k93_mkM _ _ _ (⟨0, a2.extract ((ji34) : Int).toNat (t620 : Int).toNat⟩ : S93)); (case aB => exact (by with_reducible repeat first | exact HB.out | apply bA_ | apply bN_ | apply bD_ | refine bS_ ?_ GE607.out | refine bS_ ?_ GE608.out)); (case aF => exact (fun _ _ => trivial)); (case aO => exact (Kd.R_st (Kd.R_mono (Kd.R_far (p := ⟨gb607, 0, none⟩) (Kd.R_types HO619.out BK607.out (by decide)) (fun _ hk => hk.2) (.slice Ao47 y617.length co47)) (fun _ hk => trivial)))); (case aS => exact (bz_ (by with_reducible repeat first | exact HB.out | apply bA_ | apply bN_ | apply bD_ | refine bS_ ?_ GE607.out | refine bS_ ?_ GE608.out))); (case aL => have := LMc39.out; omega); intro v622 w49 ho hb hg hat; rw [← Ny621.out] at ho; replace BK607 := aS_ (blk_grown (g := gb607) (o := .cells #[.slice Ao47 y617.length co47, .int .i64 a1_1, .int .i64 a1_2, .int .i64 a1_3, .int .i64 a1_4] 67 (0, 0)) (by (with_reducible repeat (first | refine kN_ ?_ _ | refine kD_ ?_ | refine kA_ ?_ _)); refine blk_put (cs := #[.slice A1_0 l1_0.length c1_0, .int .i64 a1_1, .int .i64 a1_2, .int .i64 a1_3, .int .i64 a1_4]) ?_ 0 _ rfl; (with_reducible repeat (first | refine kN_ ?_ _ | refine kD_ ?_ | refine kA_ ?_ _)); exact BK607.out) hg (Kd.R_ne HO619.out BK607.out (by decide))); replace BK608 := aS_ (blk_grown (g := gb608) (o := .cells #[.slice none 0 0, .int .i64 0, .int .i64 0, .int .i64 0, .int .i64 0] 67 (0, 0)) (by (with_reducible repeat (first | refine kN_ ?_ _ | refine kD_ ?_ | refine kA_ ?_ _)); refine blk_far ?_ NB608_607.out _; (with_reducible repeat (first | refine kN_ ?_ _ | refine kD_ ?_ | refine kA_ ?_ _)); exact BK608.out) hg (Kd.R_ne HO619.out BK608.out (by decide))); replace HB := aS_ (hb); have HO623 := aS_ (ho); clear HO619; clear ho hb hg hat; obtain ⟨Ao50, co50, eo50⟩ := Kd.R_slice HO623.out; subst eo50; obtain ⟨hcz51_0, hcz51_1, hcz51_2, hcz51_3, hcz51_4, hfz51_0, hfz51_1, hfz51_2, hfz51_3, hfz51_4⟩ := blk5 BK607.out; obtain ⟨hcz52_0, hcz52_1, hcz52_2, hcz52_3, hcz52_4, hfz52_0, hfz52_1, hfz52_2, hfz52_3, hfz52_4⟩ := blk5 BK608.out)); try go_wp2_with (first | (go_at_call 82; (with_reducible refine (q_max.calls 0 (wrap64 (a1_2 - (wrap64 (x8_1 + 4)))) t613 _ A27.out).mono ?_); rintro e w' ⟨rfl, ⟨nd, rfl⟩⟩; (try first | exact ⟨rfl, _, World.drewN_drewN _ _ _⟩ | exact ⟨rfl, _, Eq.trans (World.drewN_drewN _ _ _) (congrArg (World.drewN _) (Nat.add_assoc _ _ _))⟩)) | ((with_reducible refine gate_dst (N := 93) rfl ?_); (try (refine gate_guard (by rfl) ?_; dsimp only)); refine Kd.R_lit k93 _ 93 ?hg (N := 93) ?hd (xs := ([(⟨0, a2.extract (t613 : Int).toNat (a1_2 : Int).toNat⟩ : S93)] : List (S93))) (inner := [.int .i8 0, .string (a2.extract (t613 : Int).toNat (a1_2 : Int).toNat)]) (ok := fun _ => True) (okp := fun _ => True) ?hr ?hp (fun _ hk => hk) trivial (Below.refl _ _) (Nat.le_refl _) (by simp) ?_; (case hd => rfl); (case hg => rfl); (case hr => first | (go_simp; done) | (go_simp; rfl)); (case hp => exact (Reps.c2 (show Kd.M k93 _ _ _ (⟨0, a2.extract (t613 : Int).toNat (a1_2 : Int).toNat⟩ : S93) [.int .i8 0, .string (a2.extract (t613 : Int).toNat (a1_2 : Int).toNat)] from (k93_mkM _ _ _ (⟨0, a2.extract (t613 : Int).toNat (a1_2 : Int).toNat⟩ : S93) )) (Reps.none _ _))); intro v615 w43 ho44 hb hg_ hnew_; clear hg_ hnew_; (first | rw [← Ny614.out] at ho44 | (simp only [Int.reduceToNat] at ho44; rw [← Ny614.out] at ho44)); have n0_ := aS_ (Kd.R_lower ho44 (bz_ (by with_reducible repeat first | exact HB.out | apply bA_ | apply bN_ | apply bD_ | refine bS_ ?_ GE607.out | refine bS_ ?_ GE608.out))); have n1_ := aS_ (blk_below (g := gb607) (o := .cells #[.slice A1_0 l1_0.length c1_0, .int .i64 a1_1, .int .i64 a1_2, .int .i64 a1_3, .int .i64 a1_4] 67 (0, 0)) (blk_st BK607.out) hb); have n2_ := aS_ (blk_below (g := gb608) (o := .cells #[.slice none 0 0, .int .i64 0, .int .i64 0, .int .i64 0, .int .i64 0] 67 (0, 0)) (blk_st BK608.out) hb); have n3_ := aS_ (bt_ (by with_reducible repeat first | exact HB.out | apply bA_ | apply bN_ | apply bD_ | refine bS_ ?_ GE607.out | refine bS_ ?_ GE608.out) hb); clear BK607; clear BK608; clear HB; have HO616 := n0_; have BK607 := n1_; have BK608 := n2_; have HB := n3_; clear n0_ n1_ n2_ n3_; clear hb ho44; obtain ⟨hcz45_0, hcz45_1, hcz45_2, hcz45_3, hcz45_4, hfz45_0, hfz45_1, hfz45_2, hfz45_3, hfz45_4⟩ := blk5 BK607.out) | ((with_reducible refine gate_builtin (b := .append) (xs := #[.tmp 93, .tmp 95]) rfl ?_); (try (refine gate_guard (by rfl) ?_; dsimp only)); at_builtin; refine Kd.R_append_rows k93 (w0 := w) w.heap.size rfl (.tmp 93) (.tmp 95) 65 93 (.agg #[(.int .i8 0), (.string ⟨#[]⟩)]) 24 rfl Tryz.underlying65 info93 rfl (by decide) (by omega) v615 y614 l1_0 _ _ _ (fun _ => True) (fun _ => False) rfl rfl ?aO ?aR (fun _ _ h => h) (fun _ h => h.elim) ?aF ?aB ?aS ?aL ?_; (case aR => repeat (first | exact (Kd.C_below HR1_0.out HB.out) | (with_reducible refine Kd.C_alloc ?_ _) | (with_reducible refine Kd.C_drewN ?_ _) | (with_reducible refine Kd.C_drew ?_))); (case aB => exact (by with_reducible repeat first | exact HB.out | apply bA_ | apply bN_ | apply bD_ | refine bS_ ?_ GE607.out | refine bS_ ?_ GE608.out)); (case aF => exact (fun _ _ => trivial)); (case aO => exact (Kd.R_st HO616.out)); (case aS => exact (bz_ (by with_reducible repeat first | exact HB.out | apply bA_ | apply bN_ | apply bD_ | refine bS_ ?_ GE607.out | refine bS_ ?_ GE608.out))); (case aL => have := LMc32.out; omega); intro v618 w46 ho hb hg hat; rw [← Ny617.out] at ho; have n0_ := aS_ (blk_grown (g := gb607) (o := .cells #[.slice A1_0 l1_0.length c1_0, .int .i64 a1_1, .int .i64 a1_2, .int .i64 a1_3, .int .i64 a1_4] 67 (0, 0)) (blk_st BK607.out) hg (Kd.R_ne HO616.out BK607.out (by decide))); have n1_ := aS_ (blk_grown (g := gb608) (o := .cells #[.slice none 0 0, .int .i64 0, .int .i64 0, .int .i64 0, .int .i64 0] 67 (0, 0)) (blk_st BK608.out) hg (Kd.R_ne HO616.out BK608.out (by decide))); have n2_ := aS_ (hb); have n3_ := aS_ (ho); clear BK607; clear BK608; clear HB; clear HO616; have BK607 := n0_; have BK608 := n1_; have HB := n2_; have HO619 := n3_; clear n0_ n1_ n2_ n3_; clear ho hb hg hat; obtain ⟨Ao47, co47, eo47⟩ := Kd.R_slice HO619.out; subst eo47; obtain ⟨hcz48_0, hcz48_1, hcz48_2, hcz48_3, hcz48_4, hfz48_0, hfz48_1, hfz48_2, hfz48_3, hfz48_4⟩ := blk5 BK607.out) | (go_at_call 81; (with_reducible refine (q_min.calls (a2.size : Int) (wrap64 ((ji34) + (wrap64 (x8_1 + 4)))) t620 _ A33.out).mono ?_); rintro e w' ⟨rfl, ⟨nd, rfl⟩⟩; (try first | exact ⟨rfl, _, World.drewN_drewN _ _ _⟩ | exact ⟨rfl, _, Eq.trans (World.drewN_drewN _ _ _) (congrArg (World.drewN _) (Nat.add_assoc _ _ _))⟩)) | ((with_reducible refine gate_builtin (b := .append) (xs := #[.tmp 119, .tmp 122]) rfl ?_); (try (refine gate_guard (by rfl) ?_; dsimp only)); at_builtin; refine Kd.R_append k93 (w0 := w) w.heap.size rfl (.tmp 119) (.tmp 122) 65 93 (.agg #[(.int .i8 0), (.string ⟨#[]⟩)]) 24 rfl Tryz.underlying65 info93 rfl (by decide) (by omega) (.slice Ao47 y617.length co47) y617 (⟨0, a2.extract ((ji34) : Int).toNat (t620 : Int).toNat⟩ : S93) [.int .i8 0, .string (a2.extract ((ji34) : Int).toNat (t620 : Int).toNat)] (fun _ => True) (fun _ => False) rfl (by first | (go_simp; done) | (go_simp; rfl)) ?aP (fun _ hk => hk.elim) ?aF ?aO ?aB ?aS ?aL ?_; (case aP => exact k93_mkM _ _ _ (⟨0, a2.extract ((ji34) : Int).toNat (t620 : Int).toNat⟩ : S93)); (case aB => exact (by with_reducible repeat first | exact HB.out | apply bA_ | apply bN_ | apply bD_ | refine bS_ ?_ GE607.out | refine bS_ ?_ GE608.out)); (case aF => exact (fun _ _ => trivial)); (case aO => exact (Kd.R_st (Kd.R_mono (Kd.R_far (p := ⟨gb607, 0, none⟩) (Kd.R_types HO619.out BK607.out (by decide)) (fun _ hk => hk.2) (.slice Ao47 y617.length co47)) (fun _ hk => trivial)))); (case aS => exact (bz_ (by with_reducible repeat first | exact HB.out | apply bA_ | apply bN_ | apply bD_ | refine bS_ ?_ GE607.out | refine bS_ ?_ GE608.out))); (case aL => have := LMc39.out; omega); intro v622 w49 ho hb hg hat; rw [← Ny621.out] at ho; have n0_ := aS_ (blk_grown (g := gb607) (o := .cells #[.slice Ao47 y617.length co47, .int .i64 a1_1, .int .i64 a1_2, .int .i64 a1_3, .int .i64 a1_4] 67 (0, 0)) (by (with_reducible repeat (first | refine kN_ ?_ _ | refine kD_ ?_ | refine kA_ ?_ _)); refine blk_put (cs := #[.slice A1_0 l1_0.length c1_0, .int .i64 a1_1, .int .i64 a1_2, .int .i64 a1_3, .int .i64 a1_4]) ?_ 0 _ rfl; (with_reducible repeat (first | refine kN_ ?_ _ | refine kD_ ?_ | refine kA_ ?_ _)); exact BK607.out) hg (Kd.R_ne HO619.out BK607.out (by decide))); have n1_ := aS_ (blk_grown (g := gb608) (o := .cells #[.slice none 0 0, .int .i64 0, .int .i64 0, .int .i64 0, .int .i64 0] 67 (0, 0)) (by (with_reducible repeat (first | refine kN_ ?_ _ | refine kD_ ?_ | refine kA_ ?_ _)); refine blk_far ?_ NB608_607.out _; (with_reducible repeat (first | refine kN_ ?_ _ | refine kD_ ?_ | refine kA_ ?_ _)); exact BK608.out) hg (Kd.R_ne HO619.out BK608.out (by decide))); have n2_ := aS_ (hb); have n3_ := aS_ (ho); clear BK607; clear BK608; clear HB; clear HO619; have BK607 := n0_; have BK608 := n1_; have HB := n2_; have HO623 := n3_; clear n0_ n1_ n2_ n3_; clear ho hb hg hat; obtain ⟨Ao50, co50, eo50⟩ := Kd.R_slice HO623.out; subst eo50; obtain ⟨hcz51_0, hcz51_1, hcz51_2, hcz51_3, hcz51_4, hfz51_0, hfz51_1, hfz51_2, hfz51_3, hfz51_4⟩ := blk5 BK607.out; obtain ⟨hcz52_0, hcz52_1, hcz52_2, hcz52_3, hcz52_4, hfz52_0, hfz52_1, hfz52_2, hfz52_3, hfz52_4⟩ := blk5 BK608.out)))
         refine bodyPost_ret (results_cell_row rfl _ _ gb608 67 #[.slice Ao50 y621.length co50, .int .i64 (wrap64 (a1_1 - (((a1_2 : Int).toNat - (t613 : Int).toNat : Nat) : Int))), .int .i64 (wrap64 (a1_2 - (((a1_2 : Int).toNat - (t613 : Int).toNat : Nat) : Int))), .int .i64 (wrap64 (a1_3 + (wrap64 ((((a1_2 : Int).toNat - (t613 : Int).toNat : Nat) : Int) + (((t620 : Int).toNat - ((ji34) : Int).toNat : Nat) : Int))))), .int .i64 (wrap64 (a1_4 + (wrap64 ((((a1_2 : Int).toNat - (t613 : Int).toNat : Nat) : Int) + (((t620 : Int).toNat - ((ji34) : Int).toNat : Nat) : Int)))))] (0, 0) _ rfl (by (with_reducible repeat (first | refine kN_ ?_ _ | refine kD_ ?_ | refine kA_ ?_ _)); refine blk_put (cs := #[.slice Ao50 y621.length co50, .int .i64 (wrap64 (a1_1 - (((a1_2 : Int).toNat - (t613 : Int).toNat : Nat) : Int))), .int .i64 (wrap64 (a1_2 - (((a1_2 : Int).toNat - (t613 : Int).toNat : Nat) : Int))), .int .i64 (wrap64 (a1_3 + (wrap64 ((((a1_2 : Int).toNat - (t613 : Int).toNat : Nat) : Int) + (((t620 : Int).toNat - ((ji34) : Int).toNat : Nat) : Int))))), .int .i64 0]) ?_ 4 _ rfl; (with_reducible repeat (first | refine kN_ ?_ _ | refine kD_ ?_ | refine kA_ ?_ _)); refine blk_put (cs := #[.slice Ao50 y621.length co50, .int .i64 (wrap64 (a1_1 - (((a1_2 : Int).toNat - (t613 : Int).toNat : Nat) : Int))), .int .i64 (wrap64 (a1_2 - (((a1_2 : Int).toNat - (t613 : Int).toNat : Nat) : Int))), .int .i64 0, .int .i64 0]) ?_ 3 _ rfl; (with_reducible repeat (first | refine kN_ ?_ _ | refine kD_ ?_ | refine kA_ ?_ _)); refine blk_put (cs := #[.slice Ao50 y621.length co50, .int .i64 (wrap64 (a1_1 - (((a1_2 : Int).toNat - (t613 : Int).toNat : Nat) : Int))), .int .i64 0, .int .i64 0, .int .i64 0]) ?_ 2 _ rfl; (with_reducible repeat (first | refine kN_ ?_ _ | refine kD_ ?_ | refine kA_ ?_ _)); refine blk_put (cs := #[.slice Ao50 y621.length co50, .int .i64 0, .int .i64 0, .int .i64 0, .int .i64 0]) ?_ 1 _ rfl; (with_reducible repeat (first | refine kN_ ?_ _ | refine kD_ ?_ | refine kA_ ?_ _)); refine blk_put (cs := #[.slice none 0 0, .int .i64 0, .int .i64 0, .int .i64 0, .int .i64 0]) ?_ 0 _ rfl; (with_reducible repeat (first | refine kN_ ?_ _ | refine kD_ ?_ | refine kA_ ?_ _)); refine blk_far ?_ NB608_607.out _; (with_reducible repeat (first | refine kN_ ?_ _ | refine kD_ ?_ | refine kA_ ?_ _)); refine blk_far ?_ NB608_607.out _; (with_reducible repeat (first | refine kN_ ?_ _ | refine kD_ ?_ | refine kA_ ?_ _)); refine blk_far ?_ NB608_607.out _; (with_reducible repeat (first | refine kN_ ?_ _ | refine kD_ ?_ | refine kA_ ?_ _)); refine blk_far ?_ NB608_607.out _; (with_reducible repeat (first | refine kN_ ?_ _ | refine kD_ ?_ | refine kA_ ?_ _)); refine blk_far ?_ NB608_607.out _; (with_reducible repeat (first | refine kN_ ?_ _ | refine kD_ ?_ | refine kA_ ?_ _)); exact BK608.out) Tryz.underlying67 rfl (by kernel_rfl)) rfl ?_
         simp only [hszc31, hszc38]
         exact ⟨_, by first | rfl | (simp [errW_none, errW_some] <;> rfl) | (simp only [← hji34]; first | rfl | (simp [errW_none, errW_some] <;> rfl)) | (simp [*, errW_none, errW_some] <;> rfl), Kd.R_st (Kd.R_mono (Kd.R_far (p := ⟨gb608, 4, none⟩) (Kd.R_far (p := ⟨gb608, 3, none⟩) (Kd.R_far (p := ⟨gb608, 2, none⟩) (Kd.R_far (p := ⟨gb608, 1, none⟩) (Kd.R_far (p := ⟨gb608, 0, none⟩) (Kd.R_far (p := ⟨gb607, 4, none⟩) (Kd.R_far (p := ⟨gb607, 3, none⟩) (Kd.R_far (p := ⟨gb607, 2, none⟩) (Kd.R_far (p := ⟨gb607, 1, none⟩) (Kd.R_far (p := ⟨gb607, 0, none⟩) (Kd.R_types (Kd.R_types HO623.out BK607.out (by decide)) BK608.out (by decide)) (fun _ hk => hk.1.2) (.slice Ao50 y621.length co50)) (fun _ hk => hk.1.2) (.int .i64 (wrap64 (a1_1 - (((a1_2 : Int).toNat - (t613 : Int).toNat : Nat) : Int))))) (fun _ hk => hk.1.2) (.int .i64 (wrap64 (a1_2 - (((a1_2 : Int).toNat - (t613 : Int).toNat : Nat) : Int))))) (fun _ hk => hk.1.2) (.int .i64 (wrap64 (a1_3 + (wrap64 ((((a1_2 : Int).toNat - (t613 : Int).toNat : Nat) : Int) + (((t620 : Int).toNat - ((ji34) : Int).toNat : Nat) : Int))))))) (fun _ hk => hk.1.2) (.int .i64 (wrap64 (a1_4 + (wrap64 ((((a1_2 : Int).toNat - (t613 : Int).toNat : Nat) : Int) + (((t620 : Int).toNat - ((ji34) : Int).toNat : Nat) : Int))))))) (fun _ hk => hk.2) (.slice Ao50 y621.length co50)) (fun _ hk => hk.2) (.int .i64 (wrap64 (a1_1 - (((a1_2 : Int).toNat - (t613 : Int).toNat : Nat) : Int))))) (fun _ hk => hk.2) (.int .i64 (wrap64 (a1_2 - (((a1_2 : Int).toNat - (t613 : Int).toNat : Nat) : Int))))) (fun _ hk => hk.2) (.int .i64 (wrap64 (a1_3 + (wrap64 ((((a1_2 : Int).toNat - (t613 : Int).toNat : Nat) : Int) + (((t620 : Int).toNat - ((ji34) : Int).toNat : Nat) : Int))))))) (fun _ hk => hk.2) (.int .i64 (wrap64 (a1_4 + (wrap64 ((((a1_2 : Int).toNat - (t613 : Int).toNat : Nat) : Int) + (((t620 : Int).toNat - ((ji34) : Int).toNat : Nat) : Int))))))) (fun _ hk => trivial)), by with_reducible repeat first | exact HB.out | apply bA_ | apply bN_ | apply bD_ | refine bS_ ?_ GE607.out | refine bS_ ?_ GE608.out⟩
mutual
def p_patchMake2.l0 : Nat → Nat → List (S93) → List (S67) → Int → Int → ByteArray → ByteArray → List (S93) → Int → Int → List (S93) → Int → Int → Int → Int → Option ((List (S67)))
 | 0, _, _, _, _, _, _, _, _, _, _, _, _, _, _, _ => none
 | k + 1, x0, x2, x7, x9, x10, x11, x12, x23, x24, x25, x628000, x628001, x628002, x628003, x628004 => if x25 < x24 then (if 0 ≤ x25 then (if x25 < (x23.length : Int) then (if (x628000.length : Int) = 0 then (p_patchMake2.j1 k x0 x2 x7 x9 x10 x11 x12 x25 x23 x24 x25 (((rd_T93 x23 x25).f0) != 0) x628000 x628001 x628002 x628003 x628004 ((rd_T93 x23 x25).f0) ((rd_T93 x23 x25).f1)) else (p_patchMake2.j1 k x0 x2 x7 x9 x10 x11 x12 x25 x23 x24 x25 false x628000 x628001 x628002 x628003 x628004 ((rd_T93 x23 x25).f0) ((rd_T93 x23 x25).f1))) else (none)) else (none)) else (if (x628000.length : Int) = 0 then (some x7) else ((p_PatchAddContext.f k x0 x628000 x628001 x628002 x628003 x628004 x11).bind fun bt628 => (if x7.length < 2513169434916 then (some (x7 ++ [(⟨bt628.1, bt628.2.1, bt628.2.2.1, bt628.2.2.2.1, bt628.2.2.2.2⟩ : S67)])) else (none))))
def p_patchMake2.j1 : Nat → Nat → List (S93) → List (S67) → Int → Int → ByteArray → ByteArray → Int → List (S93) → Int → Int → Bool → List (S93) → Int → Int → Int → Int → Int → ByteArray → Option ((List (S67)))
 | 0, _, _, _, _, _, _, _, _, _, _, _, _, _, _, _, _, _, _, _ => none
 | k + 1, x0, x2, x7, x9, x10, x11, x12, x13, x23, x24, x25, x38, x628000, x628001, x628002, x628003, x628004, x640000, x640001 => if x38 = true then (p_patchMake2.j2 k x0 x2 x7 x9 x10 x11 x12 x13 x23 x24 x25 x628000 x9 x10 x628003 x628004 x640000 x640001) else (p_patchMake2.j2 k x0 x2 x7 x9 x10 x11 x12 x13 x23 x24 x25 x628000 x628001 x628002 x628003 x628004 x640000 x640001)
def p_patchMake2.j2 : Nat → Nat → List (S93) → List (S67) → Int → Int → ByteArray → ByteArray → Int → List (S93) → Int → Int → List (S93) → Int → Int → Int → Int → Int → ByteArray → Option ((List (S67)))
 | 0, _, _, _, _, _, _, _, _, _, _, _, _, _, _, _, _, _, _ => none
 | k + 1, x0, x2, x7, x9, x10, x11, x12, x13, x23, x24, x25, x628000, x628001, x628002, x628003, x628004, x640000, x640001 => if x640000 = 1 then (if x628000.length < 5864062014805 then (if 0 ≤ x10 then (if x10 ≤ (x12.size : Int) then (if (x12.extract 0 (x10 : Int).toNat).size + x640001.size ≤ 9223372036854775807 then (if ((x12.extract 0 (x10 : Int).toNat) ++ x640001).size + (x12.extract (x10 : Int).toNat x12.size).size ≤ 9223372036854775807 then (p_patchMake2.j4 k x0 x2 x7 x9 x10 x11 (((x12.extract 0 (x10 : Int).toNat) ++ x640001) ++ (x12.extract (x10 : Int).toNat x12.size)) x23 x24 x25 (x628000 ++ [(⟨x640000, x640001⟩ : S93)]) x628001 x628002 x628003 (wrap64 (x628004 + (x640001.size : Int))) x640000 x640001) else (none)) else (none)) else (none)) else (none)) else (none)) else (if x640000 = (-1) then (none) else (if x640000 = 0 then (if (x640001.size : Int) ≤ (2 * 4) then (if (x628000.length : Int) = 0 then (p_patchMake2.j3 k x0 x2 x7 x9 x10 x11 x12 x23 x24 x25 false x628000 x628001 x628002 x628003 x628004 x640000 x640001) else (p_patchMake2.j3 k x0 x2 x7 x9 x10 x11 x12 x23 x24 x25 (x13 != (wrap64 ((x2.length : Int) - 1))) x628000 x628001 x628002 x628003 x628004 x640000 x640001)) else (p_patchMake2.j3 k x0 x2 x7 x9 x10 x11 x12 x23 x24 x25 false x628000 x628001 x628002 x628003 x628004 x640000 x640001)) else (p_patchMake2.j4 k x0 x2 x7 x9 x10 x11 x12 x23 x24 x25 x628000 x628001 x628002 x628003 x628004 x640000 x640001)))
def p_patchMake2.j4 : Nat → Nat → List (S93) → List (S67) → Int → Int → ByteArray → ByteArray → List (S93) → Int → Int → List (S93) → Int → Int → Int → Int → Int → ByteArray → Option ((List (S67)))
 | 0, _, _, _, _, _, _, _, _, _, _, _, _, _, _, _, _, _ => none
 | k + 1, x0, x2, x7, x9, x10, x11, x12, x23, x24, x25, x628000, x628001, x628002, x628003, x628004, x640000, x640001 => if x640000 = 1 then (if x640000 = (-1) then (p_patchMake2.l0 k x0 x2 x7 x9 x10 x11 x12 x23 x24 (wrap64 (x25 + 1)) x628000 x628001 x628002 x628003 x628004) else (p_patchMake2.l0 k x0 x2 x7 x9 (wrap64 (x10 + (x640001.size : Int))) x11 x12 x23 x24 (wrap64 (x25 + 1)) x628000 x628001 x628002 x628003 x628004)) else (if x640000 = (-1) then (p_patchMake2.l0 k x0 x2 x7 (wrap64 (x9 + (x640001.size : Int))) x10 x11 x12 x23 x24 (wrap64 (x25 + 1)) x628000 x628001 x628002 x628003 x628004) else (p_patchMake2.l0 k x0 x2 x7 (wrap64 (x9 + (x640001.size : Int))) (wrap64 (x10 + (x640001.size : Int))) x11 x12 x23 x24 (wrap64 (x25 + 1)) x628000 x628001 x628002 x628003 x628004))
def p_patchMake2.j3 : Nat → Nat → List (S93) → List (S67) → Int → Int → ByteArray → ByteArray → List (S93) → Int → Int → Bool → List (S93) → Int → Int → Int → Int → Int → ByteArray → Option ((List (S67)))
 | 0, _, _, _, _, _, _, _, _, _, _, _, _, _, _, _, _, _, _ => none
 | k + 1, x0, x2, x7, x9, x10, x11, x12, x23, x24, x25, x119, x628000, x628001, x628002, x628003, x628004, x640000, x640001 => if x119 = true then (none) else (if (x640001.size : Int) ≥ (2 * 4) then (none) else (p_patchMake2.j4 k x0 x2 x7 x9 x10 x11 x12 x23 x24 x25 x628000 x628001 x628002 x628003 x628004 x640000 x640001))
end
def p_patchMake2.f (k : Nat) (a0 : Nat) (a1 : ByteArray) (l2 : List (S93)) : Option ((List (S67))) := if (l2.length : Int) = 0 then (none) else (p_patchMake2.l0 k a0 l2 (([] : List (S67))) 0 0 a1 a1 l2 (l2.length : Int) 0 ([] : List (S93)) 0 0 0 0)
theorem p_patchMake2.calls (k : Nat) (a0 : Nat) (a1 : ByteArray) (A2 : Option Addr) (c2 : Nat) (l2 : List (S93)) (r : List (S67)) (w : World) (hd0 : DmpAt w a0) (hr2 : Kd.C k93 w A2 l2.length l2) (hc2 : l2.length ≤ c2) (h : p_patchMake2.f k a0 a1 l2 = some r) :
  Calls Tryz.prog 67 #[.pointer (some ⟨a0, 0, none⟩), .string a1, .slice A2 l2.length c2] w fun e w' => ∃ v0_ : Value, e = .returned (v0_) ∧ Kd.S k67 67 w' w.heap.size (fun _ => True) v0_ r ∧ Below w.heap.size w w' := by
 have hu67 := Tryz.underlying67
 have hu93 := Tryz.underlying93
 have HD0 := Aside0.mk hd0
 clear hd0
 have HR2 := Aside0.mk hr2
 have HC2 := Aside0.mk hc2
 clear hr2 hc2
 have HB := aS_ (Below.refl w.heap.size w)
 have H : (if (l2.length : Int) = 0 then (none) else (p_patchMake2.l0 k a0 l2 (([] : List (S67))) 0 0 a1 a1 l2 (l2.length : Int) 0 ([] : List (S93)) 0 0 0 0)) = some r := h
 clear h
 obtain ⟨y624, hy624⟩ : ∃ y_ : List (S67), y_ = (([] : List (S67))) := ⟨_, rfl⟩
 replace H : (if (l2.length : Int) = 0 then (none) else (p_patchMake2.l0 k a0 l2 y624 0 0 a1 a1 l2 (l2.length : Int) 0 ([] : List (S93)) 0 0 0 0)) = some r := by first | (rw [hy624]; with_reducible exact H) | (have H2_ := (Option.bind_some _ _).symm.trans H; rw [hy624]; with_reducible exact H2_) | (have H2_ := (Option.bind_some _ _).symm.trans H; with_reducible exact H2_) | with_reducible exact H | (rw [hy624]; exact H) | exact H
 have Ny624 := Aside0.mk hy624
 clear hy624
 by_cases c4 : (l2.length : Int) = 0
 ·rw [if_pos c4] at H
  exact absurd H (by simp)
 ·rw [if_neg c4] at H
  have c4b0 := beq_eq_false_iff_ne.mpr c4
  have c4b1 := bne_iff_ne.mpr c4
  have c4b2 : ¬ (l2 = []) := fun h_ => c4 (by rw [h_]; rfl)
  have H' := Aside0.mk H
  clear H
  go_enter Tryz.func67, Tryz.ntmps67
  go_wp2_with (first | ((with_reducible refine gate_dst (N := 15) rfl ?_); (try (refine gate_guard (by rfl) ?_; dsimp only)); refine Kd.S_lit k67 _ 67 ?hg (N := 15) ?hd (xs := ([] : List (S67))) (inner := []) (ok := fun _ => True) (okp := fun _ => True) ?hr ?hp (fun _ hk => hk) trivial (Below.refl _ _) (Nat.le_refl _) (by simp) ?_; (case hd => rfl); (case hg => rfl); (case hr => first | (go_simp; done) | (go_simp; rfl)); (case hp => exact (Reps.none _ _)); intro v625 w5 ho6 hb hg_ hnew_; clear hg_ hnew_; (first | rw [← Ny624.out] at ho6 | (simp only [Int.reduceToNat] at ho6; rw [← Ny624.out] at ho6)); have HO626 := aS_ (Kd.S_lower ho6 (bz_ (bel_ HB.out))); replace HB := aS_ (bt_ (bel_ HB.out) hb); clear hb ho6) | ((with_reducible refine gate_dst (N := 8) rfl ?_); (try (refine gate_guard (by rfl) ?_; dsimp only)); refine box_event ?hg (N := 8) ?hd (cs := #[.slice none 0 0, .int .i64 0, .int .i64 0, .int .i64 0, .int .i64 0]) (t := 67) ?hr ?_; (case hd => rfl); (case hg => rfl); (case hr => first | (go_simp; done) | (go_simp; rfl)); intro gb627 hg w7 hbox hb; replace HO626 := aS_ (Kd.S_below (Kd.S_elderB (Kd.S_st HO626.out) gb627 (Nat.le_of_eq hg.symm)) hb); have BK627 := aS_ (hbox); have GW627 := aS_ ((by rw [hg]; exact (bz_ (bel_ HB.out)) : w.heap.size ≤ gb627)); have GE627 := aS_ ((by rw [hg]; exact (bz_ (bel_ HB.out)) : w.heap.size ≤ gb627)); replace HB := aS_ (bt_ (bel_ HB.out) hb); clear hb hbox hg; obtain ⟨hcz8_0, hcz8_1, hcz8_2, hcz8_3, hcz8_4, hfz8_0, hfz8_1, hfz8_2, hfz8_3, hfz8_4⟩ := blk5 BK627.out))
  repeat (go_quiet (first | ((with_reducible refine gate_dst (N := 15) rfl ?_); (try (refine gate_guard (by rfl) ?_; dsimp only)); refine Kd.S_lit k67 _ 67 ?hg (N := 15) ?hd (xs := ([] : List (S67))) (inner := []) (ok := fun _ => True) (okp := fun _ => True) ?hr ?hp (fun _ hk => hk) trivial (Below.refl _ _) (Nat.le_refl _) (by simp) ?_; (case hd => rfl); (case hg => rfl); (case hr => first | (go_simp; done) | (go_simp; rfl)); (case hp => exact (Reps.none _ _)); intro v625 w5 ho6 hb hg_ hnew_; clear hg_ hnew_; (first | rw [← Ny624.out] at ho6 | (simp only [Int.reduceToNat] at ho6; rw [← Ny624.out] at ho6)); have HO626 := aS_ (Kd.S_lower ho6 (bz_ (bel_ HB.out))); replace HB := aS_ (bt_ (bel_ HB.out) hb); clear hb ho6) | ((with_reducible refine gate_dst (N := 8) rfl ?_); (try (refine gate_guard (by rfl) ?_; dsimp only)); refine box_event ?hg (N := 8) ?hd (cs := #[.slice none 0 0, .int .i64 0, .int .i64 0, .int .i64 0, .int .i64 0]) (t := 67) ?hr ?_; (case hd => rfl); (case hg => rfl); (case hr => first | (go_simp; done) | (go_simp; rfl)); intro gb627 hg w7 hbox hb; replace HO626 := aS_ (Kd.S_below (Kd.S_elderB (Kd.S_st HO626.out) gb627 (Nat.le_of_eq hg.symm)) hb); have BK627 := aS_ (hbox); have GW627 := aS_ ((by rw [hg]; exact (bz_ (bel_ HB.out)) : w.heap.size ≤ gb627)); have GE627 := aS_ ((by rw [hg]; exact (bz_ (bel_ HB.out)) : w.heap.size ≤ gb627)); replace HB := aS_ (bt_ (bel_ HB.out) hb); clear hb hbox hg; obtain ⟨hcz8_0, hcz8_1, hcz8_2, hcz8_3, hcz8_4, hfz8_0, hfz8_1, hfz8_2, hfz8_3, hfz8_4⟩ := blk5 BK627.out)); try go_wp2_with (first | ((with_reducible refine gate_dst (N := 15) rfl ?_); (try (refine gate_guard (by rfl) ?_; dsimp only)); refine Kd.S_lit k67 _ 67 ?hg (N := 15) ?hd (xs := ([] : List (S67))) (inner := []) (ok := fun _ => True) (okp := fun _ => True) ?hr ?hp (fun _ hk => hk) trivial (Below.refl _ _) (Nat.le_refl _) (by simp) ?_; (case hd => rfl); (case hg => rfl); (case hr => first | (go_simp; done) | (go_simp; rfl)); (case hp => exact (Reps.none _ _)); intro v625 w5 ho6 hb hg_ hnew_; clear hg_ hnew_; (first | rw [← Ny624.out] at ho6 | (simp only [Int.reduceToNat] at ho6; rw [← Ny624.out] at ho6)); have n0_ := aS_ (Kd.S_lower ho6 (bz_ (bel_ HB.out))); have n1_ := aS_ (bt_ (bel_ HB.out) hb); clear HB; have HO626 := n0_; have HB := n1_; clear n0_ n1_; clear hb ho6) | ((with_reducible refine gate_dst (N := 8) rfl ?_); (try (refine gate_guard (by rfl) ?_; dsimp only)); refine box_event ?hg (N := 8) ?hd (cs := #[.slice none 0 0, .int .i64 0, .int .i64 0, .int .i64 0, .int .i64 0]) (t := 67) ?hr ?_; (case hd => rfl); (case hg => rfl); (case hr => first | (go_simp; done) | (go_simp; rfl)); intro gb627 hg w7 hbox hb; have n0_ := aS_ (Kd.S_below (Kd.S_elderB (Kd.S_st HO626.out) gb627 (Nat.le_of_eq hg.symm)) hb); have n1_ := aS_ (bt_ (bel_ HB.out) hb); have n2_ := aS_ (hbox); have n3_ := aS_ ((by rw [hg]; exact (bz_ (bel_ HB.out)) : w.heap.size ≤ gb627)); have n4_ := aS_ ((by rw [hg]; exact (bz_ (bel_ HB.out)) : w.heap.size ≤ gb627)); clear HO626; clear HB; have HO626 := n0_; have HB := n1_; have BK627 := n2_; have GW627 := n3_; have GE627 := n4_; clear n0_ n1_ n2_ n3_ n4_; clear hb hbox hg; obtain ⟨hcz8_0, hcz8_1, hcz8_2, hcz8_3, hcz8_4, hfz8_0, hfz8_1, hfz8_2, hfz8_3, hfz8_4⟩ := blk5 BK627.out)))
  go_loopg [9, 10, 12, 25, 7, 11] k (fun kq v9 v10 v12 v25 v7 v11 w' => ∃ (x9_1 : Int) (x10_1 : Int) (x12_1 : ByteArray) (x25_1 : Int) (x628000_1 : List (S93)) (x628001_1 : Int) (x628002_1 : Int) (x628004_1 : Int) (u628000 : Value), v9 = .int .i64 x9_1 ∧ v10 = .int .i64 x10_1 ∧ v12 = .string x12_1 ∧ v25 = .int .i64 x25_1 ∧ (v625 : Value) = v7 ∧ (.string a1 : Value) = v11 ∧ Aside0 (p_patchMake2.l0 kq a0 l2 y624 x9_1 x10_1 a1 x12_1 l2 (l2.length : Int) x25_1 x628000_1 x628001_1 x628002_1 0 x628004_1 = some r) ∧ Aside0 (kq ≤ k) ∧ Aside0 (Kd.S k67 67 w' w.heap.size (fun k_ => some k_ ≠ (u628000 : Value).ownBlock ∧ k_ ≠ gb627) v625 y624) ∧ Aside0 (Kd.R k93 93 w' w.heap.size (fun _ => True) u628000 x628000_1) ∧ Aside0 (w'.heap[gb627]? = some (.cells #[u628000, .int .i64 x628001_1, .int .i64 x628002_1, .int .i64 0, .int .i64 x628004_1] 67 (0, 0))) ∧ Aside0 (Below w.heap.size w w'))
  case atStart => exact ⟨(0), (0), (a1), (0), (([] : List (S93))), (0), (0), (0), (.slice none 0 0), (by first | rfl | simp [*]), (by first | rfl | simp [*]), (by first | rfl | simp [*]), (by first | rfl | simp [*]), (by first | rfl | simp [*]), (by first | rfl | simp [*]), H', ⟨Nat.le_refl _⟩, ⟨Kd.S_st (Kd.S_mono (Kd.S_far (p := ⟨gb627, 4, none⟩) (Kd.S_far (p := ⟨gb627, 3, none⟩) (Kd.S_far (p := ⟨gb627, 2, none⟩) (Kd.S_far (p := ⟨gb627, 1, none⟩) (Kd.S_far (p := ⟨gb627, 0, none⟩) (Kd.S_mono HO626.out (fun k_ hk => (⟨hk, hk.2⟩ : _ ∧ k_ ≠ gb627))) (fun _ hk => hk.2) (.slice none 0 0)) (fun _ hk => hk.2) (.int .i64 0)) (fun _ hk => hk.2) (.int .i64 0)) (fun _ hk => hk.2) (.int .i64 0)) (fun _ hk => hk.2) (.int .i64 0)) (fun _ hk => ⟨(by simp [Value.ownBlock]), hk.1.2⟩))⟩, ⟨by first | exact Kd.R_nil _ _ _ _ _ | exact Kd.S_nil _ _ _ _ _⟩, ⟨by (with_reducible repeat (first | refine kN_ ?_ _ | refine kD_ ?_ | refine kA_ ?_ _)); refine blk_put (cs := #[.slice none 0 0, .int .i64 0, .int .i64 0, .int .i64 0, .int .i64 0]) ?_ 4 _ rfl; (with_reducible repeat (first | refine kN_ ?_ _ | refine kD_ ?_ | refine kA_ ?_ _)); refine blk_put (cs := #[.slice none 0 0, .int .i64 0, .int .i64 0, .int .i64 0, .int .i64 0]) ?_ 3 _ rfl; (with_reducible repeat (first | refine kN_ ?_ _ | refine kD_ ?_ | refine kA_ ?_ _)); refine blk_put (cs := #[.slice none 0 0, .int .i64 0, .int .i64 0, .int .i64 0, .int .i64 0]) ?_ 2 _ rfl; (with_reducible repeat (first | refine kN_ ?_ _ | refine kD_ ?_ | refine kA_ ?_ _)); refine blk_put (cs := #[.slice none 0 0, .int .i64 0, .int .i64 0, .int .i64 0, .int .i64 0]) ?_ 1 _ rfl; (with_reducible repeat (first | refine kN_ ?_ _ | refine kD_ ?_ | refine kA_ ?_ _)); refine blk_put (cs := #[.slice none 0 0, .int .i64 0, .int .i64 0, .int .i64 0, .int .i64 0]) ?_ 0 _ rfl; (with_reducible repeat (first | refine kN_ ?_ _ | refine kD_ ?_ | refine kA_ ?_ _)); exact BK627.out⟩, ⟨by with_reducible repeat first | exact HB.out | apply bA_ | apply bN_ | apply bD_ | refine bS_ ?_ GE627.out⟩⟩
  case round =>
   clear H'
   obtain ⟨x9_1, x10_1, x12_1, x25_1, x628000_1, x628001_1, x628002_1, x628004_1, u628000, rfl, rfl, rfl, rfl, rfl, rfl, HA, HK1, HO_7, HO_628000, BK627, HB⟩ := hrel
   cases gk with
   | zero => exact absurd HA.out (by simp [p_patchMake2.l0])
   | succ k1 =>
    have H := HA.out; clear HA
    simp only [p_patchMake2.l0] at H
    by_cases c9 : x25_1 < (l2.length : Int)
    ·rw [if_pos c9] at H
     have c9b0 := decide_eq_true c9
     clear c9
     replace H := yes_ H; obtain ⟨c10, H⟩ := H
     have c10b0 := decide_eq_true c10
     clear c10
     replace H := yes_ H; obtain ⟨c11, H⟩ := H
     have c11b0 := decide_eq_true c11
     clear c11
     have HC12 := Aside0.mk H
     clear H
     have p638 : 0 ≤ (x25_1 : Int) := of_decide_eq_true (by assumption)
     have q638 : x25_1 < (l2.length : Int) := of_decide_eq_true (by assumption)
     obtain ⟨ad638, e638, hx638_0, hx638_1⟩ := at_T93 HR2.out x25_1 p638 q638
     cases e638
     replace hx638_0 := (HB.out.cell (World.block_lt_of_cell? w _ hx638_0)).trans hx638_0
     replace hx638_1 := (HB.out.cell (World.block_lt_of_cell? w _ hx638_1)).trans hx638_1
     replace p638 := eq_true p638
     replace q638 := eq_true q638
     go_upto_region 12 with (first | ((with_reducible refine gate_dst (N := 14) rfl ?_); (try (refine gate_guard (by rfl) ?_; dsimp only)); refine box_event ?hg (N := 14) ?hd (cs := #[.int .i8 0, .string (⟨#[]⟩ : ByteArray)]) (t := 93) ?hr ?_; (case hd => rfl); (case hg => rfl); (case hr => first | (go_simp; done) | (go_simp; rfl)); intro gb639 hg w13 hbox hb; replace HO_7 := aS_ (Kd.S_below (Kd.S_elderB (Kd.S_st HO_7.out) gb639 (Nat.le_of_eq hg.symm)) hb); replace HO_628000 := aS_ (Kd.R_below (Kd.R_elderB (Kd.R_st HO_628000.out) gb639 (Nat.le_of_eq hg.symm)) hb); have BK639 := aS_ (hbox); have GW639 := aS_ ((by rw [hg]; exact (bz_ (by with_reducible repeat first | exact HB.out | apply bA_ | apply bN_ | apply bD_ | refine bS_ ?_ GE627.out)) : w.heap.size ≤ gb639)); have GE639 := aS_ ((by rw [hg]; exact (bz_ (by with_reducible repeat first | exact HB.out | apply bA_ | apply bN_ | apply bD_ | refine bS_ ?_ GE627.out)) : w.heap.size ≤ gb639)); replace HB := aS_ (bt_ (by with_reducible repeat first | exact HB.out | apply bA_ | apply bN_ | apply bD_ | refine bS_ ?_ GE627.out) hb); have NB627_639 := aS_ ((by rw [hg]; exact Nat.ne_of_lt (blk_lt (g := gb627) (o := .cells #[u628000, .int .i64 x628001_1, .int .i64 x628002_1, .int .i64 0, .int .i64 x628004_1] 67 (0, 0)) (blk_st BK627.out)) : gb627 ≠ gb639)); have NB639_627 := aS_ ((by rw [hg]; exact Nat.ne_of_gt (blk_lt (g := gb627) (o := .cells #[u628000, .int .i64 x628001_1, .int .i64 x628002_1, .int .i64 0, .int .i64 x628004_1] 67 (0, 0)) (blk_st BK627.out)) : gb639 ≠ gb627)); replace BK627 := aS_ (blk_below (g := gb627) (o := .cells #[u628000, .int .i64 x628001_1, .int .i64 x628002_1, .int .i64 0, .int .i64 x628004_1] 67 (0, 0)) (blk_st BK627.out) hb); clear hb hbox hg; have hnb14 := NB639_627.out; have hnc14 := NB627_639.out; obtain ⟨hcz15_0, hcz15_1, hfz15_0, hfz15_1⟩ := blk2 BK639.out))
     repeat (go_quiet (first | ((with_reducible refine gate_dst (N := 14) rfl ?_); (try (refine gate_guard (by rfl) ?_; dsimp only)); refine box_event ?hg (N := 14) ?hd (cs := #[.int .i8 0, .string (⟨#[]⟩ : ByteArray)]) (t := 93) ?hr ?_; (case hd => rfl); (case hg => rfl); (case hr => first | (go_simp; done) | (go_simp; rfl)); intro gb639 hg w13 hbox hb; replace HO_7 := aS_ (Kd.S_below (Kd.S_elderB (Kd.S_st HO_7.out) gb639 (Nat.le_of_eq hg.symm)) hb); replace HO_628000 := aS_ (Kd.R_below (Kd.R_elderB (Kd.R_st HO_628000.out) gb639 (Nat.le_of_eq hg.symm)) hb); have BK639 := aS_ (hbox); have GW639 := aS_ ((by rw [hg]; exact (bz_ (by with_reducible repeat first | exact HB.out | apply bA_ | apply bN_ | apply bD_ | refine bS_ ?_ GE627.out)) : w.heap.size ≤ gb639)); have GE639 := aS_ ((by rw [hg]; exact (bz_ (by with_reducible repeat first | exact HB.out | apply bA_ | apply bN_ | apply bD_ | refine bS_ ?_ GE627.out)) : w.heap.size ≤ gb639)); replace HB := aS_ (bt_ (by with_reducible repeat first | exact HB.out | apply bA_ | apply bN_ | apply bD_ | refine bS_ ?_ GE627.out) hb); have NB627_639 := aS_ ((by rw [hg]; exact Nat.ne_of_lt (blk_lt (g := gb627) (o := .cells #[u628000, .int .i64 x628001_1, .int .i64 x628002_1, .int .i64 0, .int .i64 x628004_1] 67 (0, 0)) (blk_st BK627.out)) : gb627 ≠ gb639)); have NB639_627 := aS_ ((by rw [hg]; exact Nat.ne_of_gt (blk_lt (g := gb627) (o := .cells #[u628000, .int .i64 x628001_1, .int .i64 x628002_1, .int .i64 0, .int .i64 x628004_1] 67 (0, 0)) (blk_st BK627.out)) : gb639 ≠ gb627)); replace BK627 := aS_ (blk_below (g := gb627) (o := .cells #[u628000, .int .i64 x628001_1, .int .i64 x628002_1, .int .i64 0, .int .i64 x628004_1] 67 (0, 0)) (blk_st BK627.out) hb); clear hb hbox hg; have hnb14 := NB639_627.out; have hnc14 := NB627_639.out; obtain ⟨hcz15_0, hcz15_1, hfz15_0, hfz15_1⟩ := blk2 BK639.out)); go_upto_region 12 with (first | ((with_reducible refine gate_dst (N := 14) rfl ?_); (try (refine gate_guard (by rfl) ?_; dsimp only)); refine box_event ?hg (N := 14) ?hd (cs := #[.int .i8 0, .string (⟨#[]⟩ : ByteArray)]) (t := 93) ?hr ?_; (case hd => rfl); (case hg => rfl); (case hr => first | (go_simp; done) | (go_simp; rfl)); intro gb639 hg w13 hbox hb; have n0_ := aS_ (Kd.S_below (Kd.S_elderB (Kd.S_st HO_7.out) gb639 (Nat.le_of_eq hg.symm)) hb); have n1_ := aS_ (Kd.R_below (Kd.R_elderB (Kd.R_st HO_628000.out) gb639 (Nat.le_of_eq hg.symm)) hb); have n2_ := aS_ (blk_below (g := gb627) (o := .cells #[u628000, .int .i64 x628001_1, .int .i64 x628002_1, .int .i64 0, .int .i64 x628004_1] 67 (0, 0)) (blk_st BK627.out) hb); have n3_ := aS_ (bt_ (by with_reducible repeat first | exact HB.out | apply bA_ | apply bN_ | apply bD_ | refine bS_ ?_ GE627.out) hb); have n4_ := aS_ (hbox); have n5_ := aS_ ((by rw [hg]; exact (bz_ (by with_reducible repeat first | exact HB.out | apply bA_ | apply bN_ | apply bD_ | refine bS_ ?_ GE627.out)) : w.heap.size ≤ gb639)); have n6_ := aS_ ((by rw [hg]; exact (bz_ (by with_reducible repeat first | exact HB.out | apply bA_ | apply bN_ | apply bD_ | refine bS_ ?_ GE627.out)) : w.heap.size ≤ gb639)); have n7_ := aS_ ((by rw [hg]; exact Nat.ne_of_lt (blk_lt (g := gb627) (o := .cells #[u628000, .int .i64 x628001_1, .int .i64 x628002_1, .int .i64 0, .int .i64 x628004_1] 67 (0, 0)) (blk_st BK627.out)) : gb627 ≠ gb639)); have n8_ := aS_ ((by rw [hg]; exact Nat.ne_of_gt (blk_lt (g := gb627) (o := .cells #[u628000, .int .i64 x628001_1, .int .i64 x628002_1, .int .i64 0, .int .i64 x628004_1] 67 (0, 0)) (blk_st BK627.out)) : gb639 ≠ gb627)); clear HO_7; clear HO_628000; clear BK627; clear HB; have HO_7 := n0_; have HO_628000 := n1_; have BK627 := n2_; have HB := n3_; have BK639 := n4_; have GW639 := n5_; have GE639 := n6_; have NB627_639 := n7_; have NB639_627 := n8_; clear n0_ n1_ n2_ n3_ n4_ n5_ n6_ n7_ n8_; clear hb hbox hg; have hnb14 := NB639_627.out; have hnc14 := NB627_639.out; obtain ⟨hcz15_0, hcz15_1, hfz15_0, hfz15_1⟩ := blk2 BK639.out)))
     (try simp only [Act.put, l1_, l2_, l3_])
     go_cut [38] (fun v38 wc => ∃ (kq : Nat) (x38_11 : Bool), v38 = .bool x38_11 ∧ Aside0 (p_patchMake2.j1 kq a0 l2 y624 x9_1 x10_1 a1 x12_1 x25_1 l2 (l2.length : Int) x25_1 x38_11 x628000_1 x628001_1 x628002_1 0 x628004_1 ((rd_T93 l2 x25_1).f0) ((rd_T93 l2 x25_1).f1) = some r) ∧ Aside0 (kq ≤ k1) ∧ Aside0 (Kd.S k67 67 wc w.heap.size (fun k_ => some k_ ≠ (u628000 : Value).ownBlock ∧ k_ ≠ gb627 ∧ k_ ≠ gb639) v625 y624) ∧ Aside0 (Kd.R k93 93 wc w.heap.size (fun k_ => k_ ≠ gb639) u628000 x628000_1) ∧ Aside0 (wc.heap[gb627]? = some (.cells #[u628000, .int .i64 x628001_1, .int .i64 x628002_1, .int .i64 0, .int .i64 x628004_1] 67 (0, 0))) ∧ Aside0 (wc.heap[gb639]? = some (.cells #[.int .i8 ((rd_T93 l2 x25_1).f0), .string ((rd_T93 l2 x25_1).f1)] 93 (0, 0))) ∧ Aside0 (Below w.heap.size w wc))
     case first =>
      have H := HC12.out
      clear HC12
      by_cases c16 : (x628000_1.length : Int) = 0
      ·rw [if_pos c16] at H
       have c16b0 := beq_iff_eq.mpr c16
       have c16b1 := bne_eq_false_iff_eq.mpr c16
       clear c16
       (first | rw [c16b0] | (simp only [i64_w]; rw [c16b0]) | skip)
       have H' := Aside0.mk H
       clear H
       have hnb17 := NB627_639.out
       have hnc17 := NB639_627.out
       obtain ⟨hcz18_0, hcz18_1, hcz18_2, hcz18_3, hcz18_4, hfz18_0, hfz18_1, hfz18_2, hfz18_3, hfz18_4⟩ := blk5 BK627.out
       obtain ⟨Ao19, co19, eo19⟩ := Kd.R_slice HO_628000.out
       subst eo19
       obtain ⟨hcz20_0, hcz20_1, hfz20_0, hfz20_1⟩ := blk2 BK639.out
       go_wp2
       repeat (go_quiet (fail); try go_wp2)
       go_meet
       case rel => exact ⟨_, ((((rd_T93 l2 x25_1).f0) != 0)), (by first | rfl | simp [*]), H', ⟨by have := HK1.out; first | omega | exact Nat.le_refl _⟩, ⟨Kd.S_st (Kd.S_mono (Kd.S_far (p := ⟨gb639, 1, none⟩) (Kd.S_far (p := ⟨gb639, 0, none⟩) (Kd.S_mono HO_7.out (fun k_ hk => (⟨hk, hk.2⟩ : _ ∧ k_ ≠ gb639))) (fun _ hk => hk.2) (.int .i8 ((rd_T93 l2 x25_1).f0))) (fun _ hk => hk.2) (.string ((rd_T93 l2 x25_1).f1))) (fun _ hk => ⟨hk.1.1.1, ⟨hk.1.1.2, hk.1.2⟩⟩))⟩, ⟨Kd.R_st (Kd.R_mono (Kd.R_far (p := ⟨gb639, 1, none⟩) (Kd.R_far (p := ⟨gb639, 0, none⟩) (Kd.R_mono HO_628000.out (fun k_ hk => (⟨hk, hk.2⟩ : _ ∧ k_ ≠ gb639))) (fun _ hk => hk.2) (.int .i8 ((rd_T93 l2 x25_1).f0))) (fun _ hk => hk.2) (.string ((rd_T93 l2 x25_1).f1))) (fun _ hk => hk.1.2))⟩, ⟨by (with_reducible repeat (first | refine kN_ ?_ _ | refine kD_ ?_ | refine kA_ ?_ _)); refine blk_far ?_ NB627_639.out _; (with_reducible repeat (first | refine kN_ ?_ _ | refine kD_ ?_ | refine kA_ ?_ _)); refine blk_far ?_ NB627_639.out _; (with_reducible repeat (first | refine kN_ ?_ _ | refine kD_ ?_ | refine kA_ ?_ _)); exact BK627.out⟩, ⟨by (with_reducible repeat (first | refine kN_ ?_ _ | refine kD_ ?_ | refine kA_ ?_ _)); refine blk_put (cs := #[.int .i8 ((rd_T93 l2 x25_1).f0), .string (⟨#[]⟩ : ByteArray)]) ?_ 1 _ rfl; (with_reducible repeat (first | refine kN_ ?_ _ | refine kD_ ?_ | refine kA_ ?_ _)); refine blk_put (cs := #[.int .i8 0, .string (⟨#[]⟩ : ByteArray)]) ?_ 0 _ rfl; (with_reducible repeat (first | refine kN_ ?_ _ | refine kD_ ?_ | refine kA_ ?_ _)); exact BK639.out⟩, ⟨by with_reducible repeat first | exact HB.out | apply bA_ | apply bN_ | apply bD_ | refine bS_ ?_ GE627.out | refine bS_ ?_ GE639.out⟩⟩
      ·rw [if_neg c16] at H
       have c16b0 := beq_eq_false_iff_ne.mpr c16
       have c16b1 := bne_iff_ne.mpr c16
       have c16b2 : ¬ (x628000_1 = []) := fun h_ => c16 (by rw [h_]; rfl)
       (first | rw [c16b0] | (simp only [i64_w]; rw [c16b0]) | skip)
       have H' := Aside0.mk H
       clear H
       have hnb21 := NB627_639.out
       have hnc21 := NB639_627.out
       obtain ⟨hcz22_0, hcz22_1, hcz22_2, hcz22_3, hcz22_4, hfz22_0, hfz22_1, hfz22_2, hfz22_3, hfz22_4⟩ := blk5 BK627.out
       obtain ⟨Ao23, co23, eo23⟩ := Kd.R_slice HO_628000.out
       subst eo23
       go_wp2
       repeat (go_quiet (fail); try go_wp2)
       go_meet
       case rel => exact ⟨_, (false), (by first | rfl | simp [*]), H', ⟨by have := HK1.out; first | omega | exact Nat.le_refl _⟩, ⟨Kd.S_st (Kd.S_mono (Kd.S_far (p := ⟨gb639, 1, none⟩) (Kd.S_far (p := ⟨gb639, 0, none⟩) (Kd.S_mono HO_7.out (fun k_ hk => (⟨hk, hk.2⟩ : _ ∧ k_ ≠ gb639))) (fun _ hk => hk.2) (.int .i8 ((rd_T93 l2 x25_1).f0))) (fun _ hk => hk.2) (.string ((rd_T93 l2 x25_1).f1))) (fun _ hk => ⟨hk.1.1.1, ⟨hk.1.1.2, hk.1.2⟩⟩))⟩, ⟨Kd.R_st (Kd.R_mono (Kd.R_far (p := ⟨gb639, 1, none⟩) (Kd.R_far (p := ⟨gb639, 0, none⟩) (Kd.R_mono HO_628000.out (fun k_ hk => (⟨hk, hk.2⟩ : _ ∧ k_ ≠ gb639))) (fun _ hk => hk.2) (.int .i8 ((rd_T93 l2 x25_1).f0))) (fun _ hk => hk.2) (.string ((rd_T93 l2 x25_1).f1))) (fun _ hk => hk.1.2))⟩, ⟨by (with_reducible repeat (first | refine kN_ ?_ _ | refine kD_ ?_ | refine kA_ ?_ _)); refine blk_far ?_ NB627_639.out _; (with_reducible repeat (first | refine kN_ ?_ _ | refine kD_ ?_ | refine kA_ ?_ _)); refine blk_far ?_ NB627_639.out _; (with_reducible repeat (first | refine kN_ ?_ _ | refine kD_ ?_ | refine kA_ ?_ _)); exact BK627.out⟩, ⟨by (with_reducible repeat (first | refine kN_ ?_ _ | refine kD_ ?_ | refine kA_ ?_ _)); refine blk_put (cs := #[.int .i8 ((rd_T93 l2 x25_1).f0), .string (⟨#[]⟩ : ByteArray)]) ?_ 1 _ rfl; (with_reducible repeat (first | refine kN_ ?_ _ | refine kD_ ?_ | refine kA_ ?_ _)); refine blk_put (cs := #[.int .i8 0, .string (⟨#[]⟩ : ByteArray)]) ?_ 0 _ rfl; (with_reducible repeat (first | refine kN_ ?_ _ | refine kD_ ?_ | refine kA_ ?_ _)); exact BK639.out⟩, ⟨by with_reducible repeat first | exact HB.out | apply bA_ | apply bN_ | apply bD_ | refine bS_ ?_ GE627.out | refine bS_ ?_ GE639.out⟩⟩
     case rest =>
      clear HC12
      obtain ⟨kq, x38_11, rfl, HA, HJ11, HO_7, HO_628000, BK627, BK639, HB⟩ := hcut
      cases kq with
      | zero => exact absurd HA.out (by simp [p_patchMake2.j1])
      | succ kj11 =>
       have H := HA.out; clear HA
       simp only [p_patchMake2.j1] at H
       have HC24 := Aside0.mk H
       clear H
       go_upto_if 38 with (fail)
       repeat (go_quiet (fail); go_upto_if 38 with (fail))
       go_cut [] (fun wc => ∃ (kq : Nat) (x628001_23 : Int) (x628002_23 : Int), Aside0 (p_patchMake2.j2 kq a0 l2 y624 x9_1 x10_1 a1 x12_1 x25_1 l2 (l2.length : Int) x25_1 x628000_1 x628001_23 x628002_23 0 x628004_1 ((rd_T93 l2 x25_1).f0) ((rd_T93 l2 x25_1).f1) = some r) ∧ Aside0 (kq ≤ kj11) ∧ Aside0 (Kd.S k67 67 wc w.heap.size (fun k_ => some k_ ≠ (u628000 : Value).ownBlock ∧ k_ ≠ gb627 ∧ k_ ≠ gb639) v625 y624) ∧ Aside0 (Kd.R k93 93 wc w.heap.size (fun k_ => k_ ≠ gb639) u628000 x628000_1) ∧ Aside0 (wc.heap[gb627]? = some (.cells #[u628000, .int .i64 x628001_23, .int .i64 x628002_23, .int .i64 0, .int .i64 x628004_1] 67 (0, 0))) ∧ Aside0 (wc.heap[gb639]? = some (.cells #[.int .i8 ((rd_T93 l2 x25_1).f0), .string ((rd_T93 l2 x25_1).f1)] 93 (0, 0))) ∧ Aside0 (Below w.heap.size w wc))
       case first =>
        have H := HC24.out
        clear HC24
        by_cases c25 : x38_11 = true
        ·subst c25
         rw [if_pos rfl] at H
         have H' := Aside0.mk H
         clear H
         have hnb26 := NB627_639.out
         have hnc26 := NB639_627.out
         obtain ⟨hcz27_0, hcz27_1, hcz27_2, hcz27_3, hcz27_4, hfz27_0, hfz27_1, hfz27_2, hfz27_3, hfz27_4⟩ := blk5 BK627.out
         go_wp2
         repeat (go_quiet (fail); try go_wp2)
         go_meet
         case rel => exact ⟨_, (x9_1), (x10_1), H', ⟨by have := HK1.out; have := HJ11.out; first | omega | exact Nat.le_refl _⟩, ⟨Kd.S_st (Kd.S_mono (Kd.S_far (p := ⟨gb627, 2, none⟩) (Kd.S_far (p := ⟨gb627, 1, none⟩) (Kd.S_mono HO_7.out (fun k_ hk => (⟨hk, hk.2.1⟩ : _ ∧ k_ ≠ gb627))) (fun _ hk => hk.2) (.int .i64 x9_1)) (fun _ hk => hk.2) (.int .i64 x10_1)) (fun _ hk => ⟨hk.1.1, ⟨hk.1.2.1, hk.1.2.2⟩⟩))⟩, ⟨Kd.R_st (Kd.R_mono (Kd.R_far (p := ⟨gb627, 2, none⟩) (Kd.R_far (p := ⟨gb627, 1, none⟩) (Kd.R_types HO_628000.out BK627.out (by decide)) (fun _ hk => hk.2) (.int .i64 x9_1)) (fun _ hk => hk.2) (.int .i64 x10_1)) (fun _ hk => hk.1))⟩, ⟨by (with_reducible repeat (first | refine kN_ ?_ _ | refine kD_ ?_ | refine kA_ ?_ _)); refine blk_put (cs := #[u628000, .int .i64 x9_1, .int .i64 x628002_1, .int .i64 0, .int .i64 x628004_1]) ?_ 2 _ rfl; (with_reducible repeat (first | refine kN_ ?_ _ | refine kD_ ?_ | refine kA_ ?_ _)); refine blk_put (cs := #[u628000, .int .i64 x628001_1, .int .i64 x628002_1, .int .i64 0, .int .i64 x628004_1]) ?_ 1 _ rfl; (with_reducible repeat (first | refine kN_ ?_ _ | refine kD_ ?_ | refine kA_ ?_ _)); exact BK627.out⟩, ⟨by (with_reducible repeat (first | refine kN_ ?_ _ | refine kD_ ?_ | refine kA_ ?_ _)); refine blk_far ?_ NB639_627.out _; (with_reducible repeat (first | refine kN_ ?_ _ | refine kD_ ?_ | refine kA_ ?_ _)); refine blk_far ?_ NB639_627.out _; (with_reducible repeat (first | refine kN_ ?_ _ | refine kD_ ?_ | refine kA_ ?_ _)); exact BK639.out⟩, ⟨by with_reducible repeat first | exact HB.out | apply bA_ | apply bN_ | apply bD_ | refine bS_ ?_ GE627.out | refine bS_ ?_ GE639.out⟩⟩
        ·replace c25 := Bool.eq_false_iff.mpr c25
         subst c25
         rw [if_neg (show ¬ (false = true) by decide)] at H
         have H' := Aside0.mk H
         clear H
         go_wp2
         repeat (go_quiet (fail); try go_wp2)
         go_meet
         case rel => exact ⟨_, (x628001_1), (x628002_1), H', ⟨by have := HK1.out; have := HJ11.out; first | omega | exact Nat.le_refl _⟩, ⟨Kd.S_st HO_7.out⟩, ⟨Kd.R_st HO_628000.out⟩, ⟨blk_st BK627.out⟩, ⟨blk_st BK639.out⟩, ⟨by with_reducible repeat first | exact HB.out | apply bA_ | apply bN_ | apply bD_ | refine bS_ ?_ GE627.out | refine bS_ ?_ GE639.out⟩⟩
       case rest =>
        clear HC24
        obtain ⟨kq, x628001_23, x628002_23, HA, HJ23, HO_7, HO_628000, BK627, BK639, HB⟩ := hcut
        cases kq with
        | zero => exact absurd HA.out (by simp [p_patchMake2.j2])
        | succ kj23 =>
         have H := HA.out; clear HA
         simp only [p_patchMake2.j2] at H
         have HC28 := Aside0.mk H
         clear H
         have hnb29 := NB639_627.out
         have hnc29 := NB627_639.out
         obtain ⟨hcz30_0, hcz30_1, hfz30_0, hfz30_1⟩ := blk2 BK639.out
         go_upto_block 2 with (fail)
         repeat (go_quiet (fail); go_upto_block 2 with (fail))
         go_cut [12, 7, 9, 11] (fun v12 v7 v9 v11 wc => ∃ (kq : Nat) (x12_27 : ByteArray) (x628000_27 : List (S93)) (x628004_27 : Int) (u628000 : Value), v12 = .string x12_27 ∧ (v625 : Value) = v7 ∧ (.int .i64 x9_1 : Value) = v9 ∧ (.string a1 : Value) = v11 ∧ Aside0 (p_patchMake2.j4 kq a0 l2 y624 x9_1 x10_1 a1 x12_27 l2 (l2.length : Int) x25_1 x628000_27 x628001_23 x628002_23 0 x628004_27 ((rd_T93 l2 x25_1).f0) ((rd_T93 l2 x25_1).f1) = some r) ∧ Aside0 (kq ≤ kj23) ∧ Aside0 (Kd.S k67 67 wc w.heap.size (fun k_ => some k_ ≠ (u628000 : Value).ownBlock ∧ k_ ≠ gb627 ∧ k_ ≠ gb639) v625 y624) ∧ Aside0 (Kd.R k93 93 wc w.heap.size (fun k_ => k_ ≠ gb639) u628000 x628000_27) ∧ Aside0 (wc.heap[gb627]? = some (.cells #[u628000, .int .i64 x628001_23, .int .i64 x628002_23, .int .i64 0, .int .i64 x628004_27] 67 (0, 0))) ∧ Aside0 (wc.heap[gb639]? = some (.cells #[.int .i8 ((rd_T93 l2 x25_1).f0), .string ((rd_T93 l2 x25_1).f1)] 93 (0, 0))) ∧ Aside0 (Below w.heap.size w wc))
         case first =>
          have H := HC28.out
          clear HC28
          by_cases c31 : ((rd_T93 l2 x25_1).f0) = 1
          ·rw [if_pos c31] at H
           have c31b0 := beq_iff_eq.mpr c31
           have c31b1 := bne_eq_false_iff_eq.mpr c31
           clear c31
           (first | rw [c31b0] | (simp only [i64_w]; rw [c31b0]) | skip)
           replace H := yes_ H; obtain ⟨c32, H⟩ := H
           have LMc32 := Aside0.mk c32
           clear c32
           obtain ⟨y640, hy640⟩ : ∃ y_ : List (S93), y_ = (x628000_1 ++ [(⟨((rd_T93 l2 x25_1).f0), ((rd_T93 l2 x25_1).f1)⟩ : S93)]) := ⟨_, rfl⟩
           replace H : (if 0 ≤ x10_1 then (if x10_1 ≤ (x12_1.size : Int) then (if (x12_1.extract 0 (x10_1 : Int).toNat).size + ((rd_T93 l2 x25_1).f1).size ≤ 9223372036854775807 then (if ((x12_1.extract 0 (x10_1 : Int).toNat) ++ ((rd_T93 l2 x25_1).f1)).size + (x12_1.extract (x10_1 : Int).toNat x12_1.size).size ≤ 9223372036854775807 then (p_patchMake2.j4 kj23 a0 l2 y624 x9_1 x10_1 a1 (((x12_1.extract 0 (x10_1 : Int).toNat) ++ ((rd_T93 l2 x25_1).f1)) ++ (x12_1.extract (x10_1 : Int).toNat x12_1.size)) l2 (l2.length : Int) x25_1 y640 x628001_23 x628002_23 0 (wrap64 (x628004_1 + (((rd_T93 l2 x25_1).f1).size : Int))) ((rd_T93 l2 x25_1).f0) ((rd_T93 l2 x25_1).f1)) else (none)) else (none)) else (none)) else (none)) = some r := by first | (rw [hy640]; with_reducible exact H) | (have H2_ := (Option.bind_some _ _).symm.trans H; rw [hy640]; with_reducible exact H2_) | (have H2_ := (Option.bind_some _ _).symm.trans H; with_reducible exact H2_) | with_reducible exact H | (rw [hy640]; exact H) | exact H
           have Ny640 := Aside0.mk hy640
           clear hy640
           replace H := yes_ H; obtain ⟨c33, H⟩ := H
           have c33b0 := eq_true c33
           have c33b1 := decide_eq_true c33
           clear c33
           replace H := yes_ H; obtain ⟨c34, H⟩ := H
           have c34b0 := eq_true c34
           have c34b1 := decide_eq_true c34
           clear c34
           replace H := yes_ H; obtain ⟨c35, H⟩ := H
           have c35b0 := eq_true c35
           have c35b1 := decide_eq_true c35
           try have c35b2 : (9223372036854775807 < (x12_1.extract 0 (x10_1 : Int).toNat).size + ((rd_T93 l2 x25_1).f1).size) = False := eq_false (Nat.not_lt.2 c35)
           have c36b0 := eq_true (of_decide_eq_true (by assumption) : 0 ≤ x10_1)
           have c37b0 := eq_true (of_decide_eq_true (by assumption) : x10_1 ≤ (x12_1.size : Int))
           replace H := yes_ H; obtain ⟨c38, H⟩ := H
           have c38b0 := eq_true c38
           have c38b1 := decide_eq_true c38
           try have c38b2 : (9223372036854775807 < ((x12_1.extract 0 (x10_1 : Int).toNat) ++ ((rd_T93 l2 x25_1).f1)).size + (x12_1.extract (x10_1 : Int).toNat x12_1.size).size) = False := eq_false (Nat.not_lt.2 c38)
           have H' := Aside0.mk H
           clear H
           have hnb39 := NB627_639.out
           have hnc39 := NB639_627.out
           obtain ⟨hcz40_0, hcz40_1, hcz40_2, hcz40_3, hcz40_4, hfz40_0, hfz40_1, hfz40_2, hfz40_3, hfz40_4⟩ := blk5 BK627.out
           obtain ⟨hcz41_0, hcz41_1, hfz41_0, hfz41_1⟩ := blk2 BK639.out
           go_wp2_with (first | ((with_reducible refine gate_builtin (b := .append) (xs := #[.tmp 48, .tmp 50]) rfl ?_); (try (refine gate_guard (by rfl) ?_; dsimp only)); at_builtin; refine Kd.R_append k93 (w0 := w) w.heap.size rfl (.tmp 48) (.tmp 50) 65 93 (.agg #[(.int .i8 0), (.string ⟨#[]⟩)]) 24 rfl Tryz.underlying65 info93 rfl (by decide) (by omega) u628000 x628000_1 (⟨((rd_T93 l2 x25_1).f0), ((rd_T93 l2 x25_1).f1)⟩ : S93) [.int .i8 ((rd_T93 l2 x25_1).f0), .string ((rd_T93 l2 x25_1).f1)] (fun k_ => k_ ≠ gb639) (fun _ => False) rfl rfl ?aP (fun _ hk => hk.elim) ?aF ?aO ?aB ?aS ?aL ?_; (case aP => exact k93_mkM _ _ _ (⟨((rd_T93 l2 x25_1).f0), ((rd_T93 l2 x25_1).f1)⟩ : S93)); (case aB => exact (by with_reducible repeat first | exact HB.out | apply bA_ | apply bN_ | apply bD_ | refine bS_ ?_ GE627.out | refine bS_ ?_ GE639.out)); (case aF => exact (fun k_ hk => Kd.freshB (g := gb639) (o := .cells #[.int .i8 ((rd_T93 l2 x25_1).f0), .string ((rd_T93 l2 x25_1).f1)] 93 (0, 0)) (blk_st BK639.out) k_ hk)); (case aO => exact (Kd.R_st HO_628000.out)); (case aS => exact (bz_ (by with_reducible repeat first | exact HB.out | apply bA_ | apply bN_ | apply bD_ | refine bS_ ?_ GE627.out | refine bS_ ?_ GE639.out))); (case aL => have := LMc32.out; omega); intro v641 w42 ho hb hg hat; rw [← Ny640.out] at ho; replace HO_7 := aS_ (Kd.S_after (ok := (fun k_ => k_ ≠ gb627 ∧ k_ ≠ gb639)) (Kd.S_st (Kd.S_mono HO_7.out (fun _ hk => ⟨⟨hk.2.1, hk.2.2⟩, hk.1⟩))) hg hat); replace BK627 := aS_ (blk_grown (g := gb627) (o := .cells #[u628000, .int .i64 x628001_23, .int .i64 x628002_23, .int .i64 0, .int .i64 x628004_1] 67 (0, 0)) (blk_st BK627.out) hg (Kd.R_ne HO_628000.out BK627.out (by decide))); replace BK639 := aS_ (blk_grown (g := gb639) (o := .cells #[.int .i8 ((rd_T93 l2 x25_1).f0), .string ((rd_T93 l2 x25_1).f1)] 93 (0, 0)) (blk_st BK639.out) hg (Kd.R_away HO_628000.out (fun _ hk => hk))); replace HB := aS_ (hb); have HO642 := aS_ (ho); clear HO_628000; clear ho hb hg hat; obtain ⟨Ao43, co43, eo43⟩ := Kd.R_slice HO642.out; subst eo43; obtain ⟨hcz44_0, hcz44_1, hcz44_2, hcz44_3, hcz44_4, hfz44_0, hfz44_1, hfz44_2, hfz44_3, hfz44_4⟩ := blk5 BK627.out; obtain ⟨hcz45_0, hcz45_1, hfz45_0, hfz45_1⟩ := blk2 BK639.out))
           repeat (go_quiet (first | ((with_reducible refine gate_builtin (b := .append) (xs := #[.tmp 48, .tmp 50]) rfl ?_); (try (refine gate_guard (by rfl) ?_; dsimp only)); at_builtin; refine Kd.R_append k93 (w0 := w) w.heap.size rfl (.tmp 48) (.tmp 50) 65 93 (.agg #[(.int .i8 0), (.string ⟨#[]⟩)]) 24 rfl Tryz.underlying65 info93 rfl (by decide) (by omega) u628000 x628000_1 (⟨((rd_T93 l2 x25_1).f0), ((rd_T93 l2 x25_1).f1)⟩ : S93) [.int .i8 ((rd_T93 l2 x25_1).f0), .string ((rd_T93 l2 x25_1).f1)] (fun k_ => k_ ≠ gb639) (fun _ => False) rfl rfl ?aP (fun _ hk => hk.elim) ?aF ?aO ?aB ?aS ?aL ?_; (case aP => exact k93_mkM _ _ _ (⟨((rd_T93 l2 x25_1).f0), ((rd_T93 l2 x25_1).f1)⟩ : S93)); (case aB => exact (by with_reducible repeat first | exact HB.out | apply bA_ | apply bN_ | apply bD_ | refine bS_ ?_ GE627.out | refine bS_ ?_ GE639.out)); (case aF => exact (fun k_ hk => Kd.freshB (g := gb639) (o := .cells #[.int .i8 ((rd_T93 l2 x25_1).f0), .string ((rd_T93 l2 x25_1).f1)] 93 (0, 0)) (blk_st BK639.out) k_ hk)); (case aO => exact (Kd.R_st HO_628000.out)); (case aS => exact (bz_ (by with_reducible repeat first | exact HB.out | apply bA_ | apply bN_ | apply bD_ | refine bS_ ?_ GE627.out | refine bS_ ?_ GE639.out))); (case aL => have := LMc32.out; omega); intro v641 w42 ho hb hg hat; rw [← Ny640.out] at ho; replace HO_7 := aS_ (Kd.S_after (ok := (fun k_ => k_ ≠ gb627 ∧ k_ ≠ gb639)) (Kd.S_st (Kd.S_mono HO_7.out (fun _ hk => ⟨⟨hk.2.1, hk.2.2⟩, hk.1⟩))) hg hat); replace BK627 := aS_ (blk_grown (g := gb627) (o := .cells #[u628000, .int .i64 x628001_23, .int .i64 x628002_23, .int .i64 0, .int .i64 x628004_1] 67 (0, 0)) (blk_st BK627.out) hg (Kd.R_ne HO_628000.out BK627.out (by decide))); replace BK639 := aS_ (blk_grown (g := gb639) (o := .cells #[.int .i8 ((rd_T93 l2 x25_1).f0), .string ((rd_T93 l2 x25_1).f1)] 93 (0, 0)) (blk_st BK639.out) hg (Kd.R_away HO_628000.out (fun _ hk => hk))); replace HB := aS_ (hb); have HO642 := aS_ (ho); clear HO_628000; clear ho hb hg hat; obtain ⟨Ao43, co43, eo43⟩ := Kd.R_slice HO642.out; subst eo43; obtain ⟨hcz44_0, hcz44_1, hcz44_2, hcz44_3, hcz44_4, hfz44_0, hfz44_1, hfz44_2, hfz44_3, hfz44_4⟩ := blk5 BK627.out; obtain ⟨hcz45_0, hcz45_1, hfz45_0, hfz45_1⟩ := blk2 BK639.out)); try go_wp2_with (first | ((with_reducible refine gate_builtin (b := .append) (xs := #[.tmp 48, .tmp 50]) rfl ?_); (try (refine gate_guard (by rfl) ?_; dsimp only)); at_builtin; refine Kd.R_append k93 (w0 := w) w.heap.size rfl (.tmp 48) (.tmp 50) 65 93 (.agg #[(.int .i8 0), (.string ⟨#[]⟩)]) 24 rfl Tryz.underlying65 info93 rfl (by decide) (by omega) u628000 x628000_1 (⟨((rd_T93 l2 x25_1).f0), ((rd_T93 l2 x25_1).f1)⟩ : S93) [.int .i8 ((rd_T93 l2 x25_1).f0), .string ((rd_T93 l2 x25_1).f1)] (fun k_ => k_ ≠ gb639) (fun _ => False) rfl rfl ?aP (fun _ hk => hk.elim) ?aF ?aO ?aB ?aS ?aL ?_; (case aP => exact k93_mkM _ _ _ (⟨((rd_T93 l2 x25_1).f0), ((rd_T93 l2 x25_1).f1)⟩ : S93)); (case aB => exact (by with_reducible repeat first | exact HB.out | apply bA_ | apply bN_ | apply bD_ | refine bS_ ?_ GE627.out | refine bS_ ?_ GE639.out)); (case aF => exact (fun k_ hk => Kd.freshB (g := gb639) (o := .cells #[.int .i8 ((rd_T93 l2 x25_1).f0), .string ((rd_T93 l2 x25_1).f1)] 93 (0, 0)) (blk_st BK639.out) k_ hk)); (case aO => exact (Kd.R_st HO_628000.out)); (case aS => exact (bz_ (by with_reducible repeat first | exact HB.out | apply bA_ | apply bN_ | apply bD_ | refine bS_ ?_ GE627.out | refine bS_ ?_ GE639.out))); (case aL => have := LMc32.out; omega); intro v641 w42 ho hb hg hat; rw [← Ny640.out] at ho; have n0_ := aS_ (Kd.S_after (ok := (fun k_ => k_ ≠ gb627 ∧ k_ ≠ gb639)) (Kd.S_st (Kd.S_mono HO_7.out (fun _ hk => ⟨⟨hk.2.1, hk.2.2⟩, hk.1⟩))) hg hat); have n1_ := aS_ (blk_grown (g := gb627) (o := .cells #[u628000, .int .i64 x628001_23, .int .i64 x628002_23, .int .i64 0, .int .i64 x628004_1] 67 (0, 0)) (blk_st BK627.out) hg (Kd.R_ne HO_628000.out BK627.out (by decide))); have n2_ := aS_ (blk_grown (g := gb639) (o := .cells #[.int .i8 ((rd_T93 l2 x25_1).f0), .string ((rd_T93 l2 x25_1).f1)] 93 (0, 0)) (blk_st BK639.out) hg (Kd.R_away HO_628000.out (fun _ hk => hk))); have n3_ := aS_ (hb); have n4_ := aS_ (ho); clear HO_7; clear BK627; clear BK639; clear HB; clear HO_628000; have HO_7 := n0_; have BK627 := n1_; have BK639 := n2_; have HB := n3_; have HO642 := n4_; clear n0_ n1_ n2_ n3_ n4_; clear ho hb hg hat; obtain ⟨Ao43, co43, eo43⟩ := Kd.R_slice HO642.out; subst eo43; obtain ⟨hcz44_0, hcz44_1, hcz44_2, hcz44_3, hcz44_4, hfz44_0, hfz44_1, hfz44_2, hfz44_3, hfz44_4⟩ := blk5 BK627.out; obtain ⟨hcz45_0, hcz45_1, hfz45_0, hfz45_1⟩ := blk2 BK639.out)))
           go_meet
           case rel => exact ⟨_, (((x12_1.extract 0 (x10_1 : Int).toNat) ++ ((rd_T93 l2 x25_1).f1)) ++ (x12_1.extract (x10_1 : Int).toNat x12_1.size)), (y640), (wrap64 (x628004_1 + (((rd_T93 l2 x25_1).f1).size : Int))), (.slice Ao43 y640.length co43), (by first | rfl | simp [*]), (by first | rfl | simp [*]), (by first | rfl | simp [*]), (by first | rfl | simp [*]), H', ⟨by have := HK1.out; have := HJ11.out; have := HJ23.out; first | omega | exact Nat.le_refl _⟩, ⟨Kd.S_st (Kd.S_mono (Kd.S_far (p := ⟨gb627, 4, none⟩) (Kd.S_far (p := ⟨gb627, 0, none⟩) (Kd.S_mono HO_7.out (fun k_ hk => (⟨hk, hk.1.1⟩ : _ ∧ k_ ≠ gb627))) (fun _ hk => hk.2) (.slice Ao43 y640.length co43)) (fun _ hk => hk.2) (.int .i64 (wrap64 (x628004_1 + (((rd_T93 l2 x25_1).f1).size : Int))))) (fun _ hk => ⟨hk.1.2, ⟨hk.1.1.1, hk.1.1.2⟩⟩))⟩, ⟨Kd.R_st (Kd.R_mono (Kd.R_far (p := ⟨gb627, 4, none⟩) (Kd.R_far (p := ⟨gb627, 0, none⟩) (Kd.R_types HO642.out BK627.out (by decide)) (fun _ hk => hk.2) (.slice Ao43 y640.length co43)) (fun _ hk => hk.2) (.int .i64 (wrap64 (x628004_1 + (((rd_T93 l2 x25_1).f1).size : Int))))) (fun _ hk => hk.1))⟩, ⟨by (with_reducible repeat (first | refine kN_ ?_ _ | refine kD_ ?_ | refine kA_ ?_ _)); refine blk_put (cs := #[.slice Ao43 y640.length co43, .int .i64 x628001_23, .int .i64 x628002_23, .int .i64 0, .int .i64 x628004_1]) ?_ 4 _ rfl; (with_reducible repeat (first | refine kN_ ?_ _ | refine kD_ ?_ | refine kA_ ?_ _)); refine blk_put (cs := #[u628000, .int .i64 x628001_23, .int .i64 x628002_23, .int .i64 0, .int .i64 x628004_1]) ?_ 0 _ rfl; (with_reducible repeat (first | refine kN_ ?_ _ | refine kD_ ?_ | refine kA_ ?_ _)); exact BK627.out⟩, ⟨by (with_reducible repeat (first | refine kN_ ?_ _ | refine kD_ ?_ | refine kA_ ?_ _)); refine blk_far ?_ NB639_627.out _; (with_reducible repeat (first | refine kN_ ?_ _ | refine kD_ ?_ | refine kA_ ?_ _)); refine blk_far ?_ NB639_627.out _; (with_reducible repeat (first | refine kN_ ?_ _ | refine kD_ ?_ | refine kA_ ?_ _)); exact BK639.out⟩, ⟨by with_reducible repeat first | exact HB.out | apply bA_ | apply bN_ | apply bD_ | refine bS_ ?_ GE627.out | refine bS_ ?_ GE639.out⟩⟩
          ·rw [if_neg c31] at H
           have c31b0 := beq_eq_false_iff_ne.mpr c31
           have c31b1 := bne_iff_ne.mpr c31
           (first | rw [c31b0] | (simp only [i64_w]; rw [c31b0]) | skip)
           by_cases c46 : ((rd_T93 l2 x25_1).f0) = (-1)
           ·rw [if_pos c46] at H
            exact absurd H (by simp)
           ·rw [if_neg c46] at H
            have c46b0 := beq_eq_false_iff_ne.mpr c46
            have c46b1 := bne_iff_ne.mpr c46
            by_cases c47 : ((rd_T93 l2 x25_1).f0) = 0
            ·rw [if_pos c47] at H
             have c47b0 := beq_iff_eq.mpr c47
             have c47b1 := bne_eq_false_iff_eq.mpr c47
             clear c47
             have HC48 := Aside0.mk H
             clear H
             go_upto_region 25 with (fail)
             repeat (go_quiet (fail); go_upto_region 25 with (fail))
             go_cut [119] (fun v119 wc => ∃ (kq : Nat) (x119_47 : Bool), v119 = .bool x119_47 ∧ Aside0 (p_patchMake2.j3 kq a0 l2 y624 x9_1 x10_1 a1 x12_1 l2 (l2.length : Int) x25_1 x119_47 x628000_1 x628001_23 x628002_23 0 x628004_1 ((rd_T93 l2 x25_1).f0) ((rd_T93 l2 x25_1).f1) = some r) ∧ Aside0 (kq ≤ kj23) ∧ Aside0 (Kd.S k67 67 wc w.heap.size (fun k_ => some k_ ≠ (u628000 : Value).ownBlock ∧ k_ ≠ gb627 ∧ k_ ≠ gb639) v625 y624) ∧ Aside0 (Kd.R k93 93 wc w.heap.size (fun k_ => k_ ≠ gb639) u628000 x628000_1) ∧ Aside0 (wc.heap[gb627]? = some (.cells #[u628000, .int .i64 x628001_23, .int .i64 x628002_23, .int .i64 0, .int .i64 x628004_1] 67 (0, 0))) ∧ Aside0 (wc.heap[gb639]? = some (.cells #[.int .i8 ((rd_T93 l2 x25_1).f0), .string ((rd_T93 l2 x25_1).f1)] 93 (0, 0))) ∧ Aside0 (Below w.heap.size w wc))
             case first =>
              have H := HC48.out
              clear HC48
              by_cases c49 : (((rd_T93 l2 x25_1).f1).size : Int) ≤ (2 * 4)
              ·rw [if_pos c49] at H
               have c49b0 := decide_eq_true c49
               have c49s8 : decide ((((rd_T93 l2 x25_1).f1).size : Int) ≤ 8) = true := c49b0
               clear c49
               (first | rw [c49b0] | (simp only [i64_w]; rw [c49b0]) | skip)
               by_cases c50 : (x628000_1.length : Int) = 0
               ·rw [if_pos c50] at H
                have c50b0 := beq_iff_eq.mpr c50
                have c50b1 := bne_eq_false_iff_eq.mpr c50
                clear c50
                have H' := Aside0.mk H
                clear H
                have hnb51 := NB639_627.out
                have hnc51 := NB627_639.out
                obtain ⟨hcz52_0, hcz52_1, hfz52_0, hfz52_1⟩ := blk2 BK639.out
                have hdm53 := dmp_cell4 (dmp_below HD0.out HB.out)
                obtain ⟨hcz54_0, hcz54_1, hcz54_2, hcz54_3, hcz54_4, hfz54_0, hfz54_1, hfz54_2, hfz54_3, hfz54_4⟩ := blk5 BK627.out
                obtain ⟨Ao55, co55, eo55⟩ := Kd.R_slice HO_628000.out
                subst eo55
                go_wp2
                repeat (go_quiet (fail); try go_wp2)
                go_meet
                case rel => exact ⟨_, (false), (by first | rfl | simp [*]), H', ⟨by have := HK1.out; have := HJ11.out; have := HJ23.out; first | omega | exact Nat.le_refl _⟩, ⟨Kd.S_st HO_7.out⟩, ⟨Kd.R_st HO_628000.out⟩, ⟨blk_st BK627.out⟩, ⟨blk_st BK639.out⟩, ⟨by with_reducible repeat first | exact HB.out | apply bA_ | apply bN_ | apply bD_ | refine bS_ ?_ GE627.out | refine bS_ ?_ GE639.out⟩⟩
               ·rw [if_neg c50] at H
                have c50b0 := beq_eq_false_iff_ne.mpr c50
                have c50b1 := bne_iff_ne.mpr c50
                have c50b2 : ¬ (x628000_1 = []) := fun h_ => c50 (by rw [h_]; rfl)
                have H' := Aside0.mk H
                clear H
                have hnb56 := NB639_627.out
                have hnc56 := NB627_639.out
                obtain ⟨hcz57_0, hcz57_1, hfz57_0, hfz57_1⟩ := blk2 BK639.out
                have hdm58 := dmp_cell4 (dmp_below HD0.out HB.out)
                obtain ⟨hcz59_0, hcz59_1, hcz59_2, hcz59_3, hcz59_4, hfz59_0, hfz59_1, hfz59_2, hfz59_3, hfz59_4⟩ := blk5 BK627.out
                obtain ⟨Ao60, co60, eo60⟩ := Kd.R_slice HO_628000.out
                subst eo60
                go_wp2
                repeat (go_quiet (fail); try go_wp2)
                go_meet
                case rel => exact ⟨_, ((x25_1 != (wrap64 ((l2.length : Int) - 1)))), (by first | rfl | simp [*]), H', ⟨by have := HK1.out; have := HJ11.out; have := HJ23.out; first | omega | exact Nat.le_refl _⟩, ⟨Kd.S_st HO_7.out⟩, ⟨Kd.R_st HO_628000.out⟩, ⟨blk_st BK627.out⟩, ⟨blk_st BK639.out⟩, ⟨by with_reducible repeat first | exact HB.out | apply bA_ | apply bN_ | apply bD_ | refine bS_ ?_ GE627.out | refine bS_ ?_ GE639.out⟩⟩
              ·rw [if_neg c49] at H
               have c49b0 := decide_eq_false c49
               have c49s8 : decide ((((rd_T93 l2 x25_1).f1).size : Int) ≤ 8) = false := c49b0
               clear c49
               (first | rw [c49b0] | (simp only [i64_w]; rw [c49b0]) | skip)
               have H' := Aside0.mk H
               clear H
               have hnb61 := NB639_627.out
               have hnc61 := NB627_639.out
               obtain ⟨hcz62_0, hcz62_1, hfz62_0, hfz62_1⟩ := blk2 BK639.out
               have hdm63 := dmp_cell4 (dmp_below HD0.out HB.out)
               go_wp2
               repeat (go_quiet (fail); try go_wp2)
               go_meet
               case rel => exact ⟨_, (false), (by first | rfl | simp [*]), H', ⟨by have := HK1.out; have := HJ11.out; have := HJ23.out; first | omega | exact Nat.le_refl _⟩, ⟨Kd.S_st HO_7.out⟩, ⟨Kd.R_st HO_628000.out⟩, ⟨blk_st BK627.out⟩, ⟨blk_st BK639.out⟩, ⟨by with_reducible repeat first | exact HB.out | apply bA_ | apply bN_ | apply bD_ | refine bS_ ?_ GE627.out | refine bS_ ?_ GE639.out⟩⟩
             case rest =>
              clear HC48
              obtain ⟨kq, x119_47, rfl, HA, HJ47, HO_7, HO_628000, BK627, BK639, HB⟩ := hcut
              cases kq with
              | zero => exact absurd HA.out (by simp [p_patchMake2.j3])
              | succ kj47 =>
               have H := HA.out; clear HA
               simp only [p_patchMake2.j3] at H
               by_cases c64 : x119_47 = true
               ·subst c64
                rw [if_pos rfl] at H
                exact absurd H (by simp)
               ·replace c64 := Bool.eq_false_iff.mpr c64
                subst c64
                rw [if_neg (show ¬ (false = true) by decide)] at H
                by_cases c65 : (((rd_T93 l2 x25_1).f1).size : Int) ≥ (2 * 4)
                ·rw [if_pos c65] at H
                 exact absurd H (by simp)
                ·rw [if_neg c65] at H
                 have c65b0 : decide ((2 * 4) ≤ (((rd_T93 l2 x25_1).f1).size : Int)) = false := decide_eq_false c65
                 have c65s8 : decide (8 ≤ (((rd_T93 l2 x25_1).f1).size : Int)) = false := c65b0
                 clear c65
                 have H' := Aside0.mk H
                 clear H
                 have hnb66 := NB639_627.out
                 have hnc66 := NB627_639.out
                 obtain ⟨hcz67_0, hcz67_1, hfz67_0, hfz67_1⟩ := blk2 BK639.out
                 have hdm68 := dmp_cell4 (dmp_below HD0.out HB.out)
                 go_wp2
                 repeat (go_quiet (fail); try go_wp2)
                 go_meet
                 case rel => exact ⟨_, (x12_1), (x628000_1), (x628004_1), (u628000), (by first | rfl | simp [*]), (by first | rfl | simp [*]), (by first | rfl | simp [*]), (by first | rfl | simp [*]), H', ⟨by have := HK1.out; have := HJ11.out; have := HJ23.out; have := HJ47.out; first | omega | exact Nat.le_refl _⟩, ⟨Kd.S_st HO_7.out⟩, ⟨Kd.R_st HO_628000.out⟩, ⟨blk_st BK627.out⟩, ⟨blk_st BK639.out⟩, ⟨by with_reducible repeat first | exact HB.out | apply bA_ | apply bN_ | apply bD_ | refine bS_ ?_ GE627.out | refine bS_ ?_ GE639.out⟩⟩
            ·rw [if_neg c47] at H
             have c47b0 := beq_eq_false_iff_ne.mpr c47
             have c47b1 := bne_iff_ne.mpr c47
             have H' := Aside0.mk H
             clear H
             go_wp2
             repeat (go_quiet (fail); try go_wp2)
             go_meet
             case rel => exact ⟨_, (x12_1), (x628000_1), (x628004_1), (u628000), (by first | rfl | simp [*]), (by first | rfl | simp [*]), (by first | rfl | simp [*]), (by first | rfl | simp [*]), H', ⟨by have := HK1.out; have := HJ11.out; have := HJ23.out; first | omega | exact Nat.le_refl _⟩, ⟨Kd.S_st HO_7.out⟩, ⟨Kd.R_st HO_628000.out⟩, ⟨blk_st BK627.out⟩, ⟨blk_st BK639.out⟩, ⟨by with_reducible repeat first | exact HB.out | apply bA_ | apply bN_ | apply bD_ | refine bS_ ?_ GE627.out | refine bS_ ?_ GE639.out⟩⟩
         case rest =>
          clear HC28
          obtain ⟨kq, x12_27, x628000_27, x628004_27, u628000, rfl, rfl, rfl, rfl, HA, HJ27, HO_7, HO_628000, BK627, BK639, HB⟩ := hcut
          cases kq with
          | zero => exact absurd HA.out (by simp [p_patchMake2.j4])
          | succ kj27 =>
           have H := HA.out; clear HA
           simp only [p_patchMake2.j4] at H
           by_cases c69 : ((rd_T93 l2 x25_1).f0) = 1
           ·rw [if_pos c69] at H
            have c69b0 := beq_iff_eq.mpr c69
            have c69b1 := bne_eq_false_iff_eq.mpr c69
            clear c69
            by_cases c70 : ((rd_T93 l2 x25_1).f0) = (-1)
            ·rw [if_pos c70] at H
             have c70b0 := beq_iff_eq.mpr c70
             have c70b1 := bne_eq_false_iff_eq.mpr c70
             clear c70
             have H' := Aside0.mk H
             clear H
             have hnb71 := NB639_627.out
             have hnc71 := NB627_639.out
             obtain ⟨hcz72_0, hcz72_1, hfz72_0, hfz72_1⟩ := blk2 BK639.out
             go_wp2
             repeat (go_quiet (fail); try go_wp2)
             go_roundg kj27
             case measure => have := HK1.out; have := HJ11.out; have := HJ23.out; have := HJ27.out; omega
             case rel => exact ⟨(x9_1), (x10_1), (x12_27), (wrap64 (x25_1 + 1)), (x628000_27), (x628001_23), (x628002_23), (x628004_27), (u628000), (by first | rfl | simp [*]), (by first | rfl | simp [*]), (by first | rfl | simp [*]), (by first | rfl | simp [*]), (by first | rfl | simp [*]), (by first | rfl | simp [*]), H', ⟨by have := HK1.out; have := HJ11.out; have := HJ23.out; have := HJ27.out; omega⟩, ⟨Kd.S_st (Kd.S_mono HO_7.out (fun _ hk => ⟨hk.1, hk.2.1⟩))⟩, ⟨Kd.R_st (Kd.R_mono HO_628000.out (fun _ hk => trivial))⟩, ⟨blk_st BK627.out⟩, ⟨by with_reducible repeat first | exact HB.out | apply bA_ | apply bN_ | apply bD_ | refine bS_ ?_ GE627.out | refine bS_ ?_ GE639.out⟩⟩
            ·rw [if_neg c70] at H
             have c70b0 := beq_eq_false_iff_ne.mpr c70
             have c70b1 := bne_iff_ne.mpr c70
             have H' := Aside0.mk H
             clear H
             have hnb73 := NB639_627.out
             have hnc73 := NB627_639.out
             obtain ⟨hcz74_0, hcz74_1, hfz74_0, hfz74_1⟩ := blk2 BK639.out
             go_wp2
             repeat (go_quiet (fail); try go_wp2)
             go_roundg kj27
             case measure => have := HK1.out; have := HJ11.out; have := HJ23.out; have := HJ27.out; omega
             case rel => exact ⟨(x9_1), (wrap64 (x10_1 + (((rd_T93 l2 x25_1).f1).size : Int))), (x12_27), (wrap64 (x25_1 + 1)), (x628000_27), (x628001_23), (x628002_23), (x628004_27), (u628000), (by first | rfl | simp [*]), (by first | rfl | simp [*]), (by first | rfl | simp [*]), (by first | rfl | simp [*]), (by first | rfl | simp [*]), (by first | rfl | simp [*]), H', ⟨by have := HK1.out; have := HJ11.out; have := HJ23.out; have := HJ27.out; omega⟩, ⟨Kd.S_st (Kd.S_mono HO_7.out (fun _ hk => ⟨hk.1, hk.2.1⟩))⟩, ⟨Kd.R_st (Kd.R_mono HO_628000.out (fun _ hk => trivial))⟩, ⟨blk_st BK627.out⟩, ⟨by with_reducible repeat first | exact HB.out | apply bA_ | apply bN_ | apply bD_ | refine bS_ ?_ GE627.out | refine bS_ ?_ GE639.out⟩⟩
           ·rw [if_neg c69] at H
            have c69b0 := beq_eq_false_iff_ne.mpr c69
            have c69b1 := bne_iff_ne.mpr c69
            by_cases c75 : ((rd_T93 l2 x25_1).f0) = (-1)
            ·rw [if_pos c75] at H
             have c75b0 := beq_iff_eq.mpr c75
             have c75b1 := bne_eq_false_iff_eq.mpr c75
             clear c75
             have H' := Aside0.mk H
             clear H
             have hnb76 := NB639_627.out
             have hnc76 := NB627_639.out
             obtain ⟨hcz77_0, hcz77_1, hfz77_0, hfz77_1⟩ := blk2 BK639.out
             go_wp2
             repeat (go_quiet (fail); try go_wp2)
             go_roundg kj27
             case measure => have := HK1.out; have := HJ11.out; have := HJ23.out; have := HJ27.out; omega
             case rel => exact ⟨(wrap64 (x9_1 + (((rd_T93 l2 x25_1).f1).size : Int))), (x10_1), (x12_27), (wrap64 (x25_1 + 1)), (x628000_27), (x628001_23), (x628002_23), (x628004_27), (u628000), (by first | rfl | simp [*]), (by first | rfl | simp [*]), (by first | rfl | simp [*]), (by first | rfl | simp [*]), (by first | rfl | simp [*]), (by first | rfl | simp [*]), H', ⟨by have := HK1.out; have := HJ11.out; have := HJ23.out; have := HJ27.out; omega⟩, ⟨Kd.S_st (Kd.S_mono HO_7.out (fun _ hk => ⟨hk.1, hk.2.1⟩))⟩, ⟨Kd.R_st (Kd.R_mono HO_628000.out (fun _ hk => trivial))⟩, ⟨blk_st BK627.out⟩, ⟨by with_reducible repeat first | exact HB.out | apply bA_ | apply bN_ | apply bD_ | refine bS_ ?_ GE627.out | refine bS_ ?_ GE639.out⟩⟩
            ·rw [if_neg c75] at H
             have c75b0 := beq_eq_false_iff_ne.mpr c75
             have c75b1 := bne_iff_ne.mpr c75
             have H' := Aside0.mk H
             clear H
             have hnb78 := NB639_627.out
             have hnc78 := NB627_639.out
             obtain ⟨hcz79_0, hcz79_1, hfz79_0, hfz79_1⟩ := blk2 BK639.out
             go_wp2
             repeat (go_quiet (fail); try go_wp2)
             go_roundg kj27
             case measure => have := HK1.out; have := HJ11.out; have := HJ23.out; have := HJ27.out; omega
             case rel => exact ⟨(wrap64 (x9_1 + (((rd_T93 l2 x25_1).f1).size : Int))), (wrap64 (x10_1 + (((rd_T93 l2 x25_1).f1).size : Int))), (x12_27), (wrap64 (x25_1 + 1)), (x628000_27), (x628001_23), (x628002_23), (x628004_27), (u628000), (by first | rfl | simp [*]), (by first | rfl | simp [*]), (by first | rfl | simp [*]), (by first | rfl | simp [*]), (by first | rfl | simp [*]), (by first | rfl | simp [*]), H', ⟨by have := HK1.out; have := HJ11.out; have := HJ23.out; have := HJ27.out; omega⟩, ⟨Kd.S_st (Kd.S_mono HO_7.out (fun _ hk => ⟨hk.1, hk.2.1⟩))⟩, ⟨Kd.R_st (Kd.R_mono HO_628000.out (fun _ hk => trivial))⟩, ⟨blk_st BK627.out⟩, ⟨by with_reducible repeat first | exact HB.out | apply bA_ | apply bN_ | apply bD_ | refine bS_ ?_ GE627.out | refine bS_ ?_ GE639.out⟩⟩
    ·rw [if_neg c9] at H
     have c9b0 := decide_eq_false c9
     clear c9
     by_cases c80 : (x628000_1.length : Int) = 0
     ·rw [if_pos c80] at H
      have c80b0 := beq_iff_eq.mpr c80
      have c80b1 := bne_eq_false_iff_eq.mpr c80
      clear c80
      obtain rfl := Option.some.inj H
      obtain ⟨hcz81_0, hcz81_1, hcz81_2, hcz81_3, hcz81_4, hfz81_0, hfz81_1, hfz81_2, hfz81_3, hfz81_4⟩ := blk5 BK627.out
      obtain ⟨Ao82, co82, eo82⟩ := Kd.R_slice HO_628000.out
      subst eo82
      go_wp2
      repeat (go_quiet (fail); try go_wp2)
      go_ret
      exact ⟨_, by first | rfl | (simp [*, errW_none, errW_some] <;> rfl), Kd.S_st (Kd.S_mono HO_7.out (fun _ hk => trivial)), by with_reducible repeat first | exact HB.out | apply bA_ | apply bN_ | apply bD_ | refine bS_ ?_ GE627.out⟩
     ·rw [if_neg c80] at H
      have c80b0 := beq_eq_false_iff_ne.mpr c80
      have c80b1 := bne_iff_ne.mpr c80
      have c80b2 : ¬ (x628000_1 = []) := fun h_ => c80 (by rw [h_]; rfl)
      replace H := Option.bind_eq_some_iff.mp H
      obtain ⟨⟨t628, t631, t632, t633, t634⟩, A830, H⟩ := H
      try dsimp only at H
      have A83 := Aside0.mk A830
      clear A830
      replace H := yes_ H; obtain ⟨c84, H⟩ := H
      have LMc84 := Aside0.mk c84
      clear c84
      obtain ⟨y635, hy635⟩ : ∃ y_ : List (S67), y_ = (y624 ++ [(⟨t628, t631, t632, t633, t634⟩ : S67)]) := ⟨_, rfl⟩
      replace H : (some y635) = some r := by first | (rw [hy635]; with_reducible exact H) | (have H2_ := (Option.bind_some _ _).symm.trans H; rw [hy635]; with_reducible exact H2_) | (have H2_ := (Option.bind_some _ _).symm.trans H; with_reducible exact H2_) | with_reducible exact H | (rw [hy635]; exact H) | exact H
      have Ny635 := Aside0.mk hy635
      clear hy635
      obtain rfl := Option.some.inj H
      obtain ⟨hcz85_0, hcz85_1, hcz85_2, hcz85_3, hcz85_4, hfz85_0, hfz85_1, hfz85_2, hfz85_3, hfz85_4⟩ := blk5 BK627.out
      obtain ⟨Ao86, co86, eo86⟩ := Kd.R_slice HO_628000.out
      subst eo86
      go_wp2_with (first | (go_at_call 95; (with_reducible refine (p_PatchAddContext.calls k1 a0 _ _ x628000_1 x628001_1 x628002_1 0 x628004_1 a1 t628 t631 t632 t633 t634 _ ?side1 ?side2 ?side3 A83.out).mono ?_); (case side1 => exact dmp_below HD0.out (by with_reducible repeat first | exact HB.out | apply bA_ | apply bN_ | apply bD_ | refine bS_ ?_ GE627.out)); (case side2 => repeat (first | exact (Kd.R_reads' HO_628000.out).2.2 | (with_reducible refine Kd.C_alloc ?_ _) | (with_reducible refine Kd.C_drewN ?_ _) | (with_reducible refine Kd.C_drew ?_))); (case side3 => exact (Kd.R_reads' HO_628000.out).2.1); rintro e w87 ⟨v629, rfl, ho0, hb⟩; replace HO_7 := aS_ (Kd.S_elder' (Kd.S_st HO_7.out) (Kd.R_base ho0) hb); have HO630 := aS_ (Kd.R_lower (Kd.R_new' ho0 (Kd.R_lt (Kd.R_st HO_628000.out))) (bz_ (by with_reducible repeat first | exact HB.out | apply bA_ | apply bN_ | apply bD_ | refine bS_ ?_ GE627.out))); replace HO_628000 := aS_ (Kd.R_elder' (Kd.R_st HO_628000.out) (Kd.R_base ho0) hb); replace BK627 := aS_ (blk_below (g := gb627) (o := .cells #[.slice Ao86 x628000_1.length co86, .int .i64 x628001_1, .int .i64 x628002_1, .int .i64 0, .int .i64 x628004_1] 67 (0, 0)) (blk_st BK627.out) hb); replace HB := aS_ (bt_ (by with_reducible repeat first | exact HB.out | apply bA_ | apply bN_ | apply bD_ | refine bS_ ?_ GE627.out) hb); obtain ⟨Ao88, co88, eo88⟩ := Kd.R_slice HO630.out; subst eo88; obtain ⟨hcz89_0, hcz89_1, hcz89_2, hcz89_3, hcz89_4, hfz89_0, hfz89_1, hfz89_2, hfz89_3, hfz89_4⟩ := blk5 BK627.out) | ((with_reducible refine gate_store (t := 67) (p := 8) rfl ?_); (try (rw [drewN_self w87]; generalize hq_ : World.drewN w87 _ = w87; have n0_ := aS_ (Kd.S_at hq_ HO_7.out); have n1_ := aS_ (Kd.R_at hq_ HO_628000.out); have n2_ := aS_ (Kd.R_at hq_ HO630.out); have n3_ := aS_ (blk_at hq_ BK627.out); have n4_ := aS_ (below_at hq_ HB.out); clear hq_ HO_7 HO_628000 HO630 BK627 HB; have HO_7 := n0_; have HO_628000 := n1_; have HO630 := n2_; have BK627 := n3_; have HB := n4_; clear n0_ n1_ n2_ n3_ n4_)); refine store_event (t := 67) (p := 8) (v := ?vo_w90) (w1 := (((((w87.setCell ⟨gb627, 0, none⟩ (.slice Ao88 t628.length co88)).setCell ⟨gb627, 1, none⟩ (.int .i64 t631)).setCell ⟨gb627, 2, none⟩ (.int .i64 t632)).setCell ⟨gb627, 3, none⟩ (.int .i64 t633)).setCell ⟨gb627, 4, none⟩ (.int .i64 t634))) ?hg ?ho ?hn ?hr ?_; (case ho => rfl); (case hg => rfl); (case hn => rfl); (case hr => first | (go_simp; done) | (go_simp; rfl)); intro w90 hw; have n0_ : Aside0 (Kd.S k67 67 w90 w.heap.size (fun k_ => some k_ ≠ (.slice Ao86 x628000_1.length co86 : Value).ownBlock ∧ some k_ ≠ (.slice Ao88 t628.length co88 : Value).ownBlock ∧ k_ ≠ gb627) v625 y624) := ⟨(by rw [hw]; exact (Kd.S_st (Kd.S_mono (Kd.S_far (p := ⟨gb627, 4, none⟩) (Kd.S_far (p := ⟨gb627, 3, none⟩) (Kd.S_far (p := ⟨gb627, 2, none⟩) (Kd.S_far (p := ⟨gb627, 1, none⟩) (Kd.S_far (p := ⟨gb627, 0, none⟩) (Kd.S_mono HO_7.out (fun k_ hk => (⟨hk, hk.1.2⟩ : _ ∧ k_ ≠ gb627))) (fun _ hk => hk.2) (.slice Ao88 t628.length co88)) (fun _ hk => hk.2) (.int .i64 t631)) (fun _ hk => hk.2) (.int .i64 t632)) (fun _ hk => hk.2) (.int .i64 t633)) (fun _ hk => hk.2) (.int .i64 t634)) (fun _ hk => ⟨hk.1.1.1, ⟨hk.1.2, hk.1.1.2⟩⟩))))⟩; have n1_ : Aside0 (Kd.R k93 93 w90 w.heap.size (fun k_ => some k_ ≠ (.slice Ao88 t628.length co88 : Value).ownBlock) (.slice Ao86 x628000_1.length co86) x628000_1) := ⟨(by rw [hw]; exact (Kd.R_st (Kd.R_mono (Kd.R_far (p := ⟨gb627, 4, none⟩) (Kd.R_far (p := ⟨gb627, 3, none⟩) (Kd.R_far (p := ⟨gb627, 2, none⟩) (Kd.R_far (p := ⟨gb627, 1, none⟩) (Kd.R_far (p := ⟨gb627, 0, none⟩) (Kd.R_types HO_628000.out BK627.out (by decide)) (fun _ hk => hk.2) (.slice Ao88 t628.length co88)) (fun _ hk => hk.2) (.int .i64 t631)) (fun _ hk => hk.2) (.int .i64 t632)) (fun _ hk => hk.2) (.int .i64 t633)) (fun _ hk => hk.2) (.int .i64 t634)) (fun _ hk => hk.1.2))))⟩; have n2_ : Aside0 (Kd.R k93 93 w90 w.heap.size (fun k_ => some k_ ≠ (.slice Ao86 x628000_1.length co86 : Value).ownBlock) (.slice Ao88 t628.length co88) t628) := ⟨(by rw [hw]; exact (Kd.R_st (Kd.R_mono (Kd.R_far (p := ⟨gb627, 4, none⟩) (Kd.R_far (p := ⟨gb627, 3, none⟩) (Kd.R_far (p := ⟨gb627, 2, none⟩) (Kd.R_far (p := ⟨gb627, 1, none⟩) (Kd.R_far (p := ⟨gb627, 0, none⟩) (Kd.R_types HO630.out BK627.out (by decide)) (fun _ hk => hk.2) (.slice Ao88 t628.length co88)) (fun _ hk => hk.2) (.int .i64 t631)) (fun _ hk => hk.2) (.int .i64 t632)) (fun _ hk => hk.2) (.int .i64 t633)) (fun _ hk => hk.2) (.int .i64 t634)) (fun _ hk => hk.1.2))))⟩; have n3_ : Aside0 (w90.heap[gb627]? = some (.cells #[.slice Ao88 t628.length co88, .int .i64 t631, .int .i64 t632, .int .i64 t633, .int .i64 t634] 67 (0, 0))) := ⟨(by rw [hw]; exact (by (with_reducible repeat (first | refine kN_ ?_ _ | refine kD_ ?_ | refine kA_ ?_ _)); refine blk_put (cs := #[.slice Ao88 t628.length co88, .int .i64 t631, .int .i64 t632, .int .i64 t633, .int .i64 x628004_1]) ?_ 4 _ rfl; (with_reducible repeat (first | refine kN_ ?_ _ | refine kD_ ?_ | refine kA_ ?_ _)); refine blk_put (cs := #[.slice Ao88 t628.length co88, .int .i64 t631, .int .i64 t632, .int .i64 0, .int .i64 x628004_1]) ?_ 3 _ rfl; (with_reducible repeat (first | refine kN_ ?_ _ | refine kD_ ?_ | refine kA_ ?_ _)); refine blk_put (cs := #[.slice Ao88 t628.length co88, .int .i64 t631, .int .i64 x628002_1, .int .i64 0, .int .i64 x628004_1]) ?_ 2 _ rfl; (with_reducible repeat (first | refine kN_ ?_ _ | refine kD_ ?_ | refine kA_ ?_ _)); refine blk_put (cs := #[.slice Ao88 t628.length co88, .int .i64 x628001_1, .int .i64 x628002_1, .int .i64 0, .int .i64 x628004_1]) ?_ 1 _ rfl; (with_reducible repeat (first | refine kN_ ?_ _ | refine kD_ ?_ | refine kA_ ?_ _)); refine blk_put (cs := #[.slice Ao86 x628000_1.length co86, .int .i64 x628001_1, .int .i64 x628002_1, .int .i64 0, .int .i64 x628004_1]) ?_ 0 _ rfl; (with_reducible repeat (first | refine kN_ ?_ _ | refine kD_ ?_ | refine kA_ ?_ _)); exact BK627.out))⟩; have n4_ : Aside0 (Below w.heap.size w w90) := ⟨(by rw [hw]; exact (by with_reducible repeat first | exact HB.out | apply bA_ | apply bN_ | apply bD_ | refine bS_ ?_ GE627.out))⟩; clear hw; clear HO_7; clear HO_628000; clear HO630; clear BK627; clear HB; have HO_7 := n0_; have HO_628000 := n1_; have HO630 := n2_; have BK627 := n3_; have HB := n4_; clear n0_ n1_ n2_ n3_ n4_; obtain ⟨hcz91_0, hcz91_1, hcz91_2, hcz91_3, hcz91_4, hfz91_0, hfz91_1, hfz91_2, hfz91_3, hfz91_4⟩ := blk5 BK627.out) | ((with_reducible refine gate_builtin (b := .append) (xs := #[.tmp 189, .tmp 191]) rfl ?_); (try (refine gate_guard (by rfl) ?_; dsimp only)); at_builtin; refine Kd.S_append k67 (w0 := w) w.heap.size rfl (.tmp 189) (.tmp 191) 52 67 (.agg #[(.slice none 0 0), (.int .i64 0), (.int .i64 0), (.int .i64 0), (.int .i64 0)]) 56 rfl Tryz.underlying52 info67 rfl (by decide) (by omega) v625 y624 (⟨t628, t631, t632, t633, t634⟩ : S67) [.slice Ao88 t628.length co88, .int .i64 t631, .int .i64 t632, .int .i64 t633, .int .i64 t634] (fun k_ => some k_ ≠ (.slice Ao86 x628000_1.length co86 : Value).ownBlock ∧ k_ ≠ gb627) (fun k_ => some k_ = (.slice Ao88 t628.length co88 : Value).ownBlock) rfl rfl ?aP (fun k_ hk_ => ((Kd.R_mono (ok' := fun k_ => ((fun k_ => some k_ ≠ (.slice Ao86 x628000_1.length co86 : Value).ownBlock ∧ k_ ≠ gb627)) k_ ∧ some k_ ≠ (v625 : Value).ownBlock) (Kd.R_types (Kd.R_apart' (HO630.out) (Kd.S_typed HO_7.out) (by decide)) BK627.out (by decide)) (fun k_ hk => ⟨⟨hk.1.1, hk.2⟩, hk.1.2⟩))).1 k_ hk_.symm) ?aF ?aO ?aB ?aS ?aL ?_; (case aP => exact k67_mkM _ _ _ (⟨t628, t631, t632, t633, t634⟩ : S67) (Kd.R_mono (Kd.R_tight rfl (Kd.R_mono (ok' := fun k_ => ((fun k_ => some k_ ≠ (.slice Ao86 x628000_1.length co86 : Value).ownBlock ∧ k_ ≠ gb627)) k_ ∧ some k_ ≠ (v625 : Value).ownBlock) (Kd.R_types (Kd.R_apart' (HO630.out) (Kd.S_typed HO_7.out) (by decide)) BK627.out (by decide)) (fun k_ hk => ⟨⟨hk.1.1, hk.2⟩, hk.1.2⟩))) (fun _ h_ => h_))); (case aB => exact (by with_reducible repeat first | exact HB.out | apply bA_ | apply bN_ | apply bD_ | refine bS_ ?_ GE627.out)); (case aF => exact (fun k_ hk => ⟨Kd.fresh' (Kd.R_lt (Kd.R_st HO_628000.out)) k_ hk, Kd.freshB (g := gb627) (o := .cells #[.slice Ao88 t628.length co88, .int .i64 t631, .int .i64 t632, .int .i64 t633, .int .i64 t634] 67 (0, 0)) (blk_st BK627.out) k_ hk⟩)); (case aO => exact (Kd.S_st (Kd.S_mono HO_7.out (fun k_ hk => ⟨⟨hk.1, hk.2.2⟩, fun e_ => hk.2.1 e_⟩)))); (case aS => exact (bz_ (by with_reducible repeat first | exact HB.out | apply bA_ | apply bN_ | apply bD_ | refine bS_ ?_ GE627.out))); (case aL => have := LMc84.out; omega); intro v636 w92 ho hb hg hat; rw [← Ny635.out] at ho; replace HO_628000 := aS_ (Kd.R_over' (Kd.R_st HO_628000.out) (Kd.S_typed (Kd.S_st HO_7.out)) (by decide) hg); replace BK627 := aS_ (blk_grown (g := gb627) (o := .cells #[.slice Ao88 t628.length co88, .int .i64 t631, .int .i64 t632, .int .i64 t633, .int .i64 t634] 67 (0, 0)) (blk_st BK627.out) hg (Kd.S_away HO_7.out (fun _ hk => hk.2.2))); replace HB := aS_ (hb); have HO637 := aS_ (ho); clear HO_7 HO630; clear ho hb hg hat))
      repeat (go_quiet (first | (go_at_call 95; (with_reducible refine (p_PatchAddContext.calls k1 a0 _ _ x628000_1 x628001_1 x628002_1 0 x628004_1 a1 t628 t631 t632 t633 t634 _ ?side1 ?side2 ?side3 A83.out).mono ?_); (case side1 => exact dmp_below HD0.out (by with_reducible repeat first | exact HB.out | apply bA_ | apply bN_ | apply bD_ | refine bS_ ?_ GE627.out)); (case side2 => repeat (first | exact (Kd.R_reads' HO_628000.out).2.2 | (with_reducible refine Kd.C_alloc ?_ _) | (with_reducible refine Kd.C_drewN ?_ _) | (with_reducible refine Kd.C_drew ?_))); (case side3 => exact (Kd.R_reads' HO_628000.out).2.1); rintro e w87 ⟨v629, rfl, ho0, hb⟩; replace HO_7 := aS_ (Kd.S_elder' (Kd.S_st HO_7.out) (Kd.R_base ho0) hb); have HO630 := aS_ (Kd.R_lower (Kd.R_new' ho0 (Kd.R_lt (Kd.R_st HO_628000.out))) (bz_ (by with_reducible repeat first | exact HB.out | apply bA_ | apply bN_ | apply bD_ | refine bS_ ?_ GE627.out))); replace HO_628000 := aS_ (Kd.R_elder' (Kd.R_st HO_628000.out) (Kd.R_base ho0) hb); replace BK627 := aS_ (blk_below (g := gb627) (o := .cells #[.slice Ao86 x628000_1.length co86, .int .i64 x628001_1, .int .i64 x628002_1, .int .i64 0, .int .i64 x628004_1] 67 (0, 0)) (blk_st BK627.out) hb); replace HB := aS_ (bt_ (by with_reducible repeat first | exact HB.out | apply bA_ | apply bN_ | apply bD_ | refine bS_ ?_ GE627.out) hb); obtain ⟨Ao88, co88, eo88⟩ := Kd.R_slice HO630.out; subst eo88; obtain ⟨hcz89_0, hcz89_1, hcz89_2, hcz89_3, hcz89_4, hfz89_0, hfz89_1, hfz89_2, hfz89_3, hfz89_4⟩ := blk5 BK627.out) | ((with_reducible refine gate_store (t := 67) (p := 8) rfl ?_); (try (rw [drewN_self w87]; generalize hq_ : World.drewN w87 _ = w87; have n0_ := aS_ (Kd.S_at hq_ HO_7.out); have n1_ := aS_ (Kd.R_at hq_ HO_628000.out); have n2_ := aS_ (Kd.R_at hq_ HO630.out); have n3_ := aS_ (blk_at hq_ BK627.out); have n4_ := aS_ (below_at hq_ HB.out); clear hq_ HO_7 HO_628000 HO630 BK627 HB; have HO_7 := n0_; have HO_628000 := n1_; have HO630 := n2_; have BK627 := n3_; have HB := n4_; clear n0_ n1_ n2_ n3_ n4_)); refine store_event (t := 67) (p := 8) (v := ?vo_w90) (w1 := (((((w87.setCell ⟨gb627, 0, none⟩ (.slice Ao88 t628.length co88)).setCell ⟨gb627, 1, none⟩ (.int .i64 t631)).setCell ⟨gb627, 2, none⟩ (.int .i64 t632)).setCell ⟨gb627, 3, none⟩ (.int .i64 t633)).setCell ⟨gb627, 4, none⟩ (.int .i64 t634))) ?hg ?ho ?hn ?hr ?_; (case ho => rfl); (case hg => rfl); (case hn => rfl); (case hr => first | (go_simp; done) | (go_simp; rfl)); intro w90 hw; have n0_ : Aside0 (Kd.S k67 67 w90 w.heap.size (fun k_ => some k_ ≠ (.slice Ao86 x628000_1.length co86 : Value).ownBlock ∧ some k_ ≠ (.slice Ao88 t628.length co88 : Value).ownBlock ∧ k_ ≠ gb627) v625 y624) := ⟨(by rw [hw]; exact (Kd.S_st (Kd.S_mono (Kd.S_far (p := ⟨gb627, 4, none⟩) (Kd.S_far (p := ⟨gb627, 3, none⟩) (Kd.S_far (p := ⟨gb627, 2, none⟩) (Kd.S_far (p := ⟨gb627, 1, none⟩) (Kd.S_far (p := ⟨gb627, 0, none⟩) (Kd.S_mono HO_7.out (fun k_ hk => (⟨hk, hk.1.2⟩ : _ ∧ k_ ≠ gb627))) (fun _ hk => hk.2) (.slice Ao88 t628.length co88)) (fun _ hk => hk.2) (.int .i64 t631)) (fun _ hk => hk.2) (.int .i64 t632)) (fun _ hk => hk.2) (.int .i64 t633)) (fun _ hk => hk.2) (.int .i64 t634)) (fun _ hk => ⟨hk.1.1.1, ⟨hk.1.2, hk.1.1.2⟩⟩))))⟩; have n1_ : Aside0 (Kd.R k93 93 w90 w.heap.size (fun k_ => some k_ ≠ (.slice Ao88 t628.length co88 : Value).ownBlock) (.slice Ao86 x628000_1.length co86) x628000_1) := ⟨(by rw [hw]; exact (Kd.R_st (Kd.R_mono (Kd.R_far (p := ⟨gb627, 4, none⟩) (Kd.R_far (p := ⟨gb627, 3, none⟩) (Kd.R_far (p := ⟨gb627, 2, none⟩) (Kd.R_far (p := ⟨gb627, 1, none⟩) (Kd.R_far (p := ⟨gb627, 0, none⟩) (Kd.R_types HO_628000.out BK627.out (by decide)) (fun _ hk => hk.2) (.slice Ao88 t628.length co88)) (fun _ hk => hk.2) (.int .i64 t631)) (fun _ hk => hk.2) (.int .i64 t632)) (fun _ hk => hk.2) (.int .i64 t633)) (fun _ hk => hk.2) (.int .i64 t634)) (fun _ hk => hk.1.2))))⟩; have n2_ : Aside0 (Kd.R k93 93 w90 w.heap.size (fun k_ => some k_ ≠ (.slice Ao86 x628000_1.length co86 : Value).ownBlock) (.slice Ao88 t628.length co88) t628) := ⟨(by rw [hw]; exact (Kd.R_st (Kd.R_mono (Kd.R_far (p := ⟨gb627, 4, none⟩) (Kd.R_far (p := ⟨gb627, 3, none⟩) (Kd.R_far (p := ⟨gb627, 2, none⟩) (Kd.R_far (p := ⟨gb627, 1, none⟩) (Kd.R_far (p := ⟨gb627, 0, none⟩) (Kd.R_types HO630.out BK627.out (by decide)) (fun _ hk => hk.2) (.slice Ao88 t628.length co88)) (fun _ hk => hk.2) (.int .i64 t631)) (fun _ hk => hk.2) (.int .i64 t632)) (fun _ hk => hk.2) (.int .i64 t633)) (fun _ hk => hk.2) (.int .i64 t634)) (fun _ hk => hk.1.2))))⟩; have n3_ : Aside0 (w90.heap[gb627]? = some (.cells #[.slice Ao88 t628.length co88, .int .i64 t631, .int .i64 t632, .int .i64 t633, .int .i64 t634] 67 (0, 0))) := ⟨(by rw [hw]; exact (by (with_reducible repeat (first | refine kN_ ?_ _ | refine kD_ ?_ | refine kA_ ?_ _)); refine blk_put (cs := #[.slice Ao88 t628.length co88, .int .i64 t631, .int .i64 t632, .int .i64 t633, .int .i64 x628004_1]) ?_ 4 _ rfl; (with_reducible repeat (first | refine kN_ ?_ _ | refine kD_ ?_ | refine kA_ ?_ _)); refine blk_put (cs := #[.slice Ao88 t628.length co88, .int .i64 t631, .int .i64 t632, .int .i64 0, .int .i64 x628004_1]) ?_ 3 _ rfl; (with_reducible repeat (first | refine kN_ ?_ _ | refine kD_ ?_ | refine kA_ ?_ _)); refine blk_put (cs := #[.slice Ao88 t628.length co88, .int .i64 t631, .int .i64 x628002_1, .int .i64 0, .int .i64 x628004_1]) ?_ 2 _ rfl; (with_reducible repeat (first | refine kN_ ?_ _ | refine kD_ ?_ | refine kA_ ?_ _)); refine blk_put (cs := #[.slice Ao88 t628.length co88, .int .i64 x628001_1, .int .i64 x628002_1, .int .i64 0, .int .i64 x628004_1]) ?_ 1 _ rfl; (with_reducible repeat (first | refine kN_ ?_ _ | refine kD_ ?_ | refine kA_ ?_ _)); refine blk_put (cs := #[.slice Ao86 x628000_1.length co86, .int .i64 x628001_1, .int .i64 x628002_1, .int .i64 0, .int .i64 x628004_1]) ?_ 0 _ rfl; (with_reducible repeat (first | refine kN_ ?_ _ | refine kD_ ?_ | refine kA_ ?_ _)); exact BK627.out))⟩; have n4_ : Aside0 (Below w.heap.size w w90) := ⟨(by rw [hw]; exact (by with_reducible repeat first | exact HB.out | apply bA_ | apply bN_ | apply bD_ | refine bS_ ?_ GE627.out))⟩; clear hw; clear HO_7; clear HO_628000; clear HO630; clear BK627; clear HB; have HO_7 := n0_; have HO_628000 := n1_; have HO630 := n2_; have BK627 := n3_; have HB := n4_; clear n0_ n1_ n2_ n3_ n4_; obtain ⟨hcz91_0, hcz91_1, hcz91_2, hcz91_3, hcz91_4, hfz91_0, hfz91_1, hfz91_2, hfz91_3, hfz91_4⟩ := blk5 BK627.out) | ((with_reducible refine gate_builtin (b := .append) (xs := #[.tmp 189, .tmp 191]) rfl ?_); (try (refine gate_guard (by rfl) ?_; dsimp only)); at_builtin; refine Kd.S_append k67 (w0 := w) w.heap.size rfl (.tmp 189) (.tmp 191) 52 67 (.agg #[(.slice none 0 0), (.int .i64 0), (.int .i64 0), (.int .i64 0), (.int .i64 0)]) 56 rfl Tryz.underlying52 info67 rfl (by decide) (by omega) v625 y624 (⟨t628, t631, t632, t633, t634⟩ : S67) [.slice Ao88 t628.length co88, .int .i64 t631, .int .i64 t632, .int .i64 t633, .int .i64 t634] (fun k_ => some k_ ≠ (.slice Ao86 x628000_1.length co86 : Value).ownBlock ∧ k_ ≠ gb627) (fun k_ => some k_ = (.slice Ao88 t628.length co88 : Value).ownBlock) rfl rfl ?aP (fun k_ hk_ => ((Kd.R_mono (ok' := fun k_ => ((fun k_ => some k_ ≠ (.slice Ao86 x628000_1.length co86 : Value).ownBlock ∧ k_ ≠ gb627)) k_ ∧ some k_ ≠ (v625 : Value).ownBlock) (Kd.R_types (Kd.R_apart' (HO630.out) (Kd.S_typed HO_7.out) (by decide)) BK627.out (by decide)) (fun k_ hk => ⟨⟨hk.1.1, hk.2⟩, hk.1.2⟩))).1 k_ hk_.symm) ?aF ?aO ?aB ?aS ?aL ?_; (case aP => exact k67_mkM _ _ _ (⟨t628, t631, t632, t633, t634⟩ : S67) (Kd.R_mono (Kd.R_tight rfl (Kd.R_mono (ok' := fun k_ => ((fun k_ => some k_ ≠ (.slice Ao86 x628000_1.length co86 : Value).ownBlock ∧ k_ ≠ gb627)) k_ ∧ some k_ ≠ (v625 : Value).ownBlock) (Kd.R_types (Kd.R_apart' (HO630.out) (Kd.S_typed HO_7.out) (by decide)) BK627.out (by decide)) (fun k_ hk => ⟨⟨hk.1.1, hk.2⟩, hk.1.2⟩))) (fun _ h_ => h_))); (case aB => exact (by with_reducible repeat first | exact HB.out | apply bA_ | apply bN_ | apply bD_ | refine bS_ ?_ GE627.out)); (case aF => exact (fun k_ hk => ⟨Kd.fresh' (Kd.R_lt (Kd.R_st HO_628000.out)) k_ hk, Kd.freshB (g := gb627) (o := .cells #[.slice Ao88 t628.length co88, .int .i64 t631, .int .i64 t632, .int .i64 t633, .int .i64 t634] 67 (0, 0)) (blk_st BK627.out) k_ hk⟩)); (case aO => exact (Kd.S_st (Kd.S_mono HO_7.out (fun k_ hk => ⟨⟨hk.1, hk.2.2⟩, fun e_ => hk.2.1 e_⟩)))); (case aS => exact (bz_ (by with_reducible repeat first | exact HB.out | apply bA_ | apply bN_ | apply bD_ | refine bS_ ?_ GE627.out))); (case aL => have := LMc84.out; omega); intro v636 w92 ho hb hg hat; rw [← Ny635.out] at ho; replace HO_628000 := aS_ (Kd.R_over' (Kd.R_st HO_628000.out) (Kd.S_typed (Kd.S_st HO_7.out)) (by decide) hg); replace BK627 := aS_ (blk_grown (g := gb627) (o := .cells #[.slice Ao88 t628.length co88, .int .i64 t631, .int .i64 t632, .int .i64 t633, .int .i64 t634] 67 (0, 0)) (blk_st BK627.out) hg (Kd.S_away HO_7.out (fun _ hk => hk.2.2))); replace HB := aS_ (hb); have HO637 := aS_ (ho); clear HO_7 HO630; clear ho hb hg hat)); try go_wp2_with (first | (go_at_call 95; (with_reducible refine (p_PatchAddContext.calls k1 a0 _ _ x628000_1 x628001_1 x628002_1 0 x628004_1 a1 t628 t631 t632 t633 t634 _ ?side1 ?side2 ?side3 A83.out).mono ?_); (case side1 => exact dmp_below HD0.out (by with_reducible repeat first | exact HB.out | apply bA_ | apply bN_ | apply bD_ | refine bS_ ?_ GE627.out)); (case side2 => repeat (first | exact (Kd.R_reads' HO_628000.out).2.2 | (with_reducible refine Kd.C_alloc ?_ _) | (with_reducible refine Kd.C_drewN ?_ _) | (with_reducible refine Kd.C_drew ?_))); (case side3 => exact (Kd.R_reads' HO_628000.out).2.1); rintro e w87 ⟨v629, rfl, ho0, hb⟩; have n0_ := aS_ (Kd.S_elder' (Kd.S_st HO_7.out) (Kd.R_base ho0) hb); have n1_ := aS_ (Kd.R_elder' (Kd.R_st HO_628000.out) (Kd.R_base ho0) hb); have n2_ := aS_ (Kd.R_lower (Kd.R_new' ho0 (Kd.R_lt (Kd.R_st HO_628000.out))) (bz_ (by with_reducible repeat first | exact HB.out | apply bA_ | apply bN_ | apply bD_ | refine bS_ ?_ GE627.out))); have n3_ := aS_ (blk_below (g := gb627) (o := .cells #[.slice Ao86 x628000_1.length co86, .int .i64 x628001_1, .int .i64 x628002_1, .int .i64 0, .int .i64 x628004_1] 67 (0, 0)) (blk_st BK627.out) hb); have n4_ := aS_ (bt_ (by with_reducible repeat first | exact HB.out | apply bA_ | apply bN_ | apply bD_ | refine bS_ ?_ GE627.out) hb); clear HO_7; clear HO_628000; clear BK627; clear HB; have HO_7 := n0_; have HO_628000 := n1_; have HO630 := n2_; have BK627 := n3_; have HB := n4_; clear n0_ n1_ n2_ n3_ n4_; obtain ⟨Ao88, co88, eo88⟩ := Kd.R_slice HO630.out; subst eo88; obtain ⟨hcz89_0, hcz89_1, hcz89_2, hcz89_3, hcz89_4, hfz89_0, hfz89_1, hfz89_2, hfz89_3, hfz89_4⟩ := blk5 BK627.out) | ((with_reducible refine gate_store (t := 67) (p := 8) rfl ?_); (try (rw [drewN_self w87]; generalize hq_ : World.drewN w87 _ = w87; have n0_ := aS_ (Kd.S_at hq_ HO_7.out); have n1_ := aS_ (Kd.R_at hq_ HO_628000.out); have n2_ := aS_ (Kd.R_at hq_ HO630.out); have n3_ := aS_ (blk_at hq_ BK627.out); have n4_ := aS_ (below_at hq_ HB.out); clear hq_ HO_7 HO_628000 HO630 BK627 HB; have HO_7 := n0_; have HO_628000 := n1_; have HO630 := n2_; have BK627 := n3_; have HB := n4_; clear n0_ n1_ n2_ n3_ n4_)); refine store_event (t := 67) (p := 8) (v := ?vo_w90) (w1 := (((((w87.setCell ⟨gb627, 0, none⟩ (.slice Ao88 t628.length co88)).setCell ⟨gb627, 1, none⟩ (.int .i64 t631)).setCell ⟨gb627, 2, none⟩ (.int .i64 t632)).setCell ⟨gb627, 3, none⟩ (.int .i64 t633)).setCell ⟨gb627, 4, none⟩ (.int .i64 t634))) ?hg ?ho ?hn ?hr ?_; (case ho => rfl); (case hg => rfl); (case hn => rfl); (case hr => first | (go_simp; done) | (go_simp; rfl)); intro w90 hw; have n0_ : Aside0 (Kd.S k67 67 w90 w.heap.size (fun k_ => some k_ ≠ (.slice Ao86 x628000_1.length co86 : Value).ownBlock ∧ some k_ ≠ (.slice Ao88 t628.length co88 : Value).ownBlock ∧ k_ ≠ gb627) v625 y624) := ⟨(by rw [hw]; exact (Kd.S_st (Kd.S_mono (Kd.S_far (p := ⟨gb627, 4, none⟩) (Kd.S_far (p := ⟨gb627, 3, none⟩) (Kd.S_far (p := ⟨gb627, 2, none⟩) (Kd.S_far (p := ⟨gb627, 1, none⟩) (Kd.S_far (p := ⟨gb627, 0, none⟩) (Kd.S_mono HO_7.out (fun k_ hk => (⟨hk, hk.1.2⟩ : _ ∧ k_ ≠ gb627))) (fun _ hk => hk.2) (.slice Ao88 t628.length co88)) (fun _ hk => hk.2) (.int .i64 t631)) (fun _ hk => hk.2) (.int .i64 t632)) (fun _ hk => hk.2) (.int .i64 t633)) (fun _ hk => hk.2) (.int .i64 t634)) (fun _ hk => ⟨hk.1.1.1, ⟨hk.1.2, hk.1.1.2⟩⟩))))⟩; have n1_ : Aside0 (Kd.R k93 93 w90 w.heap.size (fun k_ => some k_ ≠ (.slice Ao88 t628.length co88 : Value).ownBlock) (.slice Ao86 x628000_1.length co86) x628000_1) := ⟨(by rw [hw]; exact (Kd.R_st (Kd.R_mono (Kd.R_far (p := ⟨gb627, 4, none⟩) (Kd.R_far (p := ⟨gb627, 3, none⟩) (Kd.R_far (p := ⟨gb627, 2, none⟩) (Kd.R_far (p := ⟨gb627, 1, none⟩) (Kd.R_far (p := ⟨gb627, 0, none⟩) (Kd.R_types HO_628000.out BK627.out (by decide)) (fun _ hk => hk.2) (.slice Ao88 t628.length co88)) (fun _ hk => hk.2) (.int .i64 t631)) (fun _ hk => hk.2) (.int .i64 t632)) (fun _ hk => hk.2) (.int .i64 t633)) (fun _ hk => hk.2) (.int .i64 t634)) (fun _ hk => hk.1.2))))⟩; have n2_ : Aside0 (Kd.R k93 93 w90 w.heap.size (fun k_ => some k_ ≠ (.slice Ao86 x628000_1.length co86 : Value).ownBlock) (.slice Ao88 t628.length co88) t628) := ⟨(by rw [hw]; exact (Kd.R_st (Kd.R_mono (Kd.R_far (p := ⟨gb627, 4, none⟩) (Kd.R_far (p := ⟨gb627, 3, none⟩) (Kd.R_far (p := ⟨gb627, 2, none⟩) (Kd.R_far (p := ⟨gb627, 1, none⟩) (Kd.R_far (p := ⟨gb627, 0, none⟩) (Kd.R_types HO630.out BK627.out (by decide)) (fun _ hk => hk.2) (.slice Ao88 t628.length co88)) (fun _ hk => hk.2) (.int .i64 t631)) (fun _ hk => hk.2) (.int .i64 t632)) (fun _ hk => hk.2) (.int .i64 t633)) (fun _ hk => hk.2) (.int .i64 t634)) (fun _ hk => hk.1.2))))⟩; have n3_ : Aside0 (w90.heap[gb627]? = some (.cells #[.slice Ao88 t628.length co88, .int .i64 t631, .int .i64 t632, .int .i64 t633, .int .i64 t634] 67 (0, 0))) := ⟨(by rw [hw]; exact (by (with_reducible repeat (first | refine kN_ ?_ _ | refine kD_ ?_ | refine kA_ ?_ _)); refine blk_put (cs := #[.slice Ao88 t628.length co88, .int .i64 t631, .int .i64 t632, .int .i64 t633, .int .i64 x628004_1]) ?_ 4 _ rfl; (with_reducible repeat (first | refine kN_ ?_ _ | refine kD_ ?_ | refine kA_ ?_ _)); refine blk_put (cs := #[.slice Ao88 t628.length co88, .int .i64 t631, .int .i64 t632, .int .i64 0, .int .i64 x628004_1]) ?_ 3 _ rfl; (with_reducible repeat (first | refine kN_ ?_ _ | refine kD_ ?_ | refine kA_ ?_ _)); refine blk_put (cs := #[.slice Ao88 t628.length co88, .int .i64 t631, .int .i64 x628002_1, .int .i64 0, .int .i64 x628004_1]) ?_ 2 _ rfl; (with_reducible repeat (first | refine kN_ ?_ _ | refine kD_ ?_ | refine kA_ ?_ _)); refine blk_put (cs := #[.slice Ao88 t628.length co88, .int .i64 x628001_1, .int .i64 x628002_1, .int .i64 0, .int .i64 x628004_1]) ?_ 1 _ rfl; (with_reducible repeat (first | refine kN_ ?_ _ | refine kD_ ?_ | refine kA_ ?_ _)); refine blk_put (cs := #[.slice Ao86 x628000_1.length co86, .int .i64 x628001_1, .int .i64 x628002_1, .int .i64 0, .int .i64 x628004_1]) ?_ 0 _ rfl; (with_reducible repeat (first | refine kN_ ?_ _ | refine kD_ ?_ | refine kA_ ?_ _)); exact BK627.out))⟩; have n4_ : Aside0 (Below w.heap.size w w90) := ⟨(by rw [hw]; exact (by with_reducible repeat first | exact HB.out | apply bA_ | apply bN_ | apply bD_ | refine bS_ ?_ GE627.out))⟩; clear hw; clear HO_7; clear HO_628000; clear HO630; clear BK627; clear HB; have HO_7 := n0_; have HO_628000 := n1_; have HO630 := n2_; have BK627 := n3_; have HB := n4_; clear n0_ n1_ n2_ n3_ n4_; obtain ⟨hcz91_0, hcz91_1, hcz91_2, hcz91_3, hcz91_4, hfz91_0, hfz91_1, hfz91_2, hfz91_3, hfz91_4⟩ := blk5 BK627.out) | ((with_reducible refine gate_builtin (b := .append) (xs := #[.tmp 189, .tmp 191]) rfl ?_); (try (refine gate_guard (by rfl) ?_; dsimp only)); at_builtin; refine Kd.S_append k67 (w0 := w) w.heap.size rfl (.tmp 189) (.tmp 191) 52 67 (.agg #[(.slice none 0 0), (.int .i64 0), (.int .i64 0), (.int .i64 0), (.int .i64 0)]) 56 rfl Tryz.underlying52 info67 rfl (by decide) (by omega) v625 y624 (⟨t628, t631, t632, t633, t634⟩ : S67) [.slice Ao88 t628.length co88, .int .i64 t631, .int .i64 t632, .int .i64 t633, .int .i64 t634] (fun k_ => some k_ ≠ (.slice Ao86 x628000_1.length co86 : Value).ownBlock ∧ k_ ≠ gb627) (fun k_ => some k_ = (.slice Ao88 t628.length co88 : Value).ownBlock) rfl rfl ?aP (fun k_ hk_ => ((Kd.R_mono (ok' := fun k_ => ((fun k_ => some k_ ≠ (.slice Ao86 x628000_1.length co86 : Value).ownBlock ∧ k_ ≠ gb627)) k_ ∧ some k_ ≠ (v625 : Value).ownBlock) (Kd.R_types (Kd.R_apart' (HO630.out) (Kd.S_typed HO_7.out) (by decide)) BK627.out (by decide)) (fun k_ hk => ⟨⟨hk.1.1, hk.2⟩, hk.1.2⟩))).1 k_ hk_.symm) ?aF ?aO ?aB ?aS ?aL ?_; (case aP => exact k67_mkM _ _ _ (⟨t628, t631, t632, t633, t634⟩ : S67) (Kd.R_mono (Kd.R_tight rfl (Kd.R_mono (ok' := fun k_ => ((fun k_ => some k_ ≠ (.slice Ao86 x628000_1.length co86 : Value).ownBlock ∧ k_ ≠ gb627)) k_ ∧ some k_ ≠ (v625 : Value).ownBlock) (Kd.R_types (Kd.R_apart' (HO630.out) (Kd.S_typed HO_7.out) (by decide)) BK627.out (by decide)) (fun k_ hk => ⟨⟨hk.1.1, hk.2⟩, hk.1.2⟩))) (fun _ h_ => h_))); (case aB => exact (by with_reducible repeat first | exact HB.out | apply bA_ | apply bN_ | apply bD_ | refine bS_ ?_ GE627.out)); (case aF => exact (fun k_ hk => ⟨Kd.fresh' (Kd.R_lt (Kd.R_st HO_628000.out)) k_ hk, Kd.freshB (g := gb627) (o := .cells #[.slice Ao88 t628.length co88, .int .i64 t631, .int .i64 t632, .int .i64 t633, .int .i64 t634] 67 (0, 0)) (blk_st BK627.out) k_ hk⟩)); (case aO => exact (Kd.S_st (Kd.S_mono HO_7.out (fun k_ hk => ⟨⟨hk.1, hk.2.2⟩, fun e_ => hk.2.1 e_⟩)))); (case aS => exact (bz_ (by with_reducible repeat first | exact HB.out | apply bA_ | apply bN_ | apply bD_ | refine bS_ ?_ GE627.out))); (case aL => have := LMc84.out; omega); intro v636 w92 ho hb hg hat; rw [← Ny635.out] at ho; have n0_ := aS_ (Kd.R_over' (Kd.R_st HO_628000.out) (Kd.S_typed (Kd.S_st HO_7.out)) (by decide) hg); have n1_ := aS_ (blk_grown (g := gb627) (o := .cells #[.slice Ao88 t628.length co88, .int .i64 t631, .int .i64 t632, .int .i64 t633, .int .i64 t634] 67 (0, 0)) (blk_st BK627.out) hg (Kd.S_away HO_7.out (fun _ hk => hk.2.2))); have n2_ := aS_ (hb); have n3_ := aS_ (ho); clear HO_628000; clear BK627; clear HB; clear HO_7; clear HO630; have HO_628000 := n0_; have BK627 := n1_; have HB := n2_; have HO637 := n3_; clear n0_ n1_ n2_ n3_; clear ho hb hg hat)))
      go_ret
      exact ⟨_, by first | rfl | (simp [*, errW_none, errW_some] <;> rfl), Kd.S_st (Kd.S_mono HO637.out (fun _ hk => trivial)), by with_reducible repeat first | exact HB.out | apply bA_ | apply bN_ | apply bD_ | refine bS_ ?_ GE627.out⟩
mutual
def p_PatchDeepCopy.l0 : Nat → List (S67) → List (S67) → Int → Int → Option ((List (S67)))
 | 0, _, _, _, _ => none
 | k + 1, x5, x12, x13, x14 => if x14 < x13 then (if 0 ≤ x14 then (if x14 < (x12.length : Int) then (p_PatchDeepCopy.l1 k x5 x12 x13 x14 ((rd_T67 x12 x14).f0) (((rd_T67 x12 x14).f0).length : Int) 0 ((rd_T67 x12 x14).f0) ((rd_T67 x12 x14).f1) ((rd_T67 x12 x14).f2) ((rd_T67 x12 x14).f3) ((rd_T67 x12 x14).f4) ([] : List (S93)) 0 0 0 0) else (none)) else (none)) else (some x5)
def p_PatchDeepCopy.l1 : Nat → List (S67) → List (S67) → Int → Int → List (S93) → Int → Int → List (S93) → Int → Int → Int → Int → List (S93) → Int → Int → Int → Int → Option ((List (S67)))
 | 0, _, _, _, _, _, _, _, _, _, _, _, _, _, _, _, _, _ => none
 | k + 1, x5, x12, x13, x14, x20, x21, x22, x155000, x155001, x155002, x155003, x155004, x156000, x156001, x156002, x156003, x156004 => if x22 < x21 then (if 0 ≤ x22 then (if x22 < (x20.length : Int) then (if x156000.length < 5864062014805 then (p_PatchDeepCopy.l1 k x5 x12 x13 x14 x20 x21 (wrap64 (x22 + 1)) x155000 x155001 x155002 x155003 x155004 (x156000 ++ [(⟨(rd_T93 x20 x22).f0, (rd_T93 x20 x22).f1⟩ : S93)]) x156001 x156002 x156003 x156004) else (none)) else (none)) else (none)) else (if x5.length < 2513169434916 then (p_PatchDeepCopy.l0 k (x5 ++ [(⟨x156000, x155001, x155002, x155003, x155004⟩ : S67)]) x12 x13 (wrap64 (x14 + 1))) else (none))
end
def p_PatchDeepCopy.f (k : Nat) (a0 : Nat) (l1 : List (S67)) : Option ((List (S67))) := p_PatchDeepCopy.l0 k (([] : List (S67))) l1 (l1.length : Int) 0
theorem p_PatchDeepCopy.calls (k : Nat) (a0 : Nat) (A1 : Option Addr) (c1 : Nat) (l1 : List (S67)) (r : List (S67)) (w : World) (hd0 : DmpAt w a0) (hr1 : Kd.C k67 w A1 l1.length l1) (hc1 : l1.length ≤ c1) (h : p_PatchDeepCopy.f k a0 l1 = some r) :
  Calls Tryz.prog 29 #[.pointer (some ⟨a0, 0, none⟩), .slice A1 l1.length c1] w fun e w' => ∃ v0_ : Value, e = .returned (v0_) ∧ Kd.S k67 67 w' w.heap.size (fun _ => True) v0_ r ∧ Below w.heap.size w w' := by
 have hu67 := Tryz.underlying67
 have hu93 := Tryz.underlying93
 have HD0 := Aside0.mk hd0
 clear hd0
 have HR1 := Aside0.mk hr1
 have HC1 := Aside0.mk hc1
 clear hr1 hc1
 have HB := aS_ (Below.refl w.heap.size w)
 have H : (p_PatchDeepCopy.l0 k (([] : List (S67))) l1 (l1.length : Int) 0) = some r := h
 clear h
 obtain ⟨y150, hy150⟩ : ∃ y_ : List (S67), y_ = (([] : List (S67))) := ⟨_, rfl⟩
 replace H : (p_PatchDeepCopy.l0 k y150 l1 (l1.length : Int) 0) = some r := by first | (rw [hy150]; with_reducible exact H) | (have H2_ := (Option.bind_some _ _).symm.trans H; rw [hy150]; with_reducible exact H2_) | (have H2_ := (Option.bind_some _ _).symm.trans H; with_reducible exact H2_) | with_reducible exact H | (rw [hy150]; exact H) | exact H
 have Ny150 := Aside0.mk hy150
 clear hy150
 have H' := Aside0.mk H
 clear H
 go_enter Tryz.func29, Tryz.ntmps29
 go_wp2_with (first | ((with_reducible refine gate_dst (N := 11) rfl ?_); refine Kd.S_lit k67 _ 67 ?hg (N := 11) ?hd (xs := ([] : List (S67))) (inner := []) (ok := fun _ => True) (okp := fun _ => True) ?hr ?hp (fun _ hk => hk) trivial (Below.refl _ _) (Nat.le_refl _) (by simp) ?_; (case hd => rfl); (case hg => rfl); (case hr => first | (go_simp; done) | (go_simp; rfl)); (case hp => exact (Reps.none _ _)); intro v151 w3 ho4 hb hg_ hnew_; clear hg_ hnew_; (first | rw [← Ny150.out] at ho4 | (simp only [Int.reduceToNat] at ho4; rw [← Ny150.out] at ho4)); have HO152 := aS_ (Kd.S_lower ho4 (bz_ (bel_ HB.out))); replace HB := aS_ (bt_ (bel_ HB.out) hb); clear hb ho4))
 go_loopg [5, 14] k (fun kq v5 v14 w' => ∃ (x5_1 : List (S67)) (x14_1 : Int), v14 = .int .i64 x14_1 ∧ Aside0 (p_PatchDeepCopy.l0 kq x5_1 l1 (l1.length : Int) x14_1 = some r) ∧ Aside0 (kq ≤ k) ∧ Aside0 (Kd.S k67 67 w' w.heap.size (fun _ => True) v5 x5_1) ∧ Aside0 (Below w.heap.size w w'))
 case atStart => exact ⟨(y150), (0), (by first | rfl | simp [*]), H', ⟨Nat.le_refl _⟩, ⟨Kd.S_st HO152.out⟩, ⟨bel_ HB.out⟩⟩
 case round =>
  clear H'
  obtain ⟨x5_1, x14_1, rfl, HA, HK1, HO_5, HB⟩ := hrel
  cases gk with
  | zero => exact absurd HA.out (by simp [p_PatchDeepCopy.l0])
  | succ k1 =>
   have H := HA.out; clear HA
   simp only [p_PatchDeepCopy.l0] at H
   by_cases c5 : x14_1 < (l1.length : Int)
   ·rw [if_pos c5] at H
    have c5b0 := decide_eq_true c5
    clear c5
    replace H := yes_ H; obtain ⟨c6, H⟩ := H
    have c6b0 := decide_eq_true c6
    clear c6
    replace H := yes_ H; obtain ⟨c7, H⟩ := H
    have c7b0 := decide_eq_true c7
    clear c7
    have H' := Aside0.mk H
    clear H
    have p153 : 0 ≤ (x14_1 : Int) := of_decide_eq_true (by assumption)
    have q153 : x14_1 < (l1.length : Int) := of_decide_eq_true (by assumption)
    obtain ⟨ad153, A153_0, c153_0, e153, hx153_0, hx153_1, hx153_2, hx153_3, hx153_4, hl153_0, hi153_0⟩ := at_T67 HR1.out x14_1 p153 q153
    cases e153
    replace hx153_0 := (HB.out.cell (World.block_lt_of_cell? w _ hx153_0)).trans hx153_0
    replace hx153_1 := (HB.out.cell (World.block_lt_of_cell? w _ hx153_1)).trans hx153_1
    replace hx153_2 := (HB.out.cell (World.block_lt_of_cell? w _ hx153_2)).trans hx153_2
    replace hx153_3 := (HB.out.cell (World.block_lt_of_cell? w _ hx153_3)).trans hx153_3
    replace hx153_4 := (HB.out.cell (World.block_lt_of_cell? w _ hx153_4)).trans hx153_4
    have HR153_0 := Aside0.mk hi153_0
    have HC153_0 := Aside0.mk hl153_0
    clear hi153_0 hl153_0
    replace p153 := eq_true p153
    replace q153 := eq_true q153
    go_wp2_with (first | ((with_reducible refine gate_dst (N := 7) rfl ?_); refine box_event ?hg (N := 7) ?hd (cs := #[.slice none 0 0, .int .i64 0, .int .i64 0, .int .i64 0, .int .i64 0]) (t := 67) ?hr ?_; (case hd => rfl); (case hg => rfl); (case hr => first | (go_simp; done) | (go_simp; rfl)); intro gb154 hg w8 hbox hb; replace HO_5 := aS_ (Kd.S_below (Kd.S_elderB (Kd.S_st HO_5.out) gb154 (Nat.le_of_eq hg.symm)) hb); have BK154 := aS_ (hbox); have GW154 := aS_ ((by rw [hg]; exact (bz_ (bel_ HB.out)) : w.heap.size ≤ gb154)); have GE154 := aS_ ((by rw [hg]; exact (bz_ (bel_ HB.out)) : w.heap.size ≤ gb154)); replace HB := aS_ (bt_ (bel_ HB.out) hb); clear hb hbox hg; obtain ⟨hcz9_0, hcz9_1, hcz9_2, hcz9_3, hcz9_4, hfz9_0, hfz9_1, hfz9_2, hfz9_3, hfz9_4⟩ := blk5 BK154.out) | ((with_reducible refine gate_dst (N := 8) rfl ?_); refine box_event ?hg (N := 8) ?hd (cs := #[.slice none 0 0, .int .i64 0, .int .i64 0, .int .i64 0, .int .i64 0]) (t := 67) ?hr ?_; (case hd => rfl); (case hg => rfl); (case hr => first | (go_simp; done) | (go_simp; rfl)); intro gb155 hg w10 hbox hb; replace HO_5 := aS_ (Kd.S_below (Kd.S_elderB (Kd.S_st ((Kd.S_mono (Kd.S_far (p := ⟨gb154, 4, none⟩) (Kd.S_far (p := ⟨gb154, 3, none⟩) (Kd.S_far (p := ⟨gb154, 2, none⟩) (Kd.S_far (p := ⟨gb154, 1, none⟩) (Kd.S_far (p := ⟨gb154, 0, none⟩) (Kd.S_mono HO_5.out (fun k_ hk => (⟨hk, hk.2⟩ : _ ∧ k_ ≠ gb154))) (fun _ hk => hk.2) (.slice A153_0 ((rd_T67 l1 x14_1).f0).length c153_0)) (fun _ hk => hk.2) (.int .i64 ((rd_T67 l1 x14_1).f1))) (fun _ hk => hk.2) (.int .i64 ((rd_T67 l1 x14_1).f2))) (fun _ hk => hk.2) (.int .i64 ((rd_T67 l1 x14_1).f3))) (fun _ hk => hk.2) (.int .i64 ((rd_T67 l1 x14_1).f4))) (fun _ h_ => h_.1)))) gb155 (Nat.le_of_eq hg.symm)) hb); have BK155 := aS_ (hbox); have GW155 := aS_ ((by rw [hg]; exact (bz_ (by with_reducible repeat first | exact HB.out | apply bA_ | apply bN_ | apply bD_ | refine bS_ ?_ GE154.out)) : w.heap.size ≤ gb155)); have GE155 := aS_ ((by rw [hg]; exact (bz_ (by with_reducible repeat first | exact HB.out | apply bA_ | apply bN_ | apply bD_ | refine bS_ ?_ GE154.out)) : w.heap.size ≤ gb155)); replace HB := aS_ (bt_ (by with_reducible repeat first | exact HB.out | apply bA_ | apply bN_ | apply bD_ | refine bS_ ?_ GE154.out) hb); have NB154_155 := aS_ ((by rw [hg]; exact Nat.ne_of_lt (blk_lt (g := gb154) (o := .cells #[.slice A153_0 ((rd_T67 l1 x14_1).f0).length c153_0, .int .i64 ((rd_T67 l1 x14_1).f1), .int .i64 ((rd_T67 l1 x14_1).f2), .int .i64 ((rd_T67 l1 x14_1).f3), .int .i64 ((rd_T67 l1 x14_1).f4)] 67 (0, 0)) (by (with_reducible repeat (first | refine kN_ ?_ _ | refine kD_ ?_ | refine kA_ ?_ _)); refine blk_put (cs := #[.slice A153_0 ((rd_T67 l1 x14_1).f0).length c153_0, .int .i64 ((rd_T67 l1 x14_1).f1), .int .i64 ((rd_T67 l1 x14_1).f2), .int .i64 ((rd_T67 l1 x14_1).f3), .int .i64 0]) ?_ 4 _ rfl; (with_reducible repeat (first | refine kN_ ?_ _ | refine kD_ ?_ | refine kA_ ?_ _)); refine blk_put (cs := #[.slice A153_0 ((rd_T67 l1 x14_1).f0).length c153_0, .int .i64 ((rd_T67 l1 x14_1).f1), .int .i64 ((rd_T67 l1 x14_1).f2), .int .i64 0, .int .i64 0]) ?_ 3 _ rfl; (with_reducible repeat (first | refine kN_ ?_ _ | refine kD_ ?_ | refine kA_ ?_ _)); refine blk_put (cs := #[.slice A153_0 ((rd_T67 l1 x14_1).f0).length c153_0, .int .i64 ((rd_T67 l1 x14_1).f1), .int .i64 0, .int .i64 0, .int .i64 0]) ?_ 2 _ rfl; (with_reducible repeat (first | refine kN_ ?_ _ | refine kD_ ?_ | refine kA_ ?_ _)); refine blk_put (cs := #[.slice A153_0 ((rd_T67 l1 x14_1).f0).length c153_0, .int .i64 0, .int .i64 0, .int .i64 0, .int .i64 0]) ?_ 1 _ rfl; (with_reducible repeat (first | refine kN_ ?_ _ | refine kD_ ?_ | refine kA_ ?_ _)); refine blk_put (cs := #[.slice none 0 0, .int .i64 0, .int .i64 0, .int .i64 0, .int .i64 0]) ?_ 0 _ rfl; (with_reducible repeat (first | refine kN_ ?_ _ | refine kD_ ?_ | refine kA_ ?_ _)); exact BK154.out)) : gb154 ≠ gb155)); have NB155_154 := aS_ ((by rw [hg]; exact Nat.ne_of_gt (blk_lt (g := gb154) (o := .cells #[.slice A153_0 ((rd_T67 l1 x14_1).f0).length c153_0, .int .i64 ((rd_T67 l1 x14_1).f1), .int .i64 ((rd_T67 l1 x14_1).f2), .int .i64 ((rd_T67 l1 x14_1).f3), .int .i64 ((rd_T67 l1 x14_1).f4)] 67 (0, 0)) (by (with_reducible repeat (first | refine kN_ ?_ _ | refine kD_ ?_ | refine kA_ ?_ _)); refine blk_put (cs := #[.slice A153_0 ((rd_T67 l1 x14_1).f0).length c153_0, .int .i64 ((rd_T67 l1 x14_1).f1), .int .i64 ((rd_T67 l1 x14_1).f2), .int .i64 ((rd_T67 l1 x14_1).f3), .int .i64 0]) ?_ 4 _ rfl; (with_reducible repeat (first | refine kN_ ?_ _ | refine kD_ ?_ | refine kA_ ?_ _)); refine blk_put (cs := #[.slice A153_0 ((rd_T67 l1 x14_1).f0).length c153_0, .int .i64 ((rd_T67 l1 x14_1).f1), .int .i64 ((rd_T67 l1 x14_1).f2), .int .i64 0, .int .i64 0]) ?_ 3 _ rfl; (with_reducible repeat (first | refine kN_ ?_ _ | refine kD_ ?_ | refine kA_ ?_ _)); refine blk_put (cs := #[.slice A153_0 ((rd_T67 l1 x14_1).f0).length c153_0, .int .i64 ((rd_T67 l1 x14_1).f1), .int .i64 0, .int .i64 0, .int .i64 0]) ?_ 2 _ rfl; (with_reducible repeat (first | refine kN_ ?_ _ | refine kD_ ?_ | refine kA_ ?_ _)); refine blk_put (cs := #[.slice A153_0 ((rd_T67 l1 x14_1).f0).length c153_0, .int .i64 0, .int .i64 0, .int .i64 0, .int .i64 0]) ?_ 1 _ rfl; (with_reducible repeat (first | refine kN_ ?_ _ | refine kD_ ?_ | refine kA_ ?_ _)); refine blk_put (cs := #[.slice none 0 0, .int .i64 0, .int .i64 0, .int .i64 0, .int .i64 0]) ?_ 0 _ rfl; (with_reducible repeat (first | refine kN_ ?_ _ | refine kD_ ?_ | refine kA_ ?_ _)); exact BK154.out)) : gb155 ≠ gb154)); replace BK154 := aS_ (blk_below (g := gb154) (o := .cells #[.slice A153_0 ((rd_T67 l1 x14_1).f0).length c153_0, .int .i64 ((rd_T67 l1 x14_1).f1), .int .i64 ((rd_T67 l1 x14_1).f2), .int .i64 ((rd_T67 l1 x14_1).f3), .int .i64 ((rd_T67 l1 x14_1).f4)] 67 (0, 0)) (by (with_reducible repeat (first | refine kN_ ?_ _ | refine kD_ ?_ | refine kA_ ?_ _)); refine blk_put (cs := #[.slice A153_0 ((rd_T67 l1 x14_1).f0).length c153_0, .int .i64 ((rd_T67 l1 x14_1).f1), .int .i64 ((rd_T67 l1 x14_1).f2), .int .i64 ((rd_T67 l1 x14_1).f3), .int .i64 0]) ?_ 4 _ rfl; (with_reducible repeat (first | refine kN_ ?_ _ | refine kD_ ?_ | refine kA_ ?_ _)); refine blk_put (cs := #[.slice A153_0 ((rd_T67 l1 x14_1).f0).length c153_0, .int .i64 ((rd_T67 l1 x14_1).f1), .int .i64 ((rd_T67 l1 x14_1).f2), .int .i64 0, .int .i64 0]) ?_ 3 _ rfl; (with_reducible repeat (first | refine kN_ ?_ _ | refine kD_ ?_ | refine kA_ ?_ _)); refine blk_put (cs := #[.slice A153_0 ((rd_T67 l1 x14_1).f0).length c153_0, .int .i64 ((rd_T67 l1 x14_1).f1), .int .i64 0, .int .i64 0, .int .i64 0]) ?_ 2 _ rfl; (with_reducible repeat (first | refine kN_ ?_ _ | refine kD_ ?_ | refine kA_ ?_ _)); refine blk_put (cs := #[.slice A153_0 ((rd_T67 l1 x14_1).f0).length c153_0, .int .i64 0, .int .i64 0, .int .i64 0, .int .i64 0]) ?_ 1 _ rfl; (with_reducible repeat (first | refine kN_ ?_ _ | refine kD_ ?_ | refine kA_ ?_ _)); refine blk_put (cs := #[.slice none 0 0, .int .i64 0, .int .i64 0, .int .i64 0, .int .i64 0]) ?_ 0 _ rfl; (with_reducible repeat (first | refine kN_ ?_ _ | refine kD_ ?_ | refine kA_ ?_ _)); exact BK154.out) hb); clear hb hbox hg; have hnb11 := NB155_154.out; have hnc11 := NB154_155.out; obtain ⟨hcz12_0, hcz12_1, hcz12_2, hcz12_3, hcz12_4, hfz12_0, hfz12_1, hfz12_2, hfz12_3, hfz12_4⟩ := blk5 BK155.out; obtain ⟨hcz13_0, hcz13_1, hcz13_2, hcz13_3, hcz13_4, hfz13_0, hfz13_1, hfz13_2, hfz13_3, hfz13_4⟩ := blk5 BK154.out))
    go_loopg [22] k1 (fun kq v22 w' => ∃ (x22_2 : Int) (x156000_2 : List (S93)) (u156000 : Value), v22 = .int .i64 x22_2 ∧ Aside0 (p_PatchDeepCopy.l1 kq x5_1 l1 (l1.length : Int) x14_1 ((rd_T67 l1 x14_1).f0) (((rd_T67 l1 x14_1).f0).length : Int) x22_2 ((rd_T67 l1 x14_1).f0) ((rd_T67 l1 x14_1).f1) ((rd_T67 l1 x14_1).f2) ((rd_T67 l1 x14_1).f3) ((rd_T67 l1 x14_1).f4) x156000_2 0 0 0 0 = some r) ∧ Aside0 (kq ≤ k1) ∧ Aside0 (Kd.S k67 67 w' w.heap.size (fun k_ => some k_ ≠ (u156000 : Value).ownBlock ∧ k_ ≠ gb154 ∧ k_ ≠ gb155) u5 x5_1) ∧ Aside0 (Kd.R k93 93 w' w.heap.size (fun _ => True) u156000 x156000_2) ∧ Aside0 (w'.heap[gb154]? = some (.cells #[(.slice A153_0 ((rd_T67 l1 x14_1).f0).length c153_0), .int .i64 ((rd_T67 l1 x14_1).f1), .int .i64 ((rd_T67 l1 x14_1).f2), .int .i64 ((rd_T67 l1 x14_1).f3), .int .i64 ((rd_T67 l1 x14_1).f4)] 67 (0, 0))) ∧ Aside0 (w'.heap[gb155]? = some (.cells #[u156000, .int .i64 0, .int .i64 0, .int .i64 0, .int .i64 0] 67 (0, 0))) ∧ Aside0 (Below w.heap.size w w'))
    case atStart => exact ⟨(0), (([] : List (S93))), (.slice none 0 0), (by first | rfl | simp [*]), H', ⟨Nat.le_refl _⟩, ⟨Kd.S_st (Kd.S_mono (Kd.S_far (p := ⟨gb155, 4, none⟩) (Kd.S_far (p := ⟨gb155, 3, none⟩) (Kd.S_far (p := ⟨gb155, 2, none⟩) (Kd.S_far (p := ⟨gb155, 1, none⟩) (Kd.S_far (p := ⟨gb155, 0, none⟩) (Kd.S_mono HO_5.out (fun k_ hk => (⟨hk, hk.2⟩ : _ ∧ k_ ≠ gb155))) (fun _ hk => hk.2) (.slice none 0 0)) (fun _ hk => hk.2) (.int .i64 0)) (fun _ hk => hk.2) (.int .i64 0)) (fun _ hk => hk.2) (.int .i64 0)) (fun _ hk => hk.2) (.int .i64 0)) (fun _ hk => ⟨(by simp [Value.ownBlock]), ⟨hk.1.1.2, hk.1.2⟩⟩))⟩, ⟨by first | exact Kd.R_nil _ _ _ _ _ | exact Kd.S_nil _ _ _ _ _⟩, ⟨by (with_reducible repeat (first | refine kN_ ?_ _ | refine kD_ ?_ | refine kA_ ?_ _)); refine blk_far ?_ NB154_155.out _; (with_reducible repeat (first | refine kN_ ?_ _ | refine kD_ ?_ | refine kA_ ?_ _)); refine blk_far ?_ NB154_155.out _; (with_reducible repeat (first | refine kN_ ?_ _ | refine kD_ ?_ | refine kA_ ?_ _)); refine blk_far ?_ NB154_155.out _; (with_reducible repeat (first | refine kN_ ?_ _ | refine kD_ ?_ | refine kA_ ?_ _)); refine blk_far ?_ NB154_155.out _; (with_reducible repeat (first | refine kN_ ?_ _ | refine kD_ ?_ | refine kA_ ?_ _)); refine blk_far ?_ NB154_155.out _; (with_reducible repeat (first | refine kN_ ?_ _ | refine kD_ ?_ | refine kA_ ?_ _)); exact BK154.out⟩, ⟨by (with_reducible repeat (first | refine kN_ ?_ _ | refine kD_ ?_ | refine kA_ ?_ _)); refine blk_put (cs := #[.slice none 0 0, .int .i64 0, .int .i64 0, .int .i64 0, .int .i64 0]) ?_ 4 _ rfl; (with_reducible repeat (first | refine kN_ ?_ _ | refine kD_ ?_ | refine kA_ ?_ _)); refine blk_put (cs := #[.slice none 0 0, .int .i64 0, .int .i64 0, .int .i64 0, .int .i64 0]) ?_ 3 _ rfl; (with_reducible repeat (first | refine kN_ ?_ _ | refine kD_ ?_ | refine kA_ ?_ _)); refine blk_put (cs := #[.slice none 0 0, .int .i64 0, .int .i64 0, .int .i64 0, .int .i64 0]) ?_ 2 _ rfl; (with_reducible repeat (first | refine kN_ ?_ _ | refine kD_ ?_ | refine kA_ ?_ _)); refine blk_put (cs := #[.slice none 0 0, .int .i64 0, .int .i64 0, .int .i64 0, .int .i64 0]) ?_ 1 _ rfl; (with_reducible repeat (first | refine kN_ ?_ _ | refine kD_ ?_ | refine kA_ ?_ _)); refine blk_put (cs := #[.slice none 0 0, .int .i64 0, .int .i64 0, .int .i64 0, .int .i64 0]) ?_ 0 _ rfl; (with_reducible repeat (first | refine kN_ ?_ _ | refine kD_ ?_ | refine kA_ ?_ _)); exact BK155.out⟩, ⟨by with_reducible repeat first | exact HB.out | apply bA_ | apply bN_ | apply bD_ | refine bS_ ?_ GE154.out | refine bS_ ?_ GE155.out⟩⟩
    case round =>
     clear H'
     obtain ⟨x22_2, x156000_2, u156000, rfl, HA, HK2, HO_5, HO_156000, BK154, BK155, HB⟩ := hrel
     cases gk with
     | zero => exact absurd HA.out (by simp [p_PatchDeepCopy.l1])
     | succ k2 =>
      have H := HA.out; clear HA
      simp only [p_PatchDeepCopy.l1] at H
      by_cases c14 : x22_2 < (((rd_T67 l1 x14_1).f0).length : Int)
      ·rw [if_pos c14] at H
       have c14b0 := decide_eq_true c14
       clear c14
       replace H := yes_ H; obtain ⟨c15, H⟩ := H
       have c15b0 := decide_eq_true c15
       clear c15
       replace H := yes_ H; obtain ⟨c16, H⟩ := H
       have c16b0 := decide_eq_true c16
       clear c16
       replace H := yes_ H; obtain ⟨c17, H⟩ := H
       have LMc17 := Aside0.mk c17
       clear c17
       obtain ⟨y158, hy158⟩ : ∃ y_ : List (S93), y_ = (x156000_2 ++ [(⟨(rd_T93 ((rd_T67 l1 x14_1).f0) x22_2).f0, (rd_T93 ((rd_T67 l1 x14_1).f0) x22_2).f1⟩ : S93)]) := ⟨_, rfl⟩
       replace H : (p_PatchDeepCopy.l1 k2 x5_1 l1 (l1.length : Int) x14_1 ((rd_T67 l1 x14_1).f0) (((rd_T67 l1 x14_1).f0).length : Int) (wrap64 (x22_2 + 1)) ((rd_T67 l1 x14_1).f0) ((rd_T67 l1 x14_1).f1) ((rd_T67 l1 x14_1).f2) ((rd_T67 l1 x14_1).f3) ((rd_T67 l1 x14_1).f4) y158 0 0 0 0) = some r := by first | (rw [hy158]; with_reducible exact H) | (have H2_ := (Option.bind_some _ _).symm.trans H; rw [hy158]; with_reducible exact H2_) | (have H2_ := (Option.bind_some _ _).symm.trans H; with_reducible exact H2_) | with_reducible exact H | (rw [hy158]; exact H) | exact H
       have Ny158 := Aside0.mk hy158
       clear hy158
       have H' := Aside0.mk H
       clear H
       have p156 : 0 ≤ (x22_2 : Int) := of_decide_eq_true (by assumption)
       have q156 : x22_2 < (((rd_T67 l1 x14_1).f0).length : Int) := of_decide_eq_true (by assumption)
       obtain ⟨ad156, e156, hx156_0, hx156_1⟩ := at_T93 HR153_0.out x22_2 p156 q156
       cases e156
       replace hx156_0 := (HB.out.cell (World.block_lt_of_cell? w _ hx156_0)).trans hx156_0
       replace hx156_1 := (HB.out.cell (World.block_lt_of_cell? w _ hx156_1)).trans hx156_1
       replace p156 := eq_true p156
       replace q156 := eq_true q156
       go_wp2_with (first | ((with_reducible refine gate_dst (N := 10) rfl ?_); refine box_event ?hg (N := 10) ?hd (cs := #[.int .i8 0, .string (⟨#[]⟩ : ByteArray)]) (t := 93) ?hr ?_; (case hd => rfl); (case hg => rfl); (case hr => first | (go_simp; done) | (go_simp; rfl)); intro gb157 hg w18 hbox hb; replace HO_5 := aS_ (Kd.S_below (Kd.S_elderB (Kd.S_st HO_5.out) gb157 (Nat.le_of_eq hg.symm)) hb); replace HO_156000 := aS_ (Kd.R_below (Kd.R_elderB (Kd.R_st HO_156000.out) gb157 (Nat.le_of_eq hg.symm)) hb); have BK157 := aS_ (hbox); have GW157 := aS_ ((by rw [hg]; exact (bz_ (by with_reducible repeat first | exact HB.out | apply bA_ | apply bN_ | apply bD_ | refine bS_ ?_ GE154.out | refine bS_ ?_ GE155.out)) : w.heap.size ≤ gb157)); have GE157 := aS_ ((by rw [hg]; exact (bz_ (by with_reducible repeat first | exact HB.out | apply bA_ | apply bN_ | apply bD_ | refine bS_ ?_ GE154.out | refine bS_ ?_ GE155.out)) : w.heap.size ≤ gb157)); replace HB := aS_ (bt_ (by with_reducible repeat first | exact HB.out | apply bA_ | apply bN_ | apply bD_ | refine bS_ ?_ GE154.out | refine bS_ ?_ GE155.out) hb); have NB154_157 := aS_ ((by rw [hg]; exact Nat.ne_of_lt (blk_lt (g := gb154) (o := .cells #[.slice (some ad156) ((rd_T67 l1 x14_1).f0).length c153_0, .int .i64 ((rd_T67 l1 x14_1).f1), .int .i64 ((rd_T67 l1 x14_1).f2), .int .i64 ((rd_T67 l1 x14_1).f3), .int .i64 ((rd_T67 l1 x14_1).f4)] 67 (0, 0)) (blk_st BK154.out)) : gb154 ≠ gb157)); have NB157_154 := aS_ ((by rw [hg]; exact Nat.ne_of_gt (blk_lt (g := gb154) (o := .cells #[.slice (some ad156) ((rd_T67 l1 x14_1).f0).length c153_0, .int .i64 ((rd_T67 l1 x14_1).f1), .int .i64 ((rd_T67 l1 x14_1).f2), .int .i64 ((rd_T67 l1 x14_1).f3), .int .i64 ((rd_T67 l1 x14_1).f4)] 67 (0, 0)) (blk_st BK154.out)) : gb157 ≠ gb154)); replace BK154 := aS_ (blk_below (g := gb154) (o := .cells #[.slice (some ad156) ((rd_T67 l1 x14_1).f0).length c153_0, .int .i64 ((rd_T67 l1 x14_1).f1), .int .i64 ((rd_T67 l1 x14_1).f2), .int .i64 ((rd_T67 l1 x14_1).f3), .int .i64 ((rd_T67 l1 x14_1).f4)] 67 (0, 0)) (blk_st BK154.out) hb); have NB155_157 := aS_ ((by rw [hg]; exact Nat.ne_of_lt (blk_lt (g := gb155) (o := .cells #[u156000, .int .i64 0, .int .i64 0, .int .i64 0, .int .i64 0] 67 (0, 0)) (blk_st BK155.out)) : gb155 ≠ gb157)); have NB157_155 := aS_ ((by rw [hg]; exact Nat.ne_of_gt (blk_lt (g := gb155) (o := .cells #[u156000, .int .i64 0, .int .i64 0, .int .i64 0, .int .i64 0] 67 (0, 0)) (blk_st BK155.out)) : gb157 ≠ gb155)); replace BK155 := aS_ (blk_below (g := gb155) (o := .cells #[u156000, .int .i64 0, .int .i64 0, .int .i64 0, .int .i64 0] 67 (0, 0)) (blk_st BK155.out) hb); clear hb hbox hg; have hnb19 := NB157_154.out; have hnc19 := NB154_157.out; have hnb20 := NB157_155.out; have hnc20 := NB155_157.out; obtain ⟨hcz21_0, hcz21_1, hfz21_0, hfz21_1⟩ := blk2 BK157.out; have hnb22 := NB155_154.out; have hnc22 := NB154_155.out; obtain ⟨hcz23_0, hcz23_1, hcz23_2, hcz23_3, hcz23_4, hfz23_0, hfz23_1, hfz23_2, hfz23_3, hfz23_4⟩ := blk5 BK155.out) | ((with_reducible refine gate_builtin (b := .append) (xs := #[.tmp 27, .tmp 33]) rfl ?_); at_builtin; refine Kd.R_append k93 (w0 := w) w.heap.size rfl (.tmp 27) (.tmp 33) 65 93 (.agg #[(.int .i8 0), (.string ⟨#[]⟩)]) 24 rfl Tryz.underlying65 info93 rfl (by decide) (by omega) u156000 x156000_2 (⟨(rd_T93 ((rd_T67 l1 x14_1).f0) x22_2).f0, (rd_T93 ((rd_T67 l1 x14_1).f0) x22_2).f1⟩ : S93) [.int .i8 ((rd_T93 ((rd_T67 l1 x14_1).f0) x22_2).f0), .string ((rd_T93 ((rd_T67 l1 x14_1).f0) x22_2).f1)] (fun k_ => k_ ≠ gb157) (fun _ => False) rfl (by first | (go_simp; done) | (go_simp; rfl)) ?aP (fun _ hk => hk.elim) ?aF ?aO ?aB ?aS ?aL ?_; (case aP => exact k93_mkM _ _ _ (⟨(rd_T93 ((rd_T67 l1 x14_1).f0) x22_2).f0, (rd_T93 ((rd_T67 l1 x14_1).f0) x22_2).f1⟩ : S93)); (case aB => exact (by with_reducible repeat first | exact HB.out | apply bA_ | apply bN_ | apply bD_ | refine bS_ ?_ GE154.out | refine bS_ ?_ GE155.out | refine bS_ ?_ GE157.out)); (case aF => exact (fun k_ hk => Kd.freshB (g := gb157) (o := .cells #[.int .i8 ((rd_T93 ((rd_T67 l1 x14_1).f0) x22_2).f0), .string ((rd_T93 ((rd_T67 l1 x14_1).f0) x22_2).f1)] 93 (0, 0)) (by (with_reducible repeat (first | refine kN_ ?_ _ | refine kD_ ?_ | refine kA_ ?_ _)); refine blk_put (cs := #[.int .i8 ((rd_T93 ((rd_T67 l1 x14_1).f0) x22_2).f0), .string (⟨#[]⟩ : ByteArray)]) ?_ 1 _ rfl; (with_reducible repeat (first | refine kN_ ?_ _ | refine kD_ ?_ | refine kA_ ?_ _)); refine blk_put (cs := #[.int .i8 0, .string (⟨#[]⟩ : ByteArray)]) ?_ 0 _ rfl; (with_reducible repeat (first | refine kN_ ?_ _ | refine kD_ ?_ | refine kA_ ?_ _)); exact BK157.out) k_ hk)); (case aO => exact (Kd.R_st (Kd.R_mono (Kd.R_far (p := ⟨gb157, 1, none⟩) (Kd.R_far (p := ⟨gb157, 0, none⟩) (Kd.R_mono HO_156000.out (fun k_ hk => (⟨hk, hk.2⟩ : _ ∧ k_ ≠ gb157))) (fun _ hk => hk.2) (.int .i8 ((rd_T93 ((rd_T67 l1 x14_1).f0) x22_2).f0))) (fun _ hk => hk.2) (.string ((rd_T93 ((rd_T67 l1 x14_1).f0) x22_2).f1))) (fun _ hk => hk.1.2)))); (case aS => exact (bz_ (by with_reducible repeat first | exact HB.out | apply bA_ | apply bN_ | apply bD_ | refine bS_ ?_ GE154.out | refine bS_ ?_ GE155.out | refine bS_ ?_ GE157.out))); (case aL => have := LMc17.out; omega); intro v159 w24 ho hb hg hat; rw [← Ny158.out] at ho; replace HO_5 := aS_ (Kd.S_after (ok := (fun k_ => k_ ≠ gb154 ∧ k_ ≠ gb155 ∧ k_ ≠ gb157)) (Kd.S_st (Kd.S_mono (Kd.S_far (p := ⟨gb157, 1, none⟩) (Kd.S_far (p := ⟨gb157, 0, none⟩) (Kd.S_mono HO_5.out (fun k_ hk => (⟨hk, hk.2⟩ : _ ∧ k_ ≠ gb157))) (fun _ hk => hk.2) (.int .i8 ((rd_T93 ((rd_T67 l1 x14_1).f0) x22_2).f0))) (fun _ hk => hk.2) (.string ((rd_T93 ((rd_T67 l1 x14_1).f0) x22_2).f1))) (fun _ hk => ⟨⟨hk.1.1.2.1, ⟨hk.1.1.2.2, hk.1.2⟩⟩, hk.1.1.1⟩))) hg hat); replace BK154 := aS_ (blk_grown (g := gb154) (o := .cells #[.slice (some ad156) ((rd_T67 l1 x14_1).f0).length c153_0, .int .i64 ((rd_T67 l1 x14_1).f1), .int .i64 ((rd_T67 l1 x14_1).f2), .int .i64 ((rd_T67 l1 x14_1).f3), .int .i64 ((rd_T67 l1 x14_1).f4)] 67 (0, 0)) (by (with_reducible repeat (first | refine kN_ ?_ _ | refine kD_ ?_ | refine kA_ ?_ _)); refine blk_far ?_ NB154_157.out _; (with_reducible repeat (first | refine kN_ ?_ _ | refine kD_ ?_ | refine kA_ ?_ _)); refine blk_far ?_ NB154_157.out _; (with_reducible repeat (first | refine kN_ ?_ _ | refine kD_ ?_ | refine kA_ ?_ _)); exact BK154.out) hg (Kd.R_ne HO_156000.out BK154.out (by decide))); replace BK155 := aS_ (blk_grown (g := gb155) (o := .cells #[u156000, .int .i64 0, .int .i64 0, .int .i64 0, .int .i64 0] 67 (0, 0)) (by (with_reducible repeat (first | refine kN_ ?_ _ | refine kD_ ?_ | refine kA_ ?_ _)); refine blk_far ?_ NB155_157.out _; (with_reducible repeat (first | refine kN_ ?_ _ | refine kD_ ?_ | refine kA_ ?_ _)); refine blk_far ?_ NB155_157.out _; (with_reducible repeat (first | refine kN_ ?_ _ | refine kD_ ?_ | refine kA_ ?_ _)); exact BK155.out) hg (Kd.R_ne HO_156000.out BK155.out (by decide))); replace BK157 := aS_ (blk_grown (g := gb157) (o := .cells #[.int .i8 ((rd_T93 ((rd_T67 l1 x14_1).f0) x22_2).f0), .string ((rd_T93 ((rd_T67 l1 x14_1).f0) x22_2).f1)] 93 (0, 0)) (by (with_reducible repeat (first | refine kN_ ?_ _ | refine kD_ ?_ | refine kA_ ?_ _)); refine blk_put (cs := #[.int .i8 ((rd_T93 ((rd_T67 l1 x14_1).f0) x22_2).f0), .string (⟨#[]⟩ : ByteArray)]) ?_ 1 _ rfl; (with_reducible repeat (first | refine kN_ ?_ _ | refine kD_ ?_ | refine kA_ ?_ _)); refine blk_put (cs := #[.int .i8 0, .string (⟨#[]⟩ : ByteArray)]) ?_ 0 _ rfl; (with_reducible repeat (first | refine kN_ ?_ _ | refine kD_ ?_ | refine kA_ ?_ _)); exact BK157.out) hg (Kd.R_away HO_156000.out (fun _ hk => hk.2))); replace HB := aS_ (hb); have HO160 := aS_ (ho); clear HO_156000; clear ho hb hg hat; obtain ⟨Ao25, co25, eo25⟩ := Kd.R_slice HO160.out; subst eo25; obtain ⟨hcz26_0, hcz26_1, hcz26_2, hcz26_3, hcz26_4, hfz26_0, hfz26_1, hfz26_2, hfz26_3, hfz26_4⟩ := blk5 BK155.out))
       go_roundg k2
       case measure => have := HK1.out; have := HK2.out; omega
       case rel => exact ⟨(wrap64 (x22_2 + 1)), (y158), (.slice Ao25 y158.length co25), (by first | rfl | simp [*]), H', ⟨by have := HK1.out; have := HK2.out; omega⟩, ⟨Kd.S_st (Kd.S_mono (Kd.S_far (p := ⟨gb155, 0, none⟩) (Kd.S_mono HO_5.out (fun k_ hk => (⟨hk, hk.1.2.1⟩ : _ ∧ k_ ≠ gb155))) (fun _ hk => hk.2) (.slice Ao25 y158.length co25)) (fun _ hk => ⟨hk.1.2, ⟨hk.1.1.1, hk.1.1.2.1⟩⟩))⟩, ⟨Kd.R_st (Kd.R_mono (Kd.R_far (p := ⟨gb155, 0, none⟩) (Kd.R_types HO160.out BK155.out (by decide)) (fun _ hk => hk.2) (.slice Ao25 y158.length co25)) (fun _ hk => trivial))⟩, ⟨by (with_reducible repeat (first | refine kN_ ?_ _ | refine kD_ ?_ | refine kA_ ?_ _)); refine blk_far ?_ NB154_155.out _; (with_reducible repeat (first | refine kN_ ?_ _ | refine kD_ ?_ | refine kA_ ?_ _)); exact BK154.out⟩, ⟨by (with_reducible repeat (first | refine kN_ ?_ _ | refine kD_ ?_ | refine kA_ ?_ _)); refine blk_put (cs := #[u156000, .int .i64 0, .int .i64 0, .int .i64 0, .int .i64 0]) ?_ 0 _ rfl; (with_reducible repeat (first | refine kN_ ?_ _ | refine kD_ ?_ | refine kA_ ?_ _)); exact BK155.out⟩, ⟨by with_reducible repeat first | exact HB.out | apply bA_ | apply bN_ | apply bD_ | refine bS_ ?_ GE154.out | refine bS_ ?_ GE155.out | refine bS_ ?_ GE157.out⟩⟩
      ·rw [if_neg c14] at H
       have c14b0 := decide_eq_false c14
       clear c14
       replace H := yes_ H; obtain ⟨c27, H⟩ := H
       have LMc27 := Aside0.mk c27
       clear c27
       obtain ⟨y161, hy161⟩ : ∃ y_ : List (S67), y_ = (x5_1 ++ [(⟨x156000_2, ((rd_T67 l1 x14_1).f1), ((rd_T67 l1 x14_1).f2), ((rd_T67 l1 x14_1).f3), ((rd_T67 l1 x14_1).f4)⟩ : S67)]) := ⟨_, rfl⟩
       replace H : (p_PatchDeepCopy.l0 k2 y161 l1 (l1.length : Int) (wrap64 (x14_1 + 1))) = some r := by first | (rw [hy161]; with_reducible exact H) | (have H2_ := (Option.bind_some _ _).symm.trans H; rw [hy161]; with_reducible exact H2_) | (have H2_ := (Option.bind_some _ _).symm.trans H; with_reducible exact H2_) | with_reducible exact H | (rw [hy161]; exact H) | exact H
       have Ny161 := Aside0.mk hy161
       clear hy161
       have H' := Aside0.mk H
       clear H
       have hnb28 := NB154_155.out
       have hnc28 := NB155_154.out
       obtain ⟨hcz29_0, hcz29_1, hcz29_2, hcz29_3, hcz29_4, hfz29_0, hfz29_1, hfz29_2, hfz29_3, hfz29_4⟩ := blk5 BK154.out
       obtain ⟨hcz30_0, hcz30_1, hcz30_2, hcz30_3, hcz30_4, hfz30_0, hfz30_1, hfz30_2, hfz30_3, hfz30_4⟩ := blk5 BK155.out
       go_wp2_with (first | ((with_reducible refine gate_store (t := 3) (p := 39) rfl ?_); refine store_event (t := 3) (p := 39) (v := ?vo_w31) (w1 := (wr.setCell ⟨gb155, 1, none⟩ (.int .i64 ((rd_T67 l1 x14_1).f1)))) ?hg ?ho ?hn ?hr ?_; (case ho => rfl); (case hg => rfl); (case hn => rfl); (case hr => first | (go_simp; done) | (go_simp; rfl)); intro w31 hw; have n0_ : Aside0 (Kd.S k67 67 w31 w.heap.size (fun k_ => some k_ ≠ (u156000 : Value).ownBlock ∧ k_ ≠ gb154 ∧ k_ ≠ gb155) u5 x5_1) := ⟨(by rw [hw]; exact (Kd.S_st (Kd.S_mono (Kd.S_far (p := ⟨gb155, 1, none⟩) (Kd.S_mono HO_5.out (fun k_ hk => (⟨hk, hk.2.2⟩ : _ ∧ k_ ≠ gb155))) (fun _ hk => hk.2) (.int .i64 ((rd_T67 l1 x14_1).f1))) (fun _ hk => ⟨hk.1.1, ⟨hk.1.2.1, hk.1.2.2⟩⟩))))⟩; have n1_ : Aside0 (Kd.R k93 93 w31 w.heap.size (fun _ => True) u156000 x156000_2) := ⟨(by rw [hw]; exact (Kd.R_st (Kd.R_mono (Kd.R_far (p := ⟨gb155, 1, none⟩) (Kd.R_types HO_156000.out BK155.out (by decide)) (fun _ hk => hk.2) (.int .i64 ((rd_T67 l1 x14_1).f1))) (fun _ hk => trivial))))⟩; have n2_ : Aside0 (w31.heap[gb154]? = some (.cells #[.slice A153_0 ((rd_T67 l1 x14_1).f0).length c153_0, .int .i64 ((rd_T67 l1 x14_1).f1), .int .i64 ((rd_T67 l1 x14_1).f2), .int .i64 ((rd_T67 l1 x14_1).f3), .int .i64 ((rd_T67 l1 x14_1).f4)] 67 (0, 0))) := ⟨(by rw [hw]; exact (by (with_reducible repeat (first | refine kN_ ?_ _ | refine kD_ ?_ | refine kA_ ?_ _)); refine blk_far ?_ NB154_155.out _; (with_reducible repeat (first | refine kN_ ?_ _ | refine kD_ ?_ | refine kA_ ?_ _)); exact BK154.out))⟩; have n3_ : Aside0 (w31.heap[gb155]? = some (.cells #[u156000, .int .i64 ((rd_T67 l1 x14_1).f1), .int .i64 0, .int .i64 0, .int .i64 0] 67 (0, 0))) := ⟨(by rw [hw]; exact (by (with_reducible repeat (first | refine kN_ ?_ _ | refine kD_ ?_ | refine kA_ ?_ _)); refine blk_put (cs := #[u156000, .int .i64 0, .int .i64 0, .int .i64 0, .int .i64 0]) ?_ 1 _ rfl; (with_reducible repeat (first | refine kN_ ?_ _ | refine kD_ ?_ | refine kA_ ?_ _)); exact BK155.out))⟩; have n4_ : Aside0 (Below w.heap.size w w31) := ⟨(by rw [hw]; exact (by with_reducible repeat first | exact HB.out | apply bA_ | apply bN_ | apply bD_ | refine bS_ ?_ GE154.out | refine bS_ ?_ GE155.out))⟩; clear hw; clear HO_5; clear HO_156000; clear BK154; clear BK155; clear HB; have HO_5 := n0_; have HO_156000 := n1_; have BK154 := n2_; have BK155 := n3_; have HB := n4_; clear n0_ n1_ n2_ n3_ n4_; obtain ⟨hcz32_0, hcz32_1, hcz32_2, hcz32_3, hcz32_4, hfz32_0, hfz32_1, hfz32_2, hfz32_3, hfz32_4⟩ := blk5 BK154.out; obtain ⟨hcz33_0, hcz33_1, hcz33_2, hcz33_3, hcz33_4, hfz33_0, hfz33_1, hfz33_2, hfz33_3, hfz33_4⟩ := blk5 BK155.out) | ((with_reducible refine gate_store (t := 3) (p := 42) rfl ?_); refine store_event (t := 3) (p := 42) (v := ?vo_w34) (w1 := (w31.setCell ⟨gb155, 2, none⟩ (.int .i64 ((rd_T67 l1 x14_1).f2)))) ?hg ?ho ?hn ?hr ?_; (case ho => rfl); (case hg => rfl); (case hn => rfl); (case hr => first | (go_simp; done) | (go_simp; rfl)); intro w34 hw; have n0_ : Aside0 (Kd.S k67 67 w34 w.heap.size (fun k_ => some k_ ≠ (u156000 : Value).ownBlock ∧ k_ ≠ gb154 ∧ k_ ≠ gb155) u5 x5_1) := ⟨(by rw [hw]; exact (Kd.S_st (Kd.S_mono (Kd.S_far (p := ⟨gb155, 2, none⟩) (Kd.S_mono HO_5.out (fun k_ hk => (⟨hk, hk.2.2⟩ : _ ∧ k_ ≠ gb155))) (fun _ hk => hk.2) (.int .i64 ((rd_T67 l1 x14_1).f2))) (fun _ hk => ⟨hk.1.1, ⟨hk.1.2.1, hk.1.2.2⟩⟩))))⟩; have n1_ : Aside0 (Kd.R k93 93 w34 w.heap.size (fun _ => True) u156000 x156000_2) := ⟨(by rw [hw]; exact (Kd.R_st (Kd.R_mono (Kd.R_far (p := ⟨gb155, 2, none⟩) (Kd.R_types HO_156000.out BK155.out (by decide)) (fun _ hk => hk.2) (.int .i64 ((rd_T67 l1 x14_1).f2))) (fun _ hk => trivial))))⟩; have n2_ : Aside0 (w34.heap[gb154]? = some (.cells #[.slice A153_0 ((rd_T67 l1 x14_1).f0).length c153_0, .int .i64 ((rd_T67 l1 x14_1).f1), .int .i64 ((rd_T67 l1 x14_1).f2), .int .i64 ((rd_T67 l1 x14_1).f3), .int .i64 ((rd_T67 l1 x14_1).f4)] 67 (0, 0))) := ⟨(by rw [hw]; exact (by (with_reducible repeat (first | refine kN_ ?_ _ | refine kD_ ?_ | refine kA_ ?_ _)); refine blk_far ?_ NB154_155.out _; (with_reducible repeat (first | refine kN_ ?_ _ | refine kD_ ?_ | refine kA_ ?_ _)); exact BK154.out))⟩; have n3_ : Aside0 (w34.heap[gb155]? = some (.cells #[u156000, .int .i64 ((rd_T67 l1 x14_1).f1), .int .i64 ((rd_T67 l1 x14_1).f2), .int .i64 0, .int .i64 0] 67 (0, 0))) := ⟨(by rw [hw]; exact (by (with_reducible repeat (first | refine kN_ ?_ _ | refine kD_ ?_ | refine kA_ ?_ _)); refine blk_put (cs := #[u156000, .int .i64 ((rd_T67 l1 x14_1).f1), .int .i64 0, .int .i64 0, .int .i64 0]) ?_ 2 _ rfl; (with_reducible repeat (first | refine kN_ ?_ _ | refine kD_ ?_ | refine kA_ ?_ _)); exact BK155.out))⟩; have n4_ : Aside0 (Below w.heap.size w w34) := ⟨(by rw [hw]; exact (by with_reducible repeat first | exact HB.out | apply bA_ | apply bN_ | apply bD_ | refine bS_ ?_ GE154.out | refine bS_ ?_ GE155.out))⟩; clear hw; clear HO_5; clear HO_156000; clear BK154; clear BK155; clear HB; have HO_5 := n0_; have HO_156000 := n1_; have BK154 := n2_; have BK155 := n3_; have HB := n4_; clear n0_ n1_ n2_ n3_ n4_; obtain ⟨hcz35_0, hcz35_1, hcz35_2, hcz35_3, hcz35_4, hfz35_0, hfz35_1, hfz35_2, hfz35_3, hfz35_4⟩ := blk5 BK154.out; obtain ⟨hcz36_0, hcz36_1, hcz36_2, hcz36_3, hcz36_4, hfz36_0, hfz36_1, hfz36_2, hfz36_3, hfz36_4⟩ := blk5 BK155.out) | ((with_reducible refine gate_store (t := 3) (p := 45) rfl ?_); refine store_event (t := 3) (p := 45) (v := ?vo_w37) (w1 := (w34.setCell ⟨gb155, 3, none⟩ (.int .i64 ((rd_T67 l1 x14_1).f3)))) ?hg ?ho ?hn ?hr ?_; (case ho => rfl); (case hg => rfl); (case hn => rfl); (case hr => first | (go_simp; done) | (go_simp; rfl)); intro w37 hw; have n0_ : Aside0 (Kd.S k67 67 w37 w.heap.size (fun k_ => some k_ ≠ (u156000 : Value).ownBlock ∧ k_ ≠ gb154 ∧ k_ ≠ gb155) u5 x5_1) := ⟨(by rw [hw]; exact (Kd.S_st (Kd.S_mono (Kd.S_far (p := ⟨gb155, 3, none⟩) (Kd.S_mono HO_5.out (fun k_ hk => (⟨hk, hk.2.2⟩ : _ ∧ k_ ≠ gb155))) (fun _ hk => hk.2) (.int .i64 ((rd_T67 l1 x14_1).f3))) (fun _ hk => ⟨hk.1.1, ⟨hk.1.2.1, hk.1.2.2⟩⟩))))⟩; have n1_ : Aside0 (Kd.R k93 93 w37 w.heap.size (fun _ => True) u156000 x156000_2) := ⟨(by rw [hw]; exact (Kd.R_st (Kd.R_mono (Kd.R_far (p := ⟨gb155, 3, none⟩) (Kd.R_types HO_156000.out BK155.out (by decide)) (fun _ hk => hk.2) (.int .i64 ((rd_T67 l1 x14_1).f3))) (fun _ hk => trivial))))⟩; have n2_ : Aside0 (w37.heap[gb154]? = some (.cells #[.slice A153_0 ((rd_T67 l1 x14_1).f0).length c153_0, .int .i64 ((rd_T67 l1 x14_1).f1), .int .i64 ((rd_T67 l1 x14_1).f2), .int .i64 ((rd_T67 l1 x14_1).f3), .int .i64 ((rd_T67 l1 x14_1).f4)] 67 (0, 0))) := ⟨(by rw [hw]; exact (by (with_reducible repeat (first | refine kN_ ?_ _ | refine kD_ ?_ | refine kA_ ?_ _)); refine blk_far ?_ NB154_155.out _; (with_reducible repeat (first | refine kN_ ?_ _ | refine kD_ ?_ | refine kA_ ?_ _)); exact BK154.out))⟩; have n3_ : Aside0 (w37.heap[gb155]? = some (.cells #[u156000, .int .i64 ((rd_T67 l1 x14_1).f1), .int .i64 ((rd_T67 l1 x14_1).f2), .int .i64 ((rd_T67 l1 x14_1).f3), .int .i64 0] 67 (0, 0))) := ⟨(by rw [hw]; exact (by (with_reducible repeat (first | refine kN_ ?_ _ | refine kD_ ?_ | refine kA_ ?_ _)); refine blk_put (cs := #[u156000, .int .i64 ((rd_T67 l1 x14_1).f1), .int .i64 ((rd_T67 l1 x14_1).f2), .int .i64 0, .int .i64 0]) ?_ 3 _ rfl; (with_reducible repeat (first | refine kN_ ?_ _ | refine kD_ ?_ | refine kA_ ?_ _)); exact BK155.out))⟩; have n4_ : Aside0 (Below w.heap.size w w37) := ⟨(by rw [hw]; exact (by with_reducible repeat first | exact HB.out | apply bA_ | apply bN_ | apply bD_ | refine bS_ ?_ GE154.out | refine bS_ ?_ GE155.out))⟩; clear hw; clear HO_5; clear HO_156000; clear BK154; clear BK155; clear HB; have HO_5 := n0_; have HO_156000 := n1_; have BK154 := n2_; have BK155 := n3_; have HB := n4_; clear n0_ n1_ n2_ n3_ n4_; obtain ⟨hcz38_0, hcz38_1, hcz38_2, hcz38_3, hcz38_4, hfz38_0, hfz38_1, hfz38_2, hfz38_3, hfz38_4⟩ := blk5 BK154.out; obtain ⟨hcz39_0, hcz39_1, hcz39_2, hcz39_3, hcz39_4, hfz39_0, hfz39_1, hfz39_2, hfz39_3, hfz39_4⟩ := blk5 BK155.out) | ((with_reducible refine gate_store (t := 3) (p := 48) rfl ?_); refine store_event (t := 3) (p := 48) (v := ?vo_w40) (w1 := (w37.setCell ⟨gb155, 4, none⟩ (.int .i64 ((rd_T67 l1 x14_1).f4)))) ?hg ?ho ?hn ?hr ?_; (case ho => rfl); (case hg => rfl); (case hn => rfl); (case hr => first | (go_simp; done) | (go_simp; rfl)); intro w40 hw; have n0_ : Aside0 (Kd.S k67 67 w40 w.heap.size (fun k_ => some k_ ≠ (u156000 : Value).ownBlock ∧ k_ ≠ gb154 ∧ k_ ≠ gb155) u5 x5_1) := ⟨(by rw [hw]; exact (Kd.S_st (Kd.S_mono (Kd.S_far (p := ⟨gb155, 4, none⟩) (Kd.S_mono HO_5.out (fun k_ hk => (⟨hk, hk.2.2⟩ : _ ∧ k_ ≠ gb155))) (fun _ hk => hk.2) (.int .i64 ((rd_T67 l1 x14_1).f4))) (fun _ hk => ⟨hk.1.1, ⟨hk.1.2.1, hk.1.2.2⟩⟩))))⟩; have n1_ : Aside0 (Kd.R k93 93 w40 w.heap.size (fun _ => True) u156000 x156000_2) := ⟨(by rw [hw]; exact (Kd.R_st (Kd.R_mono (Kd.R_far (p := ⟨gb155, 4, none⟩) (Kd.R_types HO_156000.out BK155.out (by decide)) (fun _ hk => hk.2) (.int .i64 ((rd_T67 l1 x14_1).f4))) (fun _ hk => trivial))))⟩; have n2_ : Aside0 (w40.heap[gb154]? = some (.cells #[.slice A153_0 ((rd_T67 l1 x14_1).f0).length c153_0, .int .i64 ((rd_T67 l1 x14_1).f1), .int .i64 ((rd_T67 l1 x14_1).f2), .int .i64 ((rd_T67 l1 x14_1).f3), .int .i64 ((rd_T67 l1 x14_1).f4)] 67 (0, 0))) := ⟨(by rw [hw]; exact (by (with_reducible repeat (first | refine kN_ ?_ _ | refine kD_ ?_ | refine kA_ ?_ _)); refine blk_far ?_ NB154_155.out _; (with_reducible repeat (first | refine kN_ ?_ _ | refine kD_ ?_ | refine kA_ ?_ _)); exact BK154.out))⟩; have n3_ : Aside0 (w40.heap[gb155]? = some (.cells #[u156000, .int .i64 ((rd_T67 l1 x14_1).f1), .int .i64 ((rd_T67 l1 x14_1).f2), .int .i64 ((rd_T67 l1 x14_1).f3), .int .i64 ((rd_T67 l1 x14_1).f4)] 67 (0, 0))) := ⟨(by rw [hw]; exact (by (with_reducible repeat (first | refine kN_ ?_ _ | refine kD_ ?_ | refine kA_ ?_ _)); refine blk_put (cs := #[u156000, .int .i64 ((rd_T67 l1 x14_1).f1), .int .i64 ((rd_T67 l1 x14_1).f2), .int .i64 ((rd_T67 l1 x14_1).f3), .int .i64 0]) ?_ 4 _ rfl; (with_reducible repeat (first | refine kN_ ?_ _ | refine kD_ ?_ | refine kA_ ?_ _)); exact BK155.out))⟩; have n4_ : Aside0 (Below w.heap.size w w40) := ⟨(by rw [hw]; exact (by with_reducible repeat first | exact HB.out | apply bA_ | apply bN_ | apply bD_ | refine bS_ ?_ GE154.out | refine bS_ ?_ GE155.out))⟩; clear hw; clear HO_5; clear HO_156000; clear BK154; clear BK155; clear HB; have HO_5 := n0_; have HO_156000 := n1_; have BK154 := n2_; have BK155 := n3_; have HB := n4_; clear n0_ n1_ n2_ n3_ n4_; obtain ⟨hcz41_0, hcz41_1, hcz41_2, hcz41_3, hcz41_4, hfz41_0, hfz41_1, hfz41_2, hfz41_3, hfz41_4⟩ := blk5 BK155.out; obtain ⟨Ao43, co43, eo43⟩ := Kd.R_slice HO_156000.out; subst eo43) | ((with_reducible refine gate_builtin (b := .append) (xs := #[.tmp 49, .tmp 51]) rfl ?_); at_builtin; refine Kd.S_append k67 (w0 := w) w.heap.size rfl (.tmp 49) (.tmp 51) 52 67 (.agg #[(.slice none 0 0), (.int .i64 0), (.int .i64 0), (.int .i64 0), (.int .i64 0)]) 56 rfl Tryz.underlying52 info67 rfl (by decide) (by omega) u5 x5_1 (⟨x156000_2, ((rd_T67 l1 x14_1).f1), ((rd_T67 l1 x14_1).f2), ((rd_T67 l1 x14_1).f3), ((rd_T67 l1 x14_1).f4)⟩ : S67) [.slice Ao43 x156000_2.length co43, .int .i64 ((rd_T67 l1 x14_1).f1), .int .i64 ((rd_T67 l1 x14_1).f2), .int .i64 ((rd_T67 l1 x14_1).f3), .int .i64 ((rd_T67 l1 x14_1).f4)] (fun k_ => k_ ≠ gb154 ∧ k_ ≠ gb155) (fun k_ => some k_ = (.slice Ao43 x156000_2.length co43 : Value).ownBlock) rfl rfl ?aP (fun k_ hk_ => ((Kd.R_mono (ok' := fun k_ => ((fun k_ => k_ ≠ gb154 ∧ k_ ≠ gb155)) k_ ∧ some k_ ≠ (u5 : Value).ownBlock) (Kd.R_types (Kd.R_types (Kd.R_apart' (HO_156000.out) (Kd.S_typed HO_5.out) (by decide)) BK154.out (by decide)) BK155.out (by decide)) (fun k_ hk => ⟨⟨hk.1.2, hk.2⟩, hk.1.1.2⟩))).1 k_ hk_.symm) ?aF ?aO ?aB ?aS ?aL ?_; (case aP => exact k67_mkM _ _ _ (⟨x156000_2, ((rd_T67 l1 x14_1).f1), ((rd_T67 l1 x14_1).f2), ((rd_T67 l1 x14_1).f3), ((rd_T67 l1 x14_1).f4)⟩ : S67) (Kd.R_mono (Kd.R_tight rfl (Kd.R_mono (ok' := fun k_ => ((fun k_ => k_ ≠ gb154 ∧ k_ ≠ gb155)) k_ ∧ some k_ ≠ (u5 : Value).ownBlock) (Kd.R_types (Kd.R_types (Kd.R_apart' (HO_156000.out) (Kd.S_typed HO_5.out) (by decide)) BK154.out (by decide)) BK155.out (by decide)) (fun k_ hk => ⟨⟨hk.1.2, hk.2⟩, hk.1.1.2⟩))) (fun _ h_ => h_))); (case aB => exact (by with_reducible repeat first | exact HB.out | apply bA_ | apply bN_ | apply bD_ | refine bS_ ?_ GE154.out | refine bS_ ?_ GE155.out)); (case aF => exact (fun k_ hk => ⟨Kd.freshB (g := gb154) (o := .cells #[.slice A153_0 ((rd_T67 l1 x14_1).f0).length c153_0, .int .i64 ((rd_T67 l1 x14_1).f1), .int .i64 ((rd_T67 l1 x14_1).f2), .int .i64 ((rd_T67 l1 x14_1).f3), .int .i64 ((rd_T67 l1 x14_1).f4)] 67 (0, 0)) (blk_st BK154.out) k_ hk, Kd.freshB (g := gb155) (o := .cells #[.slice Ao43 x156000_2.length co43, .int .i64 ((rd_T67 l1 x14_1).f1), .int .i64 ((rd_T67 l1 x14_1).f2), .int .i64 ((rd_T67 l1 x14_1).f3), .int .i64 ((rd_T67 l1 x14_1).f4)] 67 (0, 0)) (blk_st BK155.out) k_ hk⟩)); (case aO => exact (Kd.S_st (Kd.S_mono HO_5.out (fun k_ hk => ⟨⟨hk.2.1, hk.2.2⟩, fun e_ => hk.1 e_⟩)))); (case aS => exact (bz_ (by with_reducible repeat first | exact HB.out | apply bA_ | apply bN_ | apply bD_ | refine bS_ ?_ GE154.out | refine bS_ ?_ GE155.out))); (case aL => have := LMc27.out; omega); intro v162 w42 ho hb hg hat; rw [← Ny161.out] at ho; replace BK154 := aS_ (blk_grown (g := gb154) (o := .cells #[.slice A153_0 ((rd_T67 l1 x14_1).f0).length c153_0, .int .i64 ((rd_T67 l1 x14_1).f1), .int .i64 ((rd_T67 l1 x14_1).f2), .int .i64 ((rd_T67 l1 x14_1).f3), .int .i64 ((rd_T67 l1 x14_1).f4)] 67 (0, 0)) (blk_st BK154.out) hg (Kd.S_away HO_5.out (fun _ hk => hk.2.1))); replace BK155 := aS_ (blk_grown (g := gb155) (o := .cells #[.slice Ao43 x156000_2.length co43, .int .i64 ((rd_T67 l1 x14_1).f1), .int .i64 ((rd_T67 l1 x14_1).f2), .int .i64 ((rd_T67 l1 x14_1).f3), .int .i64 ((rd_T67 l1 x14_1).f4)] 67 (0, 0)) (blk_st BK155.out) hg (Kd.S_away HO_5.out (fun _ hk => hk.2.2))); replace HB := aS_ (hb); have HO163 := aS_ (ho); clear HO_5 HO_156000; clear ho hb hg hat))
       go_roundg k2
       case measure => have := HK1.out; have := HK2.out; omega
       case rel => exact ⟨(y161), (wrap64 (x14_1 + 1)), (by first | rfl | simp [*]), H', ⟨by have := HK1.out; have := HK2.out; omega⟩, ⟨Kd.S_st (Kd.S_mono HO163.out (fun _ hk => trivial))⟩, ⟨by with_reducible repeat first | exact HB.out | apply bA_ | apply bN_ | apply bD_ | refine bS_ ?_ GE154.out | refine bS_ ?_ GE155.out⟩⟩
   ·rw [if_neg c5] at H
    have c5b0 := decide_eq_false c5
    clear c5
    obtain rfl := Option.some.inj H
    go_wp2
    go_ret
    exact ⟨_, by first | rfl | (simp [*, errW_none, errW_some] <;> rfl), Kd.S_st HO_5.out, bel_ HB.out⟩
def dtext (t : Int) : Nat → List S93 → Int → ByteArray → Option ByteArray
 | 0, _, _, _ => none
 | k + 1, xs, i, acc => if i < (xs.length : Int) then (if 0 ≤ i then (if (rd_T93 xs i).f0 = t then dtext t k xs (wrap64 (i + 1)) acc else (if acc.size + (rd_T93 xs i).f1.size ≤ 140737488355328 then dtext t k xs (wrap64 (i + 1)) (acc ++ (rd_T93 xs i).f1) else none)) else none) else some acc
theorem ba_eta (a : ByteArray) : (⟨a.data.toList.toArray⟩ : ByteArray) = a := by
 obtain ⟨d⟩ := a
 simp
theorem ba_data_append (a b : ByteArray) : (a ++ b).data.toList = a.data.toList ++ b.data.toList := by
 simp [ByteArray.data_append]
def p_DiffText1.f (k : Nat) (a0 : Nat) (l1 : List S93) : Option ByteArray := dtext (1) k l1 0 (⟨#[]⟩ : ByteArray)
theorem p_DiffText1.calls (k : Nat) (a0 : Nat) (A1 : Option Addr) (c1 : Nat) (l1 : List (S93)) (r : ByteArray) (w : World) (hd0 : DmpAt w a0) (hr1 : Kd.C k93 w A1 l1.length l1) (hc1 : l1.length ≤ c1) (h : p_DiffText1.f k a0 l1 = some r) :
  Calls Tryz.prog 57 #[.pointer (some ⟨a0, 0, none⟩), .slice A1 l1.length c1] w fun e w' => e = .returned (.string r) ∧ Below w.heap.size w w' := by
 have hu100 := Tryz.underlying100
 have hu93 := Tryz.underlying93
 clear hd0
 have HR1 := Aside0.mk hr1
 clear hr1
 have H' := Aside0.mk (show dtext (1) k l1 0 (⟨#[]⟩ : ByteArray) = some r from h)
 clear h
 go_enter Tryz.func57, Tryz.ntmps57
 go_wp2
 go_loopg [10] k (fun kq v10 w' => ∃ (x10_1 : Int) (acc : ByteArray), v10 = .int .i64 x10_1 ∧ Aside0 (dtext (1) kq l1 x10_1 acc = some r) ∧ Aside0 (kq ≤ k) ∧ Aside0 (Lib.IsBuffer 100 5 w.heap.size w.heap.size (Lib.byteCells acc.data.toList) w') ∧ Aside0 (Below w.heap.size w w'))
 case atStart => exact ⟨0, ⟨#[]⟩, rfl, H', ⟨Nat.le_refl _⟩, ⟨Lib.fresh_isBuffer 100 5 w⟩, ⟨Below.alloc (Below.refl _ _) (Nat.le_refl _) _⟩⟩
 case round =>
  clear H'
  obtain ⟨x10_1, acc, rfl, HA, HK1, IB, HB⟩ := hrel
  cases gk with
  | zero => exact absurd HA.out (by simp [dtext])
  | succ k1 =>
   have H := HA.out; clear HA
   simp only [dtext] at H
   by_cases c4 : x10_1 < (l1.length : Int)
   ·rw [if_pos c4] at H
    have c4b0 : decide (x10_1 < (l1.length : Int)) = true := decide_eq_true c4
    by_cases c5 : 0 ≤ x10_1
    ·rw [if_pos c5] at H
     have c5b0 : decide (0 ≤ x10_1) = true := decide_eq_true c5
     obtain ⟨ad195, e195, hx195_0, hx195_1⟩ := at_T93 HR1.out x10_1 c5 c4
     cases e195
     replace hx195_0 := (HB.out.cell (World.block_lt_of_cell? w _ hx195_0)).trans hx195_0
     replace hx195_1 := (HB.out.cell (World.block_lt_of_cell? w _ hx195_1)).trans hx195_1
     have p195 := eq_true c5
     have q195 := eq_true c4
     clear c4 c5
     by_cases c7 : ((rd_T93 l1 x10_1).f0) = 1
     ·rw [if_pos c7] at H
      have c7b0 : (((rd_T93 l1 x10_1).f0) == 1) = true := beq_iff_eq.mpr c7
      have c7b1 : (((rd_T93 l1 x10_1).f0) != 1) = false := bne_eq_false_iff_eq.mpr c7
      clear c7
      have H' := Aside0.mk H
      clear H
      go_wp2
      go_roundg k1
      case measure => have := HK1.out; omega
      case rel => exact ⟨_, acc, rfl, H', ⟨by have := HK1.out; omega⟩, ⟨Lib.IsBuffer.alloc IB.out _⟩, ⟨Below.alloc HB.out HB.out.size _⟩⟩
     ·rw [if_neg c7] at H
      have c7b0 : (((rd_T93 l1 x10_1).f0) == 1) = false := beq_eq_false_iff_ne.mpr c7
      have c7b1 : (((rd_T93 l1 x10_1).f0) != 1) = true := bne_iff_ne.mpr c7
      clear c7
      by_cases c8 : acc.size + (rd_T93 l1 x10_1).f1.size ≤ 140737488355328
      ·rw [if_pos c8] at H
       have H' := Aside0.mk H
       have C8 := Aside0.mk c8
       clear H c8
       go_wp2_with (first | (go_at_call 46; refine (Tryz.Buffer_WriteString w.heap.size w.heap.size (Lib.byteCells acc.data.toList) (rd_T93 l1 x10_1).f1 _ (Lib.IsBuffer.alloc IB.out _) (Below.alloc HB.out HB.out.size _).size (Lib.byteCells_one _) (by rw [Lib.byteCells_length]; exact C8.out)).mono ?_; rintro e w46 ⟨rfl, ib46, hb46⟩; have IB46 := Aside0.mk ib46; have HB46 := Aside0.mk (Below.trans (Below.alloc HB.out HB.out.size _) hb46); clear ib46 hb46))
       go_roundg k1
       case measure => have := HK1.out; omega
       case rel => exact ⟨_, acc ++ (rd_T93 l1 x10_1).f1, rfl, H', ⟨by have := HK1.out; omega⟩, ⟨by rw [ba_data_append, Lib.byteCells_append]; exact IB46.out⟩, HB46⟩
      ·rw [if_neg c8] at H
       exact absurd H (by simp)
    ·rw [if_neg c5] at H
     exact absurd H (by simp)
   ·rw [if_neg c4] at H
    have c4b0 : decide (x10_1 < (l1.length : Int)) = false := decide_eq_false c4
    clear c4
    obtain rfl := Option.some.inj H
    go_wp2_with (first | (go_at_call 47; refine (Tryz.Buffer_String w.heap.size w.heap.size acc.data.toList _ IB.out).mono ?_; rintro e w47 ⟨rfl, nd, rfl⟩))
    go_ret
    exact ⟨by rw [ba_eta]; rfl, bN_ HB.out _⟩
def p_DiffText2.f (k : Nat) (a0 : Nat) (l1 : List S93) : Option ByteArray := dtext (-1) k l1 0 (⟨#[]⟩ : ByteArray)
theorem p_DiffText2.calls (k : Nat) (a0 : Nat) (A1 : Option Addr) (c1 : Nat) (l1 : List (S93)) (r : ByteArray) (w : World) (hd0 : DmpAt w a0) (hr1 : Kd.C k93 w A1 l1.length l1) (hc1 : l1.length ≤ c1) (h : p_DiffText2.f k a0 l1 = some r) :
  Calls Tryz.prog 60 #[.pointer (some ⟨a0, 0, none⟩), .slice A1 l1.length c1] w fun e w' => e = .returned (.string r) ∧ Below w.heap.size w w' := by
 have hu100 := Tryz.underlying100
 have hu93 := Tryz.underlying93
 clear hd0
 have HR1 := Aside0.mk hr1
 clear hr1
 have H' := Aside0.mk (show dtext (-1) k l1 0 (⟨#[]⟩ : ByteArray) = some r from h)
 clear h
 go_enter Tryz.func60, Tryz.ntmps60
 go_wp2
 go_loopg [10] k (fun kq v10 w' => ∃ (x10_1 : Int) (acc : ByteArray), v10 = .int .i64 x10_1 ∧ Aside0 (dtext (-1) kq l1 x10_1 acc = some r) ∧ Aside0 (kq ≤ k) ∧ Aside0 (Lib.IsBuffer 100 5 w.heap.size w.heap.size (Lib.byteCells acc.data.toList) w') ∧ Aside0 (Below w.heap.size w w'))
 case atStart => exact ⟨0, ⟨#[]⟩, rfl, H', ⟨Nat.le_refl _⟩, ⟨Lib.fresh_isBuffer 100 5 w⟩, ⟨Below.alloc (Below.refl _ _) (Nat.le_refl _) _⟩⟩
 case round =>
  clear H'
  obtain ⟨x10_1, acc, rfl, HA, HK1, IB, HB⟩ := hrel
  cases gk with
  | zero => exact absurd HA.out (by simp [dtext])
  | succ k1 =>
   have H := HA.out; clear HA
   simp only [dtext] at H
   by_cases c4 : x10_1 < (l1.length : Int)
   ·rw [if_pos c4] at H
    have c4b0 : decide (x10_1 < (l1.length : Int)) = true := decide_eq_true c4
    by_cases c5 : 0 ≤ x10_1
    ·rw [if_pos c5] at H
     have c5b0 : decide (0 ≤ x10_1) = true := decide_eq_true c5
     obtain ⟨ad195, e195, hx195_0, hx195_1⟩ := at_T93 HR1.out x10_1 c5 c4
     cases e195
     replace hx195_0 := (HB.out.cell (World.block_lt_of_cell? w _ hx195_0)).trans hx195_0
     replace hx195_1 := (HB.out.cell (World.block_lt_of_cell? w _ hx195_1)).trans hx195_1
     have p195 := eq_true c5
     have q195 := eq_true c4
     clear c4 c5
     by_cases c7 : ((rd_T93 l1 x10_1).f0) = -1
     ·rw [if_pos c7] at H
      have c7b0 : (((rd_T93 l1 x10_1).f0) == -1) = true := beq_iff_eq.mpr c7
      have c7b1 : (((rd_T93 l1 x10_1).f0) != -1) = false := bne_eq_false_iff_eq.mpr c7
      clear c7
      have H' := Aside0.mk H
      clear H
      go_wp2
      go_roundg k1
      case measure => have := HK1.out; omega
      case rel => exact ⟨_, acc, rfl, H', ⟨by have := HK1.out; omega⟩, ⟨Lib.IsBuffer.alloc IB.out _⟩, ⟨Below.alloc HB.out HB.out.size _⟩⟩
     ·rw [if_neg c7] at H
      have c7b0 : (((rd_T93 l1 x10_1).f0) == -1) = false := beq_eq_false_iff_ne.mpr c7
      have c7b1 : (((rd_T93 l1 x10_1).f0) != -1) = true := bne_iff_ne.mpr c7
      clear c7
      by_cases c8 : acc.size + (rd_T93 l1 x10_1).f1.size ≤ 140737488355328
      ·rw [if_pos c8] at H
       have H' := Aside0.mk H
       have C8 := Aside0.mk c8
       clear H c8
       go_wp2_with (first | (go_at_call 46; refine (Tryz.Buffer_WriteString w.heap.size w.heap.size (Lib.byteCells acc.data.toList) (rd_T93 l1 x10_1).f1 _ (Lib.IsBuffer.alloc IB.out _) (Below.alloc HB.out HB.out.size _).size (Lib.byteCells_one _) (by rw [Lib.byteCells_length]; exact C8.out)).mono ?_; rintro e w46 ⟨rfl, ib46, hb46⟩; have IB46 := Aside0.mk ib46; have HB46 := Aside0.mk (Below.trans (Below.alloc HB.out HB.out.size _) hb46); clear ib46 hb46))
       go_roundg k1
       case measure => have := HK1.out; omega
       case rel => exact ⟨_, acc ++ (rd_T93 l1 x10_1).f1, rfl, H', ⟨by have := HK1.out; omega⟩, ⟨by rw [ba_data_append, Lib.byteCells_append]; exact IB46.out⟩, HB46⟩
      ·rw [if_neg c8] at H
       exact absurd H (by simp)
    ·rw [if_neg c5] at H
     exact absurd H (by simp)
   ·rw [if_neg c4] at H
    have c4b0 : decide (x10_1 < (l1.length : Int)) = false := decide_eq_false c4
    clear c4
    obtain rfl := Option.some.inj H
    go_wp2_with (first | (go_at_call 47; refine (Tryz.Buffer_String w.heap.size w.heap.size acc.data.toList _ IB.out).mono ?_; rintro e w47 ⟨rfl, nd, rfl⟩))
    go_ret
    exact ⟨by rw [ba_eta]; rfl, bN_ HB.out _⟩
def p_PatchSplitMax.l0 : Nat → List (S67) → Int → Int → Option ((List (S67)))
 | 0, _, _, _ => none
 | k + 1, x1, x5, x6 => if x6 < (x1.length : Int) then (if 0 ≤ x6 then (if ((rd_T67 x1 x6).f3) ≤ x5 then (p_PatchSplitMax.l0 k x1 x5 (wrap64 (x6 + 1))) else (none)) else (none)) else (some x1)
def p_PatchSplitMax.f (k : Nat) (a0 : Nat) (l1 : List (S67)) : Option ((List (S67))) := p_PatchSplitMax.l0 k l1 32 0
theorem p_PatchSplitMax.calls (k : Nat) (a0 : Nat) (P1_ : Nat → Prop) (A1 : Option Addr) (c1 : Nat) (l1 : List (S67)) (r : List (S67)) (w : World) (hd0 : DmpAt w a0) (hs1 : Kd.V k67 67 w w.heap.size (fun k_ => P1_ k_) (.slice A1 l1.length c1) l1) (h : p_PatchSplitMax.f k a0 l1 = some r) :
  Calls Tryz.prog 56 #[.pointer (some ⟨a0, 0, none⟩), .slice A1 l1.length c1] w fun e w' => ∃ v0_ : Value, e = .returned (v0_) ∧ Kd.V k67 67 w' w.heap.size (fun k_ => (P1_ k_ ∨ w.heap.size ≤ k_)) v0_ r ∧ Below w.heap.size w w' := by
 have HD0 := Aside0.mk hd0
 clear hd0
 have HO1 := aS_ (show Kd.V k67 67 w w.heap.size (fun k_ => (P1_ k_ ∨ w.heap.size ≤ k_)) (.slice A1 l1.length c1) l1 from Kd.V_mono hs1 (fun k_ hk => .inl hk))
 have HB := aS_ (Below.refl w.heap.size w)
 have H : (p_PatchSplitMax.l0 k l1 32 0) = some r := h
 clear h
 have H' := Aside0.mk H
 clear H
 have hdm3 := dmp_cell5 (dmp_below HD0.out HB.out)
 go_enter Tryz.func56, Tryz.ntmps56
 go_wp2
 go_loopg [6, 1] k (fun kq v6 v1 w' => ∃ (x6_1 : Int), v6 = .int .i64 x6_1 ∧ (.slice A1 l1.length c1 : Value) = v1 ∧ Aside0 (p_PatchSplitMax.l0 kq l1 32 x6_1 = some r) ∧ Aside0 (kq ≤ k) ∧ Aside0 (Kd.V k67 67 w' w.heap.size (fun k_ => (P1_ k_ ∨ w.heap.size ≤ k_)) (.slice A1 l1.length c1) l1) ∧ Aside0 (Below w.heap.size w w'))
 case atStart => exact ⟨(0), (by first | rfl | simp [*]), (by first | rfl | simp [*]), H', ⟨Nat.le_refl _⟩, ⟨by (with_reducible repeat (first | apply Kd.V_alloc | apply Kd.V_drewN | apply Kd.V_drew)); exact HO1.out⟩, ⟨bel_ HB.out⟩⟩
 case round =>
  clear H'
  obtain ⟨x6_1, rfl, rfl, HA, HK1, HO_1, HB⟩ := hrel
  cases gk with
  | zero => exact absurd HA.out (by simp [p_PatchSplitMax.l0])
  | succ k1 =>
   have H := HA.out; clear HA
   simp only [p_PatchSplitMax.l0] at H
   by_cases c4 : x6_1 < (l1.length : Int)
   ·rw [if_pos c4] at H
    have c4b0 := decide_eq_true c4
    clear c4
    replace H := yes_ H; obtain ⟨c5, H⟩ := H
    have c5b0 := decide_eq_true c5
    clear c5
    replace H := yes_ H; obtain ⟨c6, H⟩ := H
    have c6b0 := decide_eq_true c6
    clear c6
    have H' := Aside0.mk H
    clear H
    have p200 : 0 ≤ (x6_1 : Int) := of_decide_eq_true (by assumption)
    have q200 : x6_1 < (l1.length : Int) := of_decide_eq_true (by assumption)
    obtain ⟨ad200, A200_0, c200_0, e200, hx200_0, hx200_1, hx200_2, hx200_3, hx200_4, hl200_0, hi200_0⟩ := at_T67 (Kd.V_reads' HO_1.out).2.2 x6_1 p200 q200
    cases e200
    obtain ⟨ce200, hce200, hMe200, hcc200⟩ := Kd.V_get HO_1.out z67 x6_1 p200 (by first | exact q200 | exact of_decide_eq_true (by assumption) | (have e_ := (Kd.V_reads' HO_1.out).1; omega))
    obtain ⟨ua200_0, uc200_0, rfl, ul200_0, ge200_0⟩ := k67_openF hMe200
    have hv200_0 := hcc200 0 _ rfl
    rw [Nat.add_zero] at hv200_0
    replace hv200_0 := Option.some.inj (hv200_0.symm.trans hx200_0)
    injection hv200_0 with hva_ hvn_ hvc_
    rw [hva_] at ge200_0
    rw [hvc_] at ul200_0
    have HL200_0 := aS_ (show Kd.V k93 93 _ w.heap.size _ _ ((rd_T67 l1 x6_1).f0) from Kd.V_mk ul200_0 ge200_0)
    clear hva_ hvn_ hvc_ ge200_0 ul200_0
    clear hcc200 hce200
    have HR200_0 := Aside0.mk hi200_0
    have HC200_0 := Aside0.mk hl200_0
    clear hi200_0 hl200_0
    replace p200 := eq_true p200
    replace q200 := eq_true q200
    go_wp2
    go_roundg k1
    case measure => have := HK1.out; omega
    case rel => exact ⟨(wrap64 (x6_1 + 1)), (by first | rfl | simp [*]), (by first | rfl | simp [*]), H', ⟨by have := HK1.out; omega⟩, ⟨by (with_reducible repeat (first | apply Kd.V_alloc | apply Kd.V_drewN | apply Kd.V_drew)); exact HO_1.out⟩, ⟨bel_ HB.out⟩⟩
   ·rw [if_neg c4] at H
    have c4b0 := decide_eq_false c4
    clear c4
    obtain rfl := Option.some.inj H
    go_wp2
    go_ret
    exact ⟨_, by first | rfl | (simp [*, errW_none, errW_some] <;> rfl), by (with_reducible repeat (first | apply Kd.V_alloc | apply Kd.V_drewN | apply Kd.V_drew)); exact HO_1.out, bel_ HB.out⟩
def p_MatchMain.f (a0 : Nat) (a1 : ByteArray) (a2 : ByteArray) (a3 : Int) : Option (Int) := (math_Min.f (Value.float .f64 (FloatKind.f64.nearest a3)) (Value.float .f64 (FloatKind.f64.nearest (a1.size : Int)))).bind fun t211 => ((math_Max.f (Value.float .f64 0) t211).bind fun t212 => (if f2iOk t212 = true then (if a1.toList = a2.toList then (none) else (if (a1.size : Int) = 0 then (none) else (if (wrap64 ((f2i t212) + (a2.size : Int))) ≤ (a1.size : Int) then (if 0 ≤ (f2i t212) then (if (f2i t212) ≤ (wrap64 ((f2i t212) + (a2.size : Int))) then (if (a1.extract ((f2i t212) : Int).toNat ((wrap64 ((f2i t212) + (a2.size : Int))) : Int).toNat).toList = a2.toList then (some (f2i t212)) else (none)) else (none)) else (none)) else (none)))) else (none)))
theorem p_MatchMain.calls (a0 : Nat) (a1 : ByteArray) (a2 : ByteArray) (a3 : Int) (r : Int) (w : World) (hd0 : DmpAt w a0) (h : p_MatchMain.f a0 a1 a2 a3 = some r) :
  Calls Tryz.prog 58 #[.pointer (some ⟨a0, 0, none⟩), .string a1, .string a2, .int .i64 a3] w fun e w' => e = .returned (.int .i64 r) ∧ Drawn0 w w' := by
 have HD0 := Aside0.mk hd0
 clear hd0
 have H : ((math_Min.f (Value.float .f64 (FloatKind.f64.nearest a3)) (Value.float .f64 (FloatKind.f64.nearest (a1.size : Int)))).bind fun t211 => ((math_Max.f (Value.float .f64 0) t211).bind fun t212 => (if f2iOk t212 = true then (if a1.toList = a2.toList then (none) else (if (a1.size : Int) = 0 then (none) else (if (wrap64 ((f2i t212) + (a2.size : Int))) ≤ (a1.size : Int) then (if 0 ≤ (f2i t212) then (if (f2i t212) ≤ (wrap64 ((f2i t212) + (a2.size : Int))) then (if (a1.extract ((f2i t212) : Int).toNat ((wrap64 ((f2i t212) + (a2.size : Int))) : Int).toNat).toList = a2.toList then (some (f2i t212)) else (none)) else (none)) else (none)) else (none)))) else (none)))) = some r := h
 clear h
 replace H := Option.bind_eq_some_iff.mp H
 obtain ⟨t211, A50, H⟩ := H
 try dsimp only at H
 have A5 := Aside0.mk A50
 clear A50
 replace H := Option.bind_eq_some_iff.mp H
 obtain ⟨t212, A60, H⟩ := H
 try dsimp only at H
 have A6 := Aside0.mk A60
 clear A60
 replace H := yes_ H; obtain ⟨c7, H⟩ := H
 have c7b1 := decide_eq_true c7
 clear c7
 by_cases c8 : a1.toList = a2.toList
 ·rw [if_pos c8] at H
  exact absurd H (by simp)
 ·rw [if_neg c8] at H
  have c8b0 := beq_eq_false_iff_ne.mpr c8
  have c8b1 := bne_iff_ne.mpr c8
  by_cases c9 : (a1.size : Int) = 0
  ·rw [if_pos c9] at H
   exact absurd H (by simp)
  ·rw [if_neg c9] at H
   have c9b0 := beq_eq_false_iff_ne.mpr c9
   have c9b1 := bne_iff_ne.mpr c9
   replace H := yes_ H; obtain ⟨c10, H⟩ := H
   have c10b0 := decide_eq_true c10
   clear c10
   replace H := yes_ H; obtain ⟨c11, H⟩ := H
   have c11b0 := eq_true c11
   have c11b1 := decide_eq_true c11
   clear c11
   replace H := yes_ H; obtain ⟨c12, H⟩ := H
   have c12b0 := eq_true c12
   have c12b1 := decide_eq_true c12
   have c13b0 := eq_true (of_decide_eq_true (by assumption) : (wrap64 ((f2i t212) + (a2.size : Int))) ≤ (a1.size : Int))
   replace H := yes_ H; obtain ⟨c14, H⟩ := H
   have c14b0 := beq_iff_eq.mpr c14
   have c14b1 := bne_eq_false_iff_eq.mpr c14
   clear c14
   obtain rfl := Option.some.inj H
   have hffi15 := run_i2f (P := Tryz.prog) Tryz.underlying3 Tryz.underlying48
   have hffi16 := run_i2f (P := Tryz.prog) Tryz.underlying3 Tryz.underlying48
   go_enter Tryz.func58, Tryz.ntmps58
   go_wp2_with (first | ((with_reducible refine gate_callee (f := 59) rfl ?_); refine goesL_ (some 14) rfl rfl Tryz.func59 (by kernel_rfl) rfl #[(Value.float .f64 (FloatKind.f64.nearest a3)), (Value.float .f64 (FloatKind.f64.nearest (a1.size : Int)))] rfl (by (try simp only [List.map_toArray, List.map_cons, List.map_nil]); first | done | rfl | (simp only [List.length_drop, List.length_take]; rfl)) ?_; (with_reducible refine (math_Min.calls (Value.float .f64 (FloatKind.f64.nearest a3)) (Value.float .f64 (FloatKind.f64.nearest (a1.size : Int))) t211 _ A5.out).mono ?_); rintro e w' ⟨rfl, ⟨nd, rfl⟩⟩; refine ⟨_, rfl, ?_⟩) | ((with_reducible refine gate_callee (f := 83) rfl ?_); refine goesL_ (some 15) rfl rfl Tryz.func83 (by kernel_rfl) rfl #[(Value.float .f64 0), t211] rfl (by (try simp only [List.map_toArray, List.map_cons, List.map_nil]); first | done | rfl | (simp only [List.length_drop, List.length_take]; rfl)) ?_; (with_reducible refine (math_Max.calls (Value.float .f64 0) t211 t212 _ A6.out).mono ?_); rintro e w' ⟨rfl, ⟨nd, rfl⟩⟩; refine ⟨_, rfl, ?_⟩; have hffi17 := run_f2i (P := Tryz.prog) Tryz.underlying48 Tryz.underlying3 (x := t212) (of_decide_eq_true (by assumption))))
   go_ret
   exact ⟨by first | rfl | (simp; done) | (simp [*]; done), by repeat (first | exact Drawn0.refl _ | apply Drawn0.step)⟩
def p_PatchApply.l0 : Nat → Nat → ByteArray → ByteArray → Int → Int → List Bool → List (S67) → Int → Int → Option (ByteArray × List Bool)
 | 0, _, _, _, _, _, _, _, _, _ => none
 | k + 1, x0, x2, x8, x9, x10, x11, x47, x48, x49 => if x49 < x48 then (if 0 ≤ x49 then (if x49 < (x47.length : Int) then ((p_DiffText1.f k x0 ((rd_T67 x47 x49).f0)).bind fun t595 => (if (t595.size : Int) > 32 then (none) else ((p_MatchMain.f x0 x2 t595 (wrap64 (((rd_T67 x47 x49).f2) + x10))).bind fun t596 => (if t596 = (-1) then (none) else (if 0 ≤ x9 then (if x9 < (x11.length : Int) then (if (-1) = (-1) then ((math_Min.f (Value.float .f64 (FloatKind.f64.nearest (wrap64 (t596 + (t595.size : Int))))) (Value.float .f64 (FloatKind.f64.nearest (x2.size : Int)))).bind fun t598 => (if f2iOk t598 = true then (if 0 ≤ t596 then (if t596 ≤ (f2i t598) then (if (f2i t598) ≤ (x2.size : Int) then (if t595.toList = (x2.extract (t596 : Int).toNat ((f2i t598) : Int).toNat).toList then (if t596 ≤ (x2.size : Int) then ((p_DiffText2.f k x0 ((rd_T67 x47 x49).f0)).bind fun t599 => (if (x2.extract 0 (t596 : Int).toNat).size + t599.size ≤ 9223372036854775807 then (if 0 ≤ (wrap64 (t596 + (t595.size : Int))) then (if (wrap64 (t596 + (t595.size : Int))) ≤ (x2.size : Int) then (if ((x2.extract 0 (t596 : Int).toNat) ++ t599).size + (x2.extract ((wrap64 (t596 + (t595.size : Int))) : Int).toNat x2.size).size ≤ 9223372036854775807 then (p_PatchApply.l0 k x0 (((x2.extract 0 (t596 : Int).toNat) ++ t599) ++ (x2.extract ((wrap64 (t596 + (t595.size : Int))) : Int).toNat x2.size)) x8 (wrap64 (x9 + 1)) (wrap64 (t596 - (wrap64 (((rd_T67 x47 x49).f2) + x10)))) (x11.set (x9 : Int).toNat true) x47 x48 (wrap64 (x49 + 1))) else (none)) else (none)) else (none)) else (none))) else (none)) else (none)) else (none)) else (none)) else (none)) else (none))) else (none)) else (none)) else (none)))))) else (none)) else (none)) else (if 0 ≤ (x8.size : Int) then (if (x8.size : Int) ≤ (wrap64 ((x8.size : Int) + (wrap64 ((x2.size : Int) - (wrap64 (2 * (x8.size : Int))))))) then (if (wrap64 ((x8.size : Int) + (wrap64 ((x2.size : Int) - (wrap64 (2 * (x8.size : Int))))))) ≤ (x2.size : Int) then (some (x2.extract x8.size ((wrap64 ((x8.size : Int) + (wrap64 ((x2.size : Int) - (wrap64 (2 * (x8.size : Int))))))) : Int).toNat, x11)) else (none)) else (none)) else (none))
def p_PatchApply.f (k : Nat) (a0 : Nat) (l1 : List (S67)) (a2 : ByteArray) : Option (ByteArray × List Bool) := if (l1.length : Int) = 0 then (none) else ((p_PatchDeepCopy.f k a0 l1).bind fun t583 => ((padf t583).bind fun (t586, t583b) => (if t586.size + a2.size ≤ 9223372036854775807 then (if (t586 ++ a2).size + t586.size ≤ 9223372036854775807 then ((p_PatchSplitMax.f k a0 t583b).bind fun t587 => (if 0 ≤ (t587.length : Int) then (if ((t587.length : Int) : Int).toNat ≤ 281474976710656 then (p_PatchApply.l0 k a0 ((t586 ++ a2) ++ t586) t586 0 0 (List.replicate ((t587.length : Int) : Int).toNat false) t587 (t587.length : Int) 0) else (none)) else (none))) else (none)) else (none))))
def p_PatchApply.T34 : Bool × List (List Nat × List Nat) := (true, [([], []), ([], []), ([0, 1], [0, 1]), ([], []), ([], []), ([4], [4]), ([3, 5], [3, 5]), ([2, 6], [2, 6]), ([], []), ([], []), ([], []), ([10], [10]), ([9, 11], [9, 11]), ([8, 12], [8, 12]), ([7, 13], [7, 13]), ([14, 6, 0, 1, 2, 3, 4, 5, 6, 7, 8, 9, 10, 11, 12, 13, 14], [0, 8, 14])])
def p_PatchApply.B34 : List Nat := [0, 0, 3, 0, 0, 16, 56, 127, 0, 0, 0, 1024, 3584, 7936, 16383, 32767]
theorem p_PatchApply.tab34 : rtab .any (opsOf Tryz.f34 34) = p_PatchApply.T34 := by kernel_rfl
theorem p_PatchApply.bits34 : waitsOk p_PatchApply.T34.2 p_PatchApply.B34 = true := by kernel_rfl
theorem p_PatchApply.calls (k : Nat) (a0 : Nat) (A1 : Option Addr) (c1 : Nat) (l1 : List (S67)) (a2 : ByteArray) (r1 : ByteArray) (r2 : List Bool) (w : World) (hd0 : DmpAt w a0) (hr1 : Kd.C k67 w A1 l1.length l1) (hc1 : l1.length ≤ c1) (h : p_PatchApply.f k a0 l1 a2 = some (r1, r2)) :
  Calls Tryz.prog 34 #[.pointer (some ⟨a0, 0, none⟩), .slice A1 l1.length c1, .string a2] w fun e w' => ∃ v1_ : Value, e = .returned (.tuple #[.string r1, v1_]) ∧ Kd.R Kd.bool 4 w' w.heap.size (fun _ => True) v1_ r2 ∧ Below w.heap.size w w' := by
 have hu67 := Tryz.underlying67
 have HD0 := Aside0.mk hd0
 clear hd0
 have HR1 := Aside0.mk hr1
 have HC1 := Aside0.mk hc1
 clear hr1 hc1
 have HB := aS_ (Below.refl w.heap.size w)
 have H : (if (l1.length : Int) = 0 then (none) else ((p_PatchDeepCopy.f k a0 l1).bind fun t583 => ((padf t583).bind fun (t586, t583b) => (if t586.size + a2.size ≤ 9223372036854775807 then (if (t586 ++ a2).size + t586.size ≤ 9223372036854775807 then ((p_PatchSplitMax.f k a0 t583b).bind fun t587 => (if 0 ≤ (t587.length : Int) then (if ((t587.length : Int) : Int).toNat ≤ 281474976710656 then (p_PatchApply.l0 k a0 ((t586 ++ a2) ++ t586) t586 0 0 (List.replicate ((t587.length : Int) : Int).toNat false) t587 (t587.length : Int) 0) else (none)) else (none))) else (none)) else (none))))) = some (r1, r2) := h
 clear h
 by_cases c4 : (l1.length : Int) = 0
 ·rw [if_pos c4] at H
  exact absurd H (by simp)
 ·rw [if_neg c4] at H
  have c4b0 := beq_eq_false_iff_ne.mpr c4
  have c4b1 := bne_iff_ne.mpr c4
  have c4b2 : ¬ (l1 = []) := fun h_ => c4 (by rw [h_]; rfl)
  replace H := Option.bind_eq_some_iff.mp H
  obtain ⟨t583, A50, H⟩ := H
  try dsimp only at H
  have A5 := Aside0.mk A50
  clear A50
  replace H := Option.bind_eq_some_iff.mp H
  obtain ⟨⟨t586, t583b⟩, A60, H⟩ := H
  try dsimp only at H
  have A6 := Aside0.mk A60
  clear A60
  replace H := yes_ H; obtain ⟨c7, H⟩ := H
  have c7b0 := eq_true c7
  have c7b1 := decide_eq_true c7
  try have c7b2 : (9223372036854775807 < t586.size + a2.size) = False := eq_false (Nat.not_lt.2 c7)
  replace H := yes_ H; obtain ⟨c8, H⟩ := H
  have c8b0 := eq_true c8
  have c8b1 := decide_eq_true c8
  try have c8b2 : (9223372036854775807 < (t586 ++ a2).size + t586.size) = False := eq_false (Nat.not_lt.2 c8)
  try have c8b3 : (9223372036854775807 < t586.size + a2.size + t586.size) = False := eq_false (Nat.not_lt.2 (by have h_ := c8; simp only [ByteArray.size_append] at h_; exact h_))
  try have c8b4 : decide (t586.size + a2.size + t586.size ≤ 9223372036854775807) = true := decide_eq_true (by have h_ := c8; simp only [ByteArray.size_append] at h_; exact h_)
  replace H := Option.bind_eq_some_iff.mp H
  obtain ⟨t587, A90, H⟩ := H
  try dsimp only at H
  have A9 := Aside0.mk A90
  clear A90
  replace H := yes_ H; obtain ⟨c10, H⟩ := H
  have c10b0 := eq_true c10
  have c10b1 := decide_eq_true c10
  clear c10
  replace H := yes_ H; obtain ⟨c11, H⟩ := H
  have c11b0 := eq_true c11
  have c11b1 := decide_eq_true c11
  clear c11
  obtain ⟨y590, hy590⟩ : ∃ y_ : List Bool, y_ = (List.replicate ((t587.length : Int) : Int).toNat false) := ⟨_, rfl⟩
  replace H : (p_PatchApply.l0 k a0 ((t586 ++ a2) ++ t586) t586 0 0 y590 t587 (t587.length : Int) 0) = some (r1, r2) := by first | (rw [hy590]; with_reducible exact H) | (have H2_ := (Option.bind_some _ _).symm.trans H; rw [hy590]; with_reducible exact H2_) | (have H2_ := (Option.bind_some _ _).symm.trans H; with_reducible exact H2_) | with_reducible exact H | (rw [hy590]; exact H) | exact H
  have Ny590 := Aside0.mk hy590
  clear hy590
  have H' := Aside0.mk H
  clear H
  go_enter Tryz.func34, Tryz.ntmps34
  go_wp2_with (first | (go_at_call 29; (with_reducible refine (p_PatchDeepCopy.calls k a0 _ _ l1 t583 _ ?side1 ?side2 ?side3 A5.out).mono ?_); (case side1 => exact dmp_below HD0.out (bel_ HB.out)); (case side2 => exact Kd.C_st HR1.out); (case side3 => exact HC1.out); rintro e w12 ⟨v584, rfl, ho0, hb⟩; have HO585 := aS_ (Kd.S_R (Kd.S_lower ho0 (bz_ (bel_ HB.out)))); replace HB := aS_ (bt_ (bel_ HB.out) hb); obtain ⟨Ao13, co13, eo13⟩ := Kd.R_slice HO585.out; subst eo13) | (go_at_call 55; (refine (pad_f a0 w _ _ _ _ _ _ (dmp_below HD0.out (bel_ HB.out)) (bel_ HB.out) (Kd.R_st HO585.out) A6.out).mono ?_); rintro e w14 ⟨rfl, ho0, hb⟩; clear HO585; clear HB; have HO585 := Aside0.mk ho0; have HB := Aside0.mk hb; clear ho0 hb) | (go_at_call 56; rw [show t583.length = t583b.length from padf_len A6.out]; (with_reducible refine (p_PatchSplitMax.calls k a0 (fun k_ => True) _ _ t583b t587 _ ?side1 ?side2 A9.out).mono ?_); (case side1 => exact dmp_below HD0.out (bel_ HB.out)); (case side2 => rw [show t583.length = t583b.length from padf_len A6.out] at HO585; exact Kd.R_V (HO585.out)); rintro e w15 ⟨v588, rfl, ho0, hb⟩; replace HO585 := aS_ (Kd.R_below (Kd.R_st HO585.out) hb); have HO589 := aS_ (Kd.V_lower (Kd.V_mono (ok' := fun k_ => True) ho0 (fun k_ hk_ => trivial)) (bz_ (bel_ HB.out))); replace HB := aS_ (bt_ (bel_ HB.out) hb); obtain ⟨Ao16, co16, eo16⟩ := Kd.V_slice HO589.out; subst eo16) | ((with_reducible refine gate_dst (N := 46) rfl ?_); refine Kd.R_make Kd.bool _ 4 rfl (N := 46) rfl 45 _ _ rfl (t587.length : Int) rfl rfl Tryz.underlying45 (.bool false) 1 info4 rfl (by decide) (by omega) false (ok := fun _ => True) (okp := fun _ => True) rfl (fun _ hk => hk) trivial (of_decide_eq_true (by assumption)) (Nat.le_trans (Nat.mul_le_mul_right _ (of_decide_eq_true (by assumption) : (t587.length : Int).toNat ≤ 281474976710656)) (by omega)) (Below.refl _ _) (Nat.le_refl _) ?_; intro v591 w17 ho18 hb hg_ hnew_; clear hg_ hnew_; (first | rw [← Ny590.out] at ho18 | (simp only [Int.reduceToNat] at ho18; rw [← Ny590.out] at ho18)); replace HO585 := aS_ (Kd.R_below (Kd.R_st HO585.out) hb); replace HO589 := aS_ (Kd.V_elder' (by (with_reducible repeat (first | apply Kd.V_alloc | apply Kd.V_drewN | apply Kd.V_drew)); exact HO589.out) (Kd.R_base ho18) hb); have HO592 := aS_ (Kd.R_lower ho18 (bz_ (bel_ HB.out))); replace HB := aS_ (bt_ (bel_ HB.out) hb); clear hb ho18))
  go_loopg [2, 9, 10, 49] k (fun kq v2 v9 v10 v49 w' => ∃ (x2_1 : ByteArray) (x9_1 : Int) (x10_1 : Int) (x11_1 : List Bool) (x49_1 : Int), v2 = .string x2_1 ∧ v9 = .int .i64 x9_1 ∧ v10 = .int .i64 x10_1 ∧ v49 = .int .i64 x49_1 ∧ Aside0 (p_PatchApply.l0 kq a0 x2_1 t586 x9_1 x10_1 x11_1 t587 (t587.length : Int) x49_1 = some (r1, r2)) ∧ Aside0 (kq ≤ k) ∧ Aside0 (Kd.R Kd.bool 4 w' w.heap.size (fun _ => True) v591 x11_1) ∧ Aside0 (Kd.V k67 67 w' w.heap.size (fun k_ => some k_ ≠ (v591 : Value).ownBlock) (.slice Ao16 t587.length co16) t587) ∧ Aside0 (Below w.heap.size w w'))
  case atStart => exact ⟨((t586 ++ a2) ++ t586), (0), (0), (y590), (0), (by first | rfl | simp [*]), (by first | rfl | simp [*]), (by first | rfl | simp [*]), (by first | rfl | simp [*]), H', ⟨Nat.le_refl _⟩, ⟨Kd.R_st HO592.out⟩, ⟨by (with_reducible repeat (first | apply Kd.V_alloc | apply Kd.V_drewN | apply Kd.V_drew)); exact Kd.V_mono HO589.out (fun _ hk => hk.2)⟩, ⟨bel_ HB.out⟩⟩
  case round =>
   clear H'
   obtain ⟨x2_1, x9_1, x10_1, x11_1, x49_1, rfl, rfl, rfl, rfl, HA, HK1, HO_11, HO_47, HB⟩ := hrel
   cases gk with
   | zero => exact absurd HA.out (by simp [p_PatchApply.l0])
   | succ k1 =>
    have H := HA.out; clear HA
    simp only [p_PatchApply.l0] at H
    by_cases c19 : x49_1 < (t587.length : Int)
    ·rw [if_pos c19] at H
     have c19b0 := decide_eq_true c19
     clear c19
     replace H := yes_ H; obtain ⟨c20, H⟩ := H
     have c20b0 := decide_eq_true c20
     clear c20
     replace H := yes_ H; obtain ⟨c21, H⟩ := H
     have c21b0 := decide_eq_true c21
     clear c21
     replace H := Option.bind_eq_some_iff.mp H
     obtain ⟨t595, A220, H⟩ := H
     try dsimp only at H
     have A22 := Aside0.mk A220
     clear A220
     by_cases c23 : (t595.size : Int) > 32
     ·rw [if_pos c23] at H
      exact absurd H (by simp)
     ·rw [if_neg c23] at H
      have c23b0 : decide (32 < (t595.size : Int)) = false := decide_eq_false c23
      have c23b1 : decide (32 < t595.size) = false := decide_eq_false (by omega)
      clear c23
      replace H := Option.bind_eq_some_iff.mp H
      obtain ⟨t596, A240, H⟩ := H
      try dsimp only at H
      have A24 := Aside0.mk A240
      clear A240
      by_cases c25 : t596 = (-1)
      ·rw [if_pos c25] at H
       exact absurd H (by simp)
      ·rw [if_neg c25] at H
       have c25b0 := beq_eq_false_iff_ne.mpr c25
       have c25b1 := bne_iff_ne.mpr c25
       replace H := yes_ H; obtain ⟨c26, H⟩ := H
       have c26b0 := decide_eq_true c26
       clear c26
       replace H := yes_ H; obtain ⟨c27, H⟩ := H
       have c27b0 := decide_eq_true c27
       clear c27
       obtain ⟨y597, hy597⟩ : ∃ y_ : List Bool, y_ = (x11_1.set (x9_1 : Int).toNat true) := ⟨_, rfl⟩
       replace H : (if (-1) = (-1) then ((math_Min.f (Value.float .f64 (FloatKind.f64.nearest (wrap64 (t596 + (t595.size : Int))))) (Value.float .f64 (FloatKind.f64.nearest (x2_1.size : Int)))).bind fun t598 => (if f2iOk t598 = true then (if 0 ≤ t596 then (if t596 ≤ (f2i t598) then (if (f2i t598) ≤ (x2_1.size : Int) then (if t595.toList = (x2_1.extract (t596 : Int).toNat ((f2i t598) : Int).toNat).toList then (if t596 ≤ (x2_1.size : Int) then ((p_DiffText2.f k1 a0 ((rd_T67 t587 x49_1).f0)).bind fun t599 => (if (x2_1.extract 0 (t596 : Int).toNat).size + t599.size ≤ 9223372036854775807 then (if 0 ≤ (wrap64 (t596 + (t595.size : Int))) then (if (wrap64 (t596 + (t595.size : Int))) ≤ (x2_1.size : Int) then (if ((x2_1.extract 0 (t596 : Int).toNat) ++ t599).size + (x2_1.extract ((wrap64 (t596 + (t595.size : Int))) : Int).toNat x2_1.size).size ≤ 9223372036854775807 then (p_PatchApply.l0 k1 a0 (((x2_1.extract 0 (t596 : Int).toNat) ++ t599) ++ (x2_1.extract ((wrap64 (t596 + (t595.size : Int))) : Int).toNat x2_1.size)) t586 (wrap64 (x9_1 + 1)) (wrap64 (t596 - (wrap64 (((rd_T67 t587 x49_1).f2) + x10_1)))) y597 t587 (t587.length : Int) (wrap64 (x49_1 + 1))) else (none)) else (none)) else (none)) else (none))) else (none)) else (none)) else (none)) else (none)) else (none)) else (none))) else (none)) = some (r1, r2) := by first | (rw [hy597]; with_reducible exact H) | (have H2_ := (Option.bind_some _ _).symm.trans H; rw [hy597]; with_reducible exact H2_) | (have H2_ := (Option.bind_some _ _).symm.trans H; with_reducible exact H2_) | with_reducible exact H | (rw [hy597]; exact H) | exact H
       have Ny597 := Aside0.mk hy597
       clear hy597
       replace H := yes_ H; obtain ⟨c29, H⟩ := H
       have c29b0 := beq_iff_eq.mpr c29
       have c29b1 := bne_eq_false_iff_eq.mpr c29
       clear c29
       replace H := Option.bind_eq_some_iff.mp H
       obtain ⟨t598, A300, H⟩ := H
       try dsimp only at H
       have A30 := Aside0.mk A300
       clear A300
       replace H := yes_ H; obtain ⟨c31, H⟩ := H
       have c31b1 := decide_eq_true c31
       clear c31
       replace H := yes_ H; obtain ⟨c32, H⟩ := H
       have c32b0 := eq_true c32
       have c32b1 := decide_eq_true c32
       clear c32
       replace H := yes_ H; obtain ⟨c33, H⟩ := H
       have c33b0 := eq_true c33
       have c33b1 := decide_eq_true c33
       clear c33
       replace H := yes_ H; obtain ⟨c34, H⟩ := H
       have c34b0 := eq_true c34
       have c34b1 := decide_eq_true c34
       clear c34
       replace H := yes_ H; obtain ⟨c35, H⟩ := H
       have c35b0 := beq_iff_eq.mpr c35
       have c35b1 := bne_eq_false_iff_eq.mpr c35
       clear c35
       have c36b0 := eq_true (of_decide_eq_true (by assumption) : 0 ≤ t596)
       replace H := yes_ H; obtain ⟨c37, H⟩ := H
       have c37b0 := eq_true c37
       have c37b1 := decide_eq_true c37
       clear c37
       replace H := Option.bind_eq_some_iff.mp H
       obtain ⟨t599, A380, H⟩ := H
       try dsimp only at H
       have A38 := Aside0.mk A380
       clear A380
       replace H := yes_ H; obtain ⟨c39, H⟩ := H
       have c39b0 := eq_true c39
       have c39b1 := decide_eq_true c39
       try have c39b2 : (9223372036854775807 < (x2_1.extract 0 (t596 : Int).toNat).size + t599.size) = False := eq_false (Nat.not_lt.2 c39)
       have hse_ : (x2_1.extract 0 (t596 : Int).toNat).size = t596.toNat := by (have h1_ : t596 ≤ (x2_1.size : Int) := (of_decide_eq_true (by assumption)); rw [ByteArray.size_extract]; omega)
       have c39s : (9223372036854775807 < t596.toNat + t599.size) = False := eq_false (by have h_ := c39; rw [hse_] at h_; omega)
       obtain ⟨ji40, hji40⟩ : ∃ j_ : Int, (wrap64 (t596 + (t595.size : Int))) = j_ := ⟨_, rfl⟩
       first | rw [hji40] at H | simp only [hji40] at H
       (try rw [hji40] at A22)
       (try rw [hji40] at A24)
       (try rw [hji40] at A30)
       (try rw [hji40] at A38)
       have hji40w : (IntKind.i64.wrap (t596 + (t595.size : Int))) = ji40 := (i64_w _).trans hji40
       replace H := yes_ H; obtain ⟨c41, H⟩ := H
       have c41b0 := eq_true c41
       have c41b1 := decide_eq_true c41
       clear c41
       replace H := yes_ H; obtain ⟨c42, H⟩ := H
       have c42b0 := eq_true c42
       have c42b1 := decide_eq_true c42
       clear c42
       replace H := yes_ H; obtain ⟨c43, H⟩ := H
       have c43b0 := eq_true c43
       have c43b1 := decide_eq_true c43
       try have c43b2 : (9223372036854775807 < ((x2_1.extract 0 (t596 : Int).toNat) ++ t599).size + (x2_1.extract ((ji40) : Int).toNat x2_1.size).size) = False := eq_false (Nat.not_lt.2 c43)
       have c43s : (9223372036854775807 < t596.toNat + t599.size + (x2_1.size - ji40.toNat)) = False := eq_false (by have h_ := c43; rw [ByteArray.size_append, hse_, ByteArray.size_extract] at h_; simp only [Nat.min_self] at h_; omega)
       clear hse_
       have H' := Aside0.mk H
       clear H
       have p593 : 0 ≤ (x49_1 : Int) := of_decide_eq_true (by assumption)
       have q593 : x49_1 < (t587.length : Int) := of_decide_eq_true (by assumption)
       obtain ⟨ad593, A593_0, c593_0, e593, hx593_0, hx593_1, hx593_2, hx593_3, hx593_4, hl593_0, hi593_0⟩ := at_T67 (Kd.V_reads' HO_47.out).2.2 x49_1 p593 q593
       cases e593
       obtain ⟨ce593, hce593, hMe593, hcc593⟩ := Kd.V_get HO_47.out z67 x49_1 p593 (by first | exact q593 | exact of_decide_eq_true (by assumption) | (have e_ := (Kd.V_reads' HO_47.out).1; omega))
       obtain ⟨ua593_0, uc593_0, rfl, ul593_0, ge593_0⟩ := k67_openF hMe593
       have hv593_0 := hcc593 0 _ rfl
       rw [Nat.add_zero] at hv593_0
       replace hv593_0 := Option.some.inj (hv593_0.symm.trans hx593_0)
       injection hv593_0 with hva_ hvn_ hvc_
       rw [hva_] at ge593_0
       rw [hvc_] at ul593_0
       have HL593_0 := aS_ (show Kd.V k93 93 _ w.heap.size _ _ ((rd_T67 t587 x49_1).f0) from Kd.V_mk ul593_0 ge593_0)
       clear hva_ hvn_ hvc_ ge593_0 ul593_0
       clear hcc593 hce593
       have HR593_0 := Aside0.mk hi593_0
       have HC593_0 := Aside0.mk hl593_0
       clear hi593_0 hl593_0
       replace p593 := eq_true p593
       replace q593 := eq_true q593
       try go_wp2_with (first | ((with_reducible refine gate_dst (N := 13) rfl ?_); refine box_event ?hg (N := 13) ?hd (cs := #[.slice none 0 0, .int .i64 0, .int .i64 0, .int .i64 0, .int .i64 0]) (t := 67) ?hr ?_; (case hd => rfl); (case hg => rfl); (case hr => first | (go_simp; done) | (go_simp; rfl)); intro gb594 hg w44 hbox hb; replace HO_11 := aS_ (Kd.R_below (Kd.R_st HO_11.out) hb); replace HO_47 := aS_ (Kd.V_below (Kd.V_elderB (by (with_reducible repeat (first | apply Kd.V_alloc | apply Kd.V_drewN | apply Kd.V_drew)); exact HO_47.out) gb594 (Nat.le_of_eq hg.symm)) hb); replace HL593_0 := aS_ (Kd.V_below (Kd.V_elderB (by (with_reducible repeat (first | apply Kd.V_alloc | apply Kd.V_drewN | apply Kd.V_drew)); exact HL593_0.out) gb594 (Nat.le_of_eq hg.symm)) hb); replace HR593_0 := aS_ (Kd.C_below (Kd.C_st HR593_0.out) hb); have BK594 := aS_ (hbox); have GW594 := aS_ ((by rw [hg]; exact (bz_ (bel_ HB.out)) : w.heap.size ≤ gb594)); have GE594 := aS_ ((by rw [hg]; exact (bz_ (bel_ HB.out)) : w.heap.size ≤ gb594)); replace HB := aS_ (bt_ (bel_ HB.out) hb); clear hb hbox hg; obtain ⟨hcz45_0, hcz45_1, hcz45_2, hcz45_3, hcz45_4, hfz45_0, hfz45_1, hfz45_2, hfz45_3, hfz45_4⟩ := blk5 BK594.out) | (go_at_call 57; (with_reducible refine (p_DiffText1.calls k1 a0 _ _ ((rd_T67 t587 x49_1).f0) t595 _ ?side1 ?side2 ?side3 A22.out).mono ?_); (case side1 => exact dmp_below HD0.out (by with_reducible repeat first | exact HB.out | apply bA_ | apply bN_ | apply bD_ | refine bS_ ?_ GE594.out)); (case side2 => repeat (first | exact ((Kd.V_reads' (by (with_reducible repeat (first | apply Kd.V_alloc | apply Kd.V_drewN | apply Kd.V_drew)); exact (Kd.V_mono (Kd.V_far (p := ⟨gb594, 4, none⟩) (Kd.V_far (p := ⟨gb594, 3, none⟩) (Kd.V_far (p := ⟨gb594, 2, none⟩) (Kd.V_far (p := ⟨gb594, 1, none⟩) (Kd.V_far (p := ⟨gb594, 0, none⟩) (Kd.V_mono HL593_0.out (fun k_ hk => (⟨hk, hk.2⟩ : _ ∧ k_ ≠ gb594))) (fun _ hk => hk.2) (.slice A593_0 ((rd_T67 t587 x49_1).f0).length c593_0)) (fun _ hk => hk.2) (.int .i64 ((rd_T67 t587 x49_1).f1))) (fun _ hk => hk.2) (.int .i64 ((rd_T67 t587 x49_1).f2))) (fun _ hk => hk.2) (.int .i64 ((rd_T67 t587 x49_1).f3))) (fun _ hk => hk.2) (.int .i64 ((rd_T67 t587 x49_1).f4))) (fun _ h_ => h_.1)))).2.2) | (with_reducible refine Kd.C_alloc ?_ _) | (with_reducible refine Kd.C_drewN ?_ _) | (with_reducible refine Kd.C_drew ?_))); (case side3 => exact HC593_0.out); rintro e w46 ⟨rfl, hb⟩; replace HO_11 := aS_ (Kd.R_below (Kd.R_st ((Kd.R_mono (Kd.R_far (p := ⟨gb594, 4, none⟩) (Kd.R_far (p := ⟨gb594, 3, none⟩) (Kd.R_far (p := ⟨gb594, 2, none⟩) (Kd.R_far (p := ⟨gb594, 1, none⟩) (Kd.R_far (p := ⟨gb594, 0, none⟩) (Kd.R_types HO_11.out BK594.out (by decide)) (fun _ hk => hk.2) (.slice A593_0 ((rd_T67 t587 x49_1).f0).length c593_0)) (fun _ hk => hk.2) (.int .i64 ((rd_T67 t587 x49_1).f1))) (fun _ hk => hk.2) (.int .i64 ((rd_T67 t587 x49_1).f2))) (fun _ hk => hk.2) (.int .i64 ((rd_T67 t587 x49_1).f3))) (fun _ hk => hk.2) (.int .i64 ((rd_T67 t587 x49_1).f4))) (fun _ h_ => h_.1)))) hb); replace HO_47 := aS_ (Kd.V_below (by (with_reducible repeat (first | apply Kd.V_alloc | apply Kd.V_drewN | apply Kd.V_drew)); exact (Kd.V_mono (Kd.V_far (p := ⟨gb594, 4, none⟩) (Kd.V_far (p := ⟨gb594, 3, none⟩) (Kd.V_far (p := ⟨gb594, 2, none⟩) (Kd.V_far (p := ⟨gb594, 1, none⟩) (Kd.V_far (p := ⟨gb594, 0, none⟩) (Kd.V_mono HO_47.out (fun k_ hk => (⟨hk, hk.2⟩ : _ ∧ k_ ≠ gb594))) (fun _ hk => hk.2) (.slice A593_0 ((rd_T67 t587 x49_1).f0).length c593_0)) (fun _ hk => hk.2) (.int .i64 ((rd_T67 t587 x49_1).f1))) (fun _ hk => hk.2) (.int .i64 ((rd_T67 t587 x49_1).f2))) (fun _ hk => hk.2) (.int .i64 ((rd_T67 t587 x49_1).f3))) (fun _ hk => hk.2) (.int .i64 ((rd_T67 t587 x49_1).f4))) (fun _ h_ => h_.1))) hb); replace HR593_0 := aS_ (Kd.C_below ((Kd.V_reads' (by (with_reducible repeat (first | apply Kd.V_alloc | apply Kd.V_drewN | apply Kd.V_drew)); exact (Kd.V_mono (Kd.V_far (p := ⟨gb594, 4, none⟩) (Kd.V_far (p := ⟨gb594, 3, none⟩) (Kd.V_far (p := ⟨gb594, 2, none⟩) (Kd.V_far (p := ⟨gb594, 1, none⟩) (Kd.V_far (p := ⟨gb594, 0, none⟩) (Kd.V_mono HL593_0.out (fun k_ hk => (⟨hk, hk.2⟩ : _ ∧ k_ ≠ gb594))) (fun _ hk => hk.2) (.slice A593_0 ((rd_T67 t587 x49_1).f0).length c593_0)) (fun _ hk => hk.2) (.int .i64 ((rd_T67 t587 x49_1).f1))) (fun _ hk => hk.2) (.int .i64 ((rd_T67 t587 x49_1).f2))) (fun _ hk => hk.2) (.int .i64 ((rd_T67 t587 x49_1).f3))) (fun _ hk => hk.2) (.int .i64 ((rd_T67 t587 x49_1).f4))) (fun _ h_ => h_.1)))).2.2) hb); replace HL593_0 := aS_ (Kd.V_below (by (with_reducible repeat (first | apply Kd.V_alloc | apply Kd.V_drewN | apply Kd.V_drew)); exact (Kd.V_mono (Kd.V_far (p := ⟨gb594, 4, none⟩) (Kd.V_far (p := ⟨gb594, 3, none⟩) (Kd.V_far (p := ⟨gb594, 2, none⟩) (Kd.V_far (p := ⟨gb594, 1, none⟩) (Kd.V_far (p := ⟨gb594, 0, none⟩) (Kd.V_mono HL593_0.out (fun k_ hk => (⟨hk, hk.2⟩ : _ ∧ k_ ≠ gb594))) (fun _ hk => hk.2) (.slice A593_0 ((rd_T67 t587 x49_1).f0).length c593_0)) (fun _ hk => hk.2) (.int .i64 ((rd_T67 t587 x49_1).f1))) (fun _ hk => hk.2) (.int .i64 ((rd_T67 t587 x49_1).f2))) (fun _ hk => hk.2) (.int .i64 ((rd_T67 t587 x49_1).f3))) (fun _ hk => hk.2) (.int .i64 ((rd_T67 t587 x49_1).f4))) (fun _ h_ => h_.1))) hb); replace BK594 := aS_ (blk_below (g := gb594) (o := .cells #[.slice A593_0 ((rd_T67 t587 x49_1).f0).length c593_0, .int .i64 ((rd_T67 t587 x49_1).f1), .int .i64 ((rd_T67 t587 x49_1).f2), .int .i64 ((rd_T67 t587 x49_1).f3), .int .i64 ((rd_T67 t587 x49_1).f4)] 67 (0, 0)) (by (with_reducible repeat (first | refine kN_ ?_ _ | refine kD_ ?_ | refine kA_ ?_ _)); refine blk_put (cs := #[.slice A593_0 ((rd_T67 t587 x49_1).f0).length c593_0, .int .i64 ((rd_T67 t587 x49_1).f1), .int .i64 ((rd_T67 t587 x49_1).f2), .int .i64 ((rd_T67 t587 x49_1).f3), .int .i64 0]) ?_ 4 _ rfl; (with_reducible repeat (first | refine kN_ ?_ _ | refine kD_ ?_ | refine kA_ ?_ _)); refine blk_put (cs := #[.slice A593_0 ((rd_T67 t587 x49_1).f0).length c593_0, .int .i64 ((rd_T67 t587 x49_1).f1), .int .i64 ((rd_T67 t587 x49_1).f2), .int .i64 0, .int .i64 0]) ?_ 3 _ rfl; (with_reducible repeat (first | refine kN_ ?_ _ | refine kD_ ?_ | refine kA_ ?_ _)); refine blk_put (cs := #[.slice A593_0 ((rd_T67 t587 x49_1).f0).length c593_0, .int .i64 ((rd_T67 t587 x49_1).f1), .int .i64 0, .int .i64 0, .int .i64 0]) ?_ 2 _ rfl; (with_reducible repeat (first | refine kN_ ?_ _ | refine kD_ ?_ | refine kA_ ?_ _)); refine blk_put (cs := #[.slice A593_0 ((rd_T67 t587 x49_1).f0).length c593_0, .int .i64 0, .int .i64 0, .int .i64 0, .int .i64 0]) ?_ 1 _ rfl; (with_reducible repeat (first | refine kN_ ?_ _ | refine kD_ ?_ | refine kA_ ?_ _)); refine blk_put (cs := #[.slice none 0 0, .int .i64 0, .int .i64 0, .int .i64 0, .int .i64 0]) ?_ 0 _ rfl; (with_reducible repeat (first | refine kN_ ?_ _ | refine kD_ ?_ | refine kA_ ?_ _)); exact BK594.out) hb); replace HB := aS_ (bt_ (by with_reducible repeat first | exact HB.out | apply bA_ | apply bN_ | apply bD_ | refine bS_ ?_ GE594.out) hb); have hdm47 := dmp_cell5 (dmp_below HD0.out HB.out)) | ((with_reducible refine gate_callee (f := 58) rfl ?_); refine goesL_ (some 112) rfl rfl Tryz.func58 (by kernel_rfl) rfl #[.pointer (some ⟨a0, 0, none⟩), .string x2_1, .string t595, .int .i64 (wrap64 (((rd_T67 t587 x49_1).f2) + x10_1))] rfl (by (try simp only [List.map_toArray, List.map_cons, List.map_nil]); first | done | rfl | (simp only [List.length_drop, List.length_take]; rfl)) ?_; (with_reducible refine (p_MatchMain.calls a0 x2_1 t595 (wrap64 (((rd_T67 t587 x49_1).f2) + x10_1)) t596 _ ?side1 A24.out).mono ?_); (case side1 => exact dmp_below HD0.out (by with_reducible repeat first | exact HB.out | apply bA_ | apply bN_ | apply bD_ | refine bS_ ?_ GE594.out)); rintro e w' ⟨rfl, ⟨nd, rfl⟩⟩; refine ⟨_, rfl, ?_⟩; (try (rw [drewN_self w46]; generalize hq_ : World.drewN w46 _ = w46; have n0_ : Aside0 (Kd.V k93 93 w46 w.heap.size (fun k_ => some k_ ≠ (v591 : Value).ownBlock ∧ k_ ≠ gb594) (.slice A593_0 ((rd_T67 t587 x49_1).f0).length c593_0) ((rd_T67 t587 x49_1).f0)) := ⟨by rw [← hq_]; exact (by (with_reducible repeat (first | apply Kd.V_alloc | apply Kd.V_drewN | apply Kd.V_drew)); exact HL593_0.out)⟩; have n1_ : Aside0 (Kd.R Kd.bool 4 w46 w.heap.size (fun _ => True) v591 x11_1) := ⟨by rw [← hq_]; exact (Kd.R_st HO_11.out)⟩; have n2_ : Aside0 (Kd.V k67 67 w46 w.heap.size (fun k_ => some k_ ≠ (v591 : Value).ownBlock ∧ k_ ≠ gb594) (.slice (some ad593) t587.length co16) t587) := ⟨by rw [← hq_]; exact (by (with_reducible repeat (first | apply Kd.V_alloc | apply Kd.V_drewN | apply Kd.V_drew)); exact HO_47.out)⟩; have n3_ : Aside0 (w46.heap[gb594]? = some (.cells #[.slice A593_0 ((rd_T67 t587 x49_1).f0).length c593_0, .int .i64 ((rd_T67 t587 x49_1).f1), .int .i64 ((rd_T67 t587 x49_1).f2), .int .i64 ((rd_T67 t587 x49_1).f3), .int .i64 ((rd_T67 t587 x49_1).f4)] 67 (0, 0))) := ⟨by rw [← hq_]; exact (blk_st BK594.out)⟩; have n4_ : Aside0 (Below w.heap.size w w46) := ⟨by rw [← hq_]; exact (by with_reducible repeat first | exact HB.out | apply bA_ | apply bN_ | apply bD_ | refine bS_ ?_ GE594.out)⟩; have n5_ : Aside0 (Kd.C k93 w46 A593_0 ((rd_T67 t587 x49_1).f0).length ((rd_T67 t587 x49_1).f0)) := ⟨by rw [← hq_]; exact (Kd.C_st HR593_0.out)⟩; clear HL593_0 HO_11 HO_47 BK594 HB HR593_0 hq_; have HL593_0 := n0_; have HO_11 := n1_; have HO_47 := n2_; have BK594 := n3_; have HB := n4_; have HR593_0 := n5_; clear n0_ n1_ n2_ n3_ n4_ n5_)); have p28 : 0 ≤ (x9_1 : Int) := of_decide_eq_true (by assumption); have q28 : (x9_1 : Int) < ((x11_1.length : Int) : Int) := of_decide_eq_true (by assumption); obtain ⟨go28, co28, eo28, gb28, gl28, cl28, HG28⟩ := Kd.R_form HO_11.out (by omega); (first | cases eo28 | (injection eo28 with ea_ en_ ec_; (first | subst ea_ | (injection ea_ with ea_; subst ea_)); subst ec_; clear en_)); have GB28 := Aside0.mk gb28; have GG28 := Aside0.mk HG28; clear gb28 gl28 HG28; obtain ⟨hx28_0, hf28_0⟩ := Kd.R_celln false HO_11.out (x9_1 : Int) p28 q28; replace p28 := eq_true p28; replace q28 := eq_true q28; obtain ⟨hy48_, hz48_⟩ := Kd.R_celln false HO_11.out (x9_1 : Int) (of_decide_eq_true (by assumption)) (of_decide_eq_true (by assumption)); have HP48 := Kd.R_putg HO_11.out (x9_1 : Int) true) | ((with_reducible refine gate_store (t := 4) (p := 127) rfl ?_); refine store_event (t := 4) (p := 127) (v := ?vo_w49) (w1 := (w46.setCell ⟨go28, (x9_1 : Int).toNat, none⟩ (.bool true))) ?hg ?ho ?hn ?hr ?_; (case ho => rfl); (case hg => rfl); (case hn => rfl); (case hr => first | (go_simp; done) | (go_simp; rfl)); intro w49 hw; have hg : w46.grownBy w49 (some go28) := (by rw [hw]; exact HP48.2); have hp_ : Kd.R Kd.bool 4 w49 w.heap.size (fun _ => True) (.slice (some ⟨go28, 0, none⟩) x11_1.length co28) y597 := (by rw [hw, Ny597.out]; exact HP48.1); clear HP48; replace HO_47 := aS_ (Kd.V_afterv (v := (.slice (some ⟨go28, 0, none⟩) x11_1.length co28)) (v1 := (.slice (some ⟨go28, 0, none⟩) x11_1.length co28)) (ok := (fun k_ => k_ ≠ gb594)) (by (with_reducible repeat (first | apply Kd.V_alloc | apply Kd.V_drewN | apply Kd.V_drew)); exact Kd.V_mono HO_47.out (fun _ hk => ⟨hk.2, hk.1⟩)) hg (.inl rfl)); replace HL593_0 := aS_ (Kd.V_afterv (v := (.slice (some ⟨go28, 0, none⟩) x11_1.length co28)) (v1 := (.slice (some ⟨go28, 0, none⟩) x11_1.length co28)) (ok := (fun k_ => k_ ≠ gb594)) (by (with_reducible repeat (first | apply Kd.V_alloc | apply Kd.V_drewN | apply Kd.V_drew)); exact Kd.V_mono HL593_0.out (fun _ hk => ⟨hk.2, hk.1⟩)) hg (.inl rfl)); replace BK594 := aS_ (blk_grown (g := gb594) (o := .cells #[.slice A593_0 ((rd_T67 t587 x49_1).f0).length c593_0, .int .i64 ((rd_T67 t587 x49_1).f1), .int .i64 ((rd_T67 t587 x49_1).f2), .int .i64 ((rd_T67 t587 x49_1).f3), .int .i64 ((rd_T67 t587 x49_1).f4)] 67 (0, 0)) (blk_st BK594.out) hg (Kd.R_ne HO_11.out BK594.out (by decide))); replace HO_11 := aS_ (hp_); replace HB := aS_ ((by rw [hw]; exact bS_ (HB.out) GB28.out : Below w.heap.size w w49)); clear hg hw hp_; have hffi50 := run_i2f (P := Tryz.prog) Tryz.underlying3 Tryz.underlying48; have hffi51 := run_i2f (P := Tryz.prog) Tryz.underlying3 Tryz.underlying48) | ((with_reducible refine gate_callee (f := 59) rfl ?_); refine goesL_ (some 143) rfl rfl Tryz.func59 (by kernel_rfl) rfl #[(Value.float .f64 (FloatKind.f64.nearest (ji40))), (Value.float .f64 (FloatKind.f64.nearest (x2_1.size : Int)))] rfl (by (try simp only [List.map_toArray, List.map_cons, List.map_nil]); first | done | (simp only [hji40]; rfl) | rfl | (simp only [List.length_drop, List.length_take]; rfl)) ?_; (with_reducible refine (math_Min.calls (Value.float .f64 (FloatKind.f64.nearest (ji40))) (Value.float .f64 (FloatKind.f64.nearest (x2_1.size : Int))) t598 _ A30.out).mono ?_); rintro e w' ⟨rfl, ⟨nd, rfl⟩⟩; refine ⟨_, rfl, ?_⟩; have hffi52 := run_f2i (P := Tryz.prog) Tryz.underlying48 Tryz.underlying3 (x := t598) (of_decide_eq_true (by assumption))))
       (try (rw [drewN_self w49]; generalize hq_ : World.drewN w49 _ = w49; have n0_ : Aside0 (Kd.V k93 93 w49 w.heap.size (fun k_ => some k_ ≠ (.slice (some ⟨go28, 0, none⟩) x11_1.length co28 : Value).ownBlock ∧ k_ ≠ gb594) (.slice A593_0 ((rd_T67 t587 x49_1).f0).length c593_0) ((rd_T67 t587 x49_1).f0)) := ⟨by rw [← hq_]; exact (by (with_reducible repeat (first | apply Kd.V_alloc | apply Kd.V_drewN | apply Kd.V_drew)); exact Kd.V_mono HL593_0.out (fun _ hk => ⟨hk.2, hk.1⟩))⟩; have n1_ : Aside0 (Kd.R Kd.bool 4 w49 w.heap.size (fun _ => True) (.slice (some ⟨go28, 0, none⟩) x11_1.length co28) y597) := ⟨by rw [← hq_]; exact (Kd.R_st HO_11.out)⟩; have n2_ : Aside0 (Kd.V k67 67 w49 w.heap.size (fun k_ => some k_ ≠ (.slice (some ⟨go28, 0, none⟩) x11_1.length co28 : Value).ownBlock ∧ k_ ≠ gb594) (.slice (some ad593) t587.length co16) t587) := ⟨by rw [← hq_]; exact (by (with_reducible repeat (first | apply Kd.V_alloc | apply Kd.V_drewN | apply Kd.V_drew)); exact Kd.V_mono HO_47.out (fun _ hk => ⟨hk.2, hk.1⟩))⟩; have n3_ : Aside0 (w49.heap[gb594]? = some (.cells #[.slice A593_0 ((rd_T67 t587 x49_1).f0).length c593_0, .int .i64 ((rd_T67 t587 x49_1).f1), .int .i64 ((rd_T67 t587 x49_1).f2), .int .i64 ((rd_T67 t587 x49_1).f3), .int .i64 ((rd_T67 t587 x49_1).f4)] 67 (0, 0))) := ⟨by rw [← hq_]; exact (blk_st BK594.out)⟩; have n4_ : Aside0 (Below w.heap.size w w49) := ⟨by rw [← hq_]; exact (by with_reducible repeat first | exact HB.out | apply bA_ | apply bN_ | apply bD_ | refine bS_ ?_ GE594.out)⟩; clear HL593_0 HO_11 HO_47 BK594 HB hq_; have HL593_0 := n0_; have HO_11 := n1_; have HO_47 := n2_; have BK594 := n3_; have HB := n4_; clear n0_ n1_ n2_ n3_ n4_))
       replace HO_11 := aS_ (Kd.R_drew HO_11.out)
       replace HO_47 := aS_ (Kd.V_drew HO_47.out)
       replace HL593_0 := aS_ (Kd.V_drew HL593_0.out)
       replace BK594 := aS_ (kD_ BK594.out)
       replace HB := aS_ (bD_ HB.out)
       refine sA_ (fun w' => w'.cell? ⟨gb594, 0, none⟩ = some (.slice A593_0 ((rd_T67 t587 x49_1).f0).length c593_0) ∧ w'.cell? ⟨gb594, 1, none⟩ = some (.int .i64 ((rd_T67 t587 x49_1).f1)) ∧ w'.cell? ⟨gb594, 2, none⟩ = some (.int .i64 ((rd_T67 t587 x49_1).f2)) ∧ w'.cell? ⟨gb594, 3, none⟩ = some (.int .i64 ((rd_T67 t587 x49_1).f3)) ∧ w'.cell? ⟨gb594, 4, none⟩ = some (.int .i64 ((rd_T67 t587 x49_1).f4))) [] p_PatchApply.tab34 p_PatchApply.bits34 ⟨(bc_ BK594.out 0).trans rfl, (bc_ BK594.out 1).trans rfl, (bc_ BK594.out 2).trans rfl, (bc_ BK594.out 3).trans rfl, (bc_ BK594.out 4).trans rfl⟩ (fun hHeld HT_ HW_ => ?_)
       generalize w49.drew = w53 at HO_11 HO_47 HL593_0 BK594 HB hHeld ⊢
       refine pA_ 0 (h:=pA_ 1 (h:=pA_ 2 (h:=pA_ 3 (h:=pA_ 4 (h:=pA_ 8 (h:=pA_ 9 (h:=pA_ 10 (h:=pA_ 11 (h:=pA_ 12 (h:=pA_ 13 (h:=tA_ 5 (h:=?_))))))))))))
       refine oA_ 6 (some 170) (h:=fun K hK => ?_)
       refine goes_ Tryz.func60 (by kernel_rfl) rfl #[.pointer (some ⟨a0, 0, none⟩), .slice A593_0 ((rd_T67 t587 x49_1).f0).length c593_0] (by rfl) rfl rfl (by (try simp only [List.map_toArray, List.map_cons, List.map_nil]); first | done | rfl | (simp only [List.length_drop, List.length_take]; rfl)) ?_
       with_reducible refine (p_DiffText2.calls k1 a0 _ _ ((rd_T67 t587 x49_1).f0) t599 _ ?side1 ?side2 ?side3 A38.out).mono ?_
       (case side1 => exact dmp_below HD0.out (by with_reducible repeat first | exact HB.out | apply bA_ | apply bN_ | apply bD_ | refine bS_ ?_ GE594.out))
       (case side2 => repeat (first | exact ((Kd.V_reads' (by (with_reducible repeat (first | apply Kd.V_alloc | apply Kd.V_drewN | apply Kd.V_drew)); exact HL593_0.out)).2.2) | (with_reducible refine Kd.C_alloc ?_ _) | (with_reducible refine Kd.C_drewN ?_ _) | (with_reducible refine Kd.C_drew ?_)))
       (case side3 => exact HC593_0.out)
       rintro e w54 ⟨rfl, hb⟩
       refine ⟨_, rfl, ?_⟩
       replace HO_11 := aS_ (Kd.R_below (Kd.R_st HO_11.out) hb)
       replace HO_47 := aS_ (Kd.V_below (by (with_reducible repeat (first | apply Kd.V_alloc | apply Kd.V_drewN | apply Kd.V_drew)); exact HO_47.out) hb)
       replace HL593_0 := aS_ (Kd.V_below (by (with_reducible repeat (first | apply Kd.V_alloc | apply Kd.V_drewN | apply Kd.V_drew)); exact HL593_0.out) hb)
       replace BK594 := aS_ (blk_below (g := gb594) (o := .cells #[.slice A593_0 ((rd_T67 t587 x49_1).f0).length c593_0, .int .i64 ((rd_T67 t587 x49_1).f1), .int .i64 ((rd_T67 t587 x49_1).f2), .int .i64 ((rd_T67 t587 x49_1).f3), .int .i64 ((rd_T67 t587 x49_1).f4)] 67 (0, 0)) (blk_st BK594.out) hb)
       replace HB := aS_ (bt_ (by with_reducible repeat first | exact HB.out | apply bA_ | apply bN_ | apply bD_ | refine bS_ ?_ GE594.out) hb)
       refine hK.out _ _ ⟨(bc_ BK594.out 0).trans rfl, (bc_ BK594.out 1).trans rfl, (bc_ BK594.out 2).trans rfl, (bc_ BK594.out 3).trans rfl, (bc_ BK594.out 4).trans rfl⟩ (fun hHeld => ?_)
       clear hK K
       refine nA_ (h:=?_)
       refine pA_ 7 (h:=pA_ 14 (h:=pA_ 15 (h:=?_)))
       refine done_ (done_of HT_.out (by kernel_rfl)) ?_
       try go_wp2
       go_roundg k1
       case measure => have := HK1.out; omega
       case rel => exact ⟨(((x2_1.extract 0 (t596 : Int).toNat) ++ t599) ++ (x2_1.extract ((ji40) : Int).toNat x2_1.size)), (wrap64 (x9_1 + 1)), (wrap64 (t596 - (wrap64 (((rd_T67 t587 x49_1).f2) + x10_1)))), (y597), (wrap64 (x49_1 + 1)), (by first | rfl | (simp; done) | (simp only [← hji40] <;> (first | rfl | simp)) | (simp [*]; done)), (by first | rfl | simp [*]), (by first | rfl | simp [*]), (by first | rfl | simp [*]), H', ⟨by have := HK1.out; omega⟩, ⟨Kd.R_st HO_11.out⟩, ⟨by (with_reducible repeat (first | apply Kd.V_alloc | apply Kd.V_drewN | apply Kd.V_drew)); exact Kd.V_mono HO_47.out (fun _ hk => by first | exact hk.2 | exact hk.1)⟩, ⟨by with_reducible repeat first | exact HB.out | apply bA_ | apply bN_ | apply bD_ | refine bS_ ?_ GE594.out⟩⟩
    ·rw [if_neg c19] at H
     have c19b0 := decide_eq_false c19
     clear c19
     replace H := yes_ H; obtain ⟨c55, H⟩ := H
     have c55b0 := eq_true c55
     have c55b1 := decide_eq_true c55
     clear c55
     replace H := yes_ H; obtain ⟨c56, H⟩ := H
     have c56b0 := eq_true c56
     have c56b1 := decide_eq_true c56
     replace H := yes_ H; obtain ⟨c57, H⟩ := H
     have c57b0 := eq_true c57
     have c57b1 := decide_eq_true c57
     simp only [Option.some.injEq, Prod.mk.injEq] at H
     obtain ⟨rfl, rfl⟩ := H
     go_wp2
     go_ret2
     exact ⟨_, by first | rfl | (simp [*, errW_none, errW_some] <;> rfl), Kd.R_st HO_11.out, bel_ HB.out⟩
def abc : ByteArray := ⟨#[97, 98, 99]⟩
def abxc : ByteArray := ⟨#[97, 98, 120, 99]⟩
def awd : List S93 := [⟨0, ⟨#[97, 98]⟩⟩, ⟨1, ⟨#[120]⟩⟩, ⟨0, ⟨#[99]⟩⟩]
theorem ev_main (a0 : Nat) : p_DiffMain.f 100 a0 abc abxc true = some awd := by kernel_rfl
theorem ev_sem (a0 : Nat) : p_DiffCleanupSemantic.f 100 a0 awd = some awd := by kernel_rfl
theorem ev_eff (a0 : Nat) : p_DiffCleanupEfficiency.f 100 a0 awd = some awd := by kernel_rfl
theorem ev_make2 (a0 : Nat) : p_patchMake2.f 100 a0 abc awd = some aw1 := by kernel_rfl
theorem ev_apply (a0 : Nat) : p_PatchApply.f 100 a0 aw1 abc = some (abxc, [true]) := by kernel_rfl
theorem ta_str (v : Value) (w : World) : (Instr.typeAssert (.iface 9 v) 20 9 false).run Tryz.prog w = .ok v w := by
 simp [Instr.typeAssert, run_underlying Tryz.underlying9, go_sem, Result.andThen]
theorem ta_str_ok (v : Value) (w : World) : (Instr.typeAssert (.iface 9 v) 20 9 true).run Tryz.prog w = .ok (.tuple #[v, .bool true]) w := by
 simp [Instr.typeAssert, run_underlying Tryz.underlying9, go_sem, Result.andThen]
theorem ta_row_ok (v : Value) (w : World) : (Instr.typeAssert (.iface 65 v) 20 65 true).run Tryz.prog w = .ok (.tuple #[v, .bool true]) w := by
 simp [Instr.typeAssert, run_underlying Tryz.underlying65, go_sem, Result.andThen]
theorem ta_row_no (v : Value) (w : World) : (Instr.typeAssert (.iface 65 v) 20 9 true).run Tryz.prog w = .ok (.tuple #[.string ⟨#[]⟩, .bool false]) w := by
 simp [Instr.typeAssert, run_underlying Tryz.underlying9, go_sem, Result.andThen]
theorem make_b (a0 g c : Nat) (A : Option Addr) (w : World) (hd0 : DmpAt w a0) (hg : w.heap[g]? = some (.cells #[.iface 9 (.string abc), .iface 65 (.slice A 3 c)] 20 (0, 0))) (hr : Kd.C k93 w A 3 awd) (hc : 3 ≤ c) :
  Calls Tryz.prog 35 #[.pointer (some ⟨a0, 0, none⟩), .slice (some ⟨g, 0, none⟩) 2 2] w fun e w' => ∃ v0_ : Value, e = .returned v0_ ∧ Kd.S k67 67 w' w.heap.size (fun _ => True) v0_ aw1 ∧ Below w.heap.size w w' := by
 have HD0 := Aside0.mk hd0
 have hc0 := cell_of hg (i := 0) rfl
 have hc1 := cell_of hg (i := 1) rfl
 clear hd0 hg
 have h1_ := ta_str (.string abc)
 have h2_ := ta_row_no (.slice A 3 c)
 have h3_ := ta_row_ok (.slice A 3 c)
 go_enter Tryz.func35, Tryz.ntmps35
 go_wp2_with (first | (go_at_call 67; refine (p_patchMake2.calls 100 a0 abc A c awd aw1 w HD0.out hr hc (ev_make2 a0)).mono ?_; rintro e w' ⟨v0, rfl, hs, hb⟩))
 go_ret
 exact ⟨v0, rfl, hs, hb⟩
theorem make_a (a0 g : Nat) (w : World) (hd0 : DmpAt w a0) (hg : w.heap[g]? = some (.cells #[.iface 9 (.string abc), .iface 9 (.string abxc)] 20 (0, 0))) :
  Calls Tryz.prog 35 #[.pointer (some ⟨a0, 0, none⟩), .slice (some ⟨g, 0, none⟩) 2 2] w fun e w' => ∃ v0_ : Value, e = .returned v0_ ∧ Kd.S k67 67 w' w.heap.size (fun _ => True) v0_ aw1 ∧ Below w.heap.size w w' := by
 have HD0 := Aside0.mk hd0
 have hc0 := cell_of hg (i := 0) rfl
 have hc1 := cell_of hg (i := 1) rfl
 clear hd0 hg
 have h1_ := ta_str (.string abc)
 have h2_ := ta_str_ok (.string abxc)
 go_enter Tryz.func35, Tryz.ntmps35
 go_wp2_with (first
  | (go_at_call 61; refine (p_DiffMain.calls 100 a0 abc abxc true awd w HD0.out (ev_main a0)).mono ?_; rintro e w1 ⟨v1, rfl, hr1, hb1⟩; obtain ⟨A1, c1, e1⟩ := Kd.R_slice hr1; subst e1)
  | (go_at_call 65; refine (p_DiffCleanupSemantic.calls 100 a0 _ _ awd awd w w1 hb1 HD0.out hr1 (ev_sem a0)).mono ?_; rintro e w2 ⟨v2, rfl, hr2, hb2, hk2⟩)
  | (go_at_call 66; refine (p_DiffCleanupEfficiency.calls 100 a0 _ _ awd awd w w2 hb2 HD0.out hr2 (ev_eff a0)).mono ?_; rintro e w3 ⟨v3, rfl, hr3, hb3, hk3⟩; obtain ⟨A3, c3, e3⟩ := Kd.R_slice hr3; subst e3)
  | (go_at_call 35; refine (make_b a0 w3.heap.size c3 A3 _ (dmp_below HD0.out (Below.alloc hb3 hb3.size _)) (heap_alloc_new w3 _) (Kd.C_alloc (Kd.R_reads' hr3).2.2 _) (Kd.R_reads' hr3).2.1).mono ?_; rintro e w4 ⟨v4, rfl, hs4, hb4⟩))
 go_ret
 exact ⟨v4, rfl, Kd.S_lower hs4 (Below.alloc hb3 hb3.size _).size, bh_ (Below.alloc hb3 hb3.size _) (Below.alloc hb3 hb3.size _).size hb4⟩
theorem apply_calls (w : World) : Calls Tryz.prog 19 #[.string abc, .string abxc, .string abc, setv] w fun e w' => ∃ v0_ : Value, e = .returned (.tuple #[.string abxc, v0_]) ∧ Kd.R Kd.bool 4 w' w.heap.size (fun _ => True) v0_ [true] ∧ Below w.heap.size w w' := by
 have hu50 := Tryz.underlying50
 unfold setv
 go_enter Tryz.func19, Tryz.ntmps19
 go_wp2_with (first
  | (go_at_call 33; refine (set_calls _).mono ?_; rintro e w1 ⟨a0, rfl, hd1, hg1, hb1⟩)
  | (go_at_call 35; refine (make_a a0 w1.heap.size _ (kA_ hd1 _) (heap_alloc_new w1 _)).mono ?_; rintro e w2 ⟨v2, rfl, hs2, hb2⟩; obtain ⟨A2, c2, e2⟩ := Kd.S_slice hs2; subst e2)
  | (go_at_call 34; refine (p_PatchApply.calls 100 a0 A2 c2 aw1 abc abxc [true] w2 (dmp_below (kA_ hd1 _) hb2) (Kd.S_reads' hs2).2.2 (Kd.S_reads' hs2).2.1 (ev_apply a0)).mono ?_; rintro e w3 ⟨v3, rfl, hr3, hb3⟩; obtain ⟨A3, c3, e3⟩ := Kd.R_slice hr3; subst e3; have hbw : Below w.heap.size w w3 := bh_ (bh_ (Below.alloc (bh_ (Below.alloc (Below.refl _ _) (Nat.le_refl _) _) (by simp) hb1) (bh_ (Below.alloc (Below.refl _ _) (Nat.le_refl _) _) (by simp) hb1).size _) (Below.alloc (bh_ (Below.alloc (Below.refl _ _) (Nat.le_refl _) _) (by simp) hb1) (bh_ (Below.alloc (Below.refl _ _) (Nat.le_refl _) _) (by simp) hb1).size _).size hb2) (bh_ (Below.alloc (bh_ (Below.alloc (Below.refl _ _) (Nat.le_refl _) _) (by simp) hb1) (bh_ (Below.alloc (Below.refl _ _) (Nat.le_refl _) _) (by simp) hb1).size _) (Below.alloc (bh_ (Below.alloc (Below.refl _ _) (Nat.le_refl _) _) (by simp) hb1) (bh_ (Below.alloc (Below.refl _ _) (Nat.le_refl _) _) (by simp) hb1).size _).size hb2).size hb3)
  | ((with_reducible refine gate_builtin (b := .append) (xs := #[.const (.slice none 0 0), .tmp 29]) rfl ?_); at_builtin; refine Kd.R_append_row (P := Tryz.prog) Value.bool false (w0 := w) w.heap.size rfl (.const (.slice none 0 0)) (.tmp 29) 45 4 (.bool false) 1 rfl Tryz.underlying45 info4 rfl (by decide) (.slice none 0 0) [] [true] A3 1 c3 (fun _ => True) rfl rfl (fun _ _ => trivial) (Kd.R_nil _ _ _ _ _) (Kd.R_reads' hr3).2.2 hbw hbw.size (by decide) ?_; intro v4 w4 hr4 hb4 hg4 hat4))
 go_ret2
 exact ⟨v4, rfl, hr4, hb4⟩
theorem awake_calls (w : World) : Calls Tryz.prog 7 #[] w fun e w' => e = .returned (.bool true) ∧ Below w.heap.size w w' := by
 have hab_ : (abxc.toList == [97, 98, 120, 99]) = true := by kernel_rfl
 have hac_ : abxc.toList = [97, 98, 120, 99] := by kernel_rfl
 go_enter Tryz.func7, Tryz.ntmps7
 go_wp2_with (first
  | (go_at_call 20; refine (defaults_calls _).mono ?_; rintro e w1 ⟨rfl, hb1⟩)
  | (go_at_call 19; refine (apply_calls _).mono ?_; rintro e w2 ⟨v2, rfl, hr2, hb2⟩; obtain ⟨A2, c2, e2⟩ := Kd.R_slice hr2; subst e2; obtain ⟨ad_, ea_, hx_⟩ := Kd.at_bool (Kd.R_reads' hr2).2.2 0 (by decide) (by decide); subst ea_; replace hx_ : w2.cell? ad_ = some (.bool true) := hx_))
 go_ret
 exact ⟨rfl, bh_ hb1 hb1.size hb2⟩
end Go.Proofs.YtgogjghfehcpoaaGreatDoor.QT
