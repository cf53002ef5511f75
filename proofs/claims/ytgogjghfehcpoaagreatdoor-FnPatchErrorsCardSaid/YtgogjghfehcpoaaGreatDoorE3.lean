/- Part 3 of the proof of: FnPatchErrors: the statement, at every input; its condition: the listed variables read as the row lists them. -/
import Derived.Test.YtgogjghfehcpoaaGreatDoorE2
import Derived.Test.YtgogjghfehcpoaaGreatDoorProg
import Derived.Handy
set_option maxHeartbeats 8000000
set_option maxRecDepth 100000
namespace Go.Proofs.YtgogjghfehcpoaaGreatDoor.QT
open Go.RowKit Go.Proofs.YtgogjghfehcpoaaGreatDoorW.PrintWords Go.Proofs.YtgogjghfehcpoaaGreatDoorW.PrintLast Go.Proofs.YtgogjghfehcpoaaGreatDoorW.PrintMore
set_option linter.unusedVariables false
set_option linter.unusedSimpArgs false
def spec_PatchLines.l0 : Nat → List ByteArray → List (S75) → Int → Int → Option (List ByteArray)
 | 0, _, _, _, _ => none
 | k + 1, x3, x22, x23, x24 => if x24 < x23 then (if 0 ≤ x24 then (if x24 < (x22.length : Int) then ((some (([(⟨#[45]⟩ : ByteArray), (⟨#[32]⟩ : ByteArray), (⟨#[43]⟩ : ByteArray)] : List ByteArray) : List ByteArray)).bind fun y823 => (if 0 ≤ (wrap64 (((rd_T75 x22 x24).f0) + 1)) then (if (wrap64 (((rd_T75 x22 x24).f0) + 1)) < (y823.length : Int) then ((spec_PatchEscaped.f k ((rd_T75 x22 x24).f1)).bind fun t827 => (if (rdOf ByteArray.empty y823 (wrap64 (((rd_T75 x22 x24).f0) + 1))).size + t827.size ≤ 9223372036854775807 then (if ((rdOf ByteArray.empty y823 (wrap64 (((rd_T75 x22 x24).f0) + 1))) ++ t827).size + 1 ≤ 9223372036854775807 then (if x3.length < 8796093022208 then (spec_PatchLines.l0 k (x3 ++ [((rdOf ByteArray.empty y823 (wrap64 (((rd_T75 x22 x24).f0) + 1))) ++ t827) ++ (⟨#[10]⟩ : ByteArray)]) x22 x23 (wrap64 (x24 + 1))) else (none)) else (none)) else (none))) else (none)) else (none))) else (none)) else (none)) else (some x3)
def spec_PatchLines.f (k : Nat) (a0_0 : Int) (a0_1 : Int) (a0_2 : Int) (a0_3 : Int) (l0_4 : List (S75)) : Option (List ByteArray) := (spec_patchSpan.f k a0_0 a0_2).bind fun t816 => (if 4 + t816.size ≤ 9223372036854775807 then (if ((⟨#[64, 64, 32, 45]⟩ : ByteArray) ++ t816).size + 2 ≤ 9223372036854775807 then ((spec_patchSpan.f k a0_1 a0_3).bind fun t817 => (if (((⟨#[64, 64, 32, 45]⟩ : ByteArray) ++ t816) ++ (⟨#[32, 43]⟩ : ByteArray)).size + t817.size ≤ 9223372036854775807 then (if ((((⟨#[64, 64, 32, 45]⟩ : ByteArray) ++ t816) ++ (⟨#[32, 43]⟩ : ByteArray)) ++ t817).size + 4 ≤ 9223372036854775807 then (spec_PatchLines.l0 k (([((((⟨#[64, 64, 32, 45]⟩ : ByteArray) ++ t816) ++ (⟨#[32, 43]⟩ : ByteArray)) ++ t817) ++ (⟨#[32, 64, 64, 10]⟩ : ByteArray)] : List ByteArray)) l0_4 (l0_4.length : Int) 0) else (none)) else (none))) else (none)) else (none))
def spec_PatchLines.T1 : Bool × List (List Nat × List Nat) := (true, [([], []), ([0], [0]), ([], []), ([2], [2]), ([1, 3], [1, 3]), ([4], [4]), ([5], [5]), ([], []), ([7], [7]), ([], []), ([9], [9]), ([8, 10, 4], [8, 10]), ([6, 11], [6, 11]), ([12], [12]), ([13], [13]), ([14, 11, 0, 1, 2, 3, 4, 5, 6, 7, 8, 9, 10, 11, 12, 13, 14], [14])])
def spec_PatchLines.B1 : List Nat := [0, 1, 0, 4, 15, 31, 63, 0, 128, 0, 512, 1951, 4095, 8191, 16383, 32767]
theorem spec_PatchLines.tab1 : rtab .any (opsOf Tryz.f24 1) = spec_PatchLines.T1 := by kernel_rfl
theorem spec_PatchLines.bits1 : waitsOk spec_PatchLines.T1.2 spec_PatchLines.B1 = true := by kernel_rfl
def spec_PatchLines.T5 : Bool × List (List Nat × List Nat) := (true, [([], []), ([], []), ([], []), ([2], [2]), ([3], [3]), ([1, 4], [1, 4]), ([5], [5]), ([], []), ([7], [7]), ([8], [8]), ([6, 9], [6, 9]), ([10], [10]), ([11], [11]), ([0, 12, 9], [0, 12]), ([13, 13, 0, 1, 2, 3, 4, 5, 6, 7, 8, 9, 10, 11, 12, 13], [0, 13])])
def spec_PatchLines.B5 : List Nat := [0, 0, 0, 4, 12, 30, 62, 0, 128, 384, 1022, 2046, 4094, 8191, 16383]
theorem spec_PatchLines.tab5 : rtab .any (opsOf Tryz.f24 5) = spec_PatchLines.T5 := by kernel_rfl
theorem spec_PatchLines.bits5 : waitsOk spec_PatchLines.T5.2 spec_PatchLines.B5 = true := by kernel_rfl
theorem spec_PatchLines.calls (k : Nat) (a0_0 : Int) (a0_1 : Int) (a0_2 : Int) (a0_3 : Int) (A0_4 : Option Addr) (c0_4 : Nat) (l0_4 : List (S75)) (r : List ByteArray) (w : World) (hr0_4 : Kd.C k75 w A0_4 l0_4.length l0_4) (hc0_4 : l0_4.length ≤ c0_4) (h : spec_PatchLines.f k a0_0 a0_1 a0_2 a0_3 l0_4 = some r) :
  Calls Tryz.prog 24 #[.agg #[.int .i64 a0_0, .int .i64 a0_1, .int .i64 a0_2, .int .i64 a0_3, .slice A0_4 l0_4.length c0_4]] w fun e w' => ∃ v0_ : Value, e = .returned (v0_) ∧ Kd.R Kd.string 9 w' w.heap.size (fun _ => True) v0_ r ∧ Below w.heap.size w w' := by
 have hu42 := Tryz.underlying42
 have hu75 := Tryz.underlying75
 have HR0_4 := Aside0.mk hr0_4
 have HC0_4 := Aside0.mk hc0_4
 clear hr0_4 hc0_4
 have HB := aS_ (Below.refl w.heap.size w)
 have H : ((spec_patchSpan.f k a0_0 a0_2).bind fun t816 => (if 4 + t816.size ≤ 9223372036854775807 then (if ((⟨#[64, 64, 32, 45]⟩ : ByteArray) ++ t816).size + 2 ≤ 9223372036854775807 then ((spec_patchSpan.f k a0_1 a0_3).bind fun t817 => (if (((⟨#[64, 64, 32, 45]⟩ : ByteArray) ++ t816) ++ (⟨#[32, 43]⟩ : ByteArray)).size + t817.size ≤ 9223372036854775807 then (if ((((⟨#[64, 64, 32, 45]⟩ : ByteArray) ++ t816) ++ (⟨#[32, 43]⟩ : ByteArray)) ++ t817).size + 4 ≤ 9223372036854775807 then (spec_PatchLines.l0 k (([((((⟨#[64, 64, 32, 45]⟩ : ByteArray) ++ t816) ++ (⟨#[32, 43]⟩ : ByteArray)) ++ t817) ++ (⟨#[32, 64, 64, 10]⟩ : ByteArray)] : List ByteArray)) l0_4 (l0_4.length : Int) 0) else (none)) else (none))) else (none)) else (none))) = some r := h
 clear h
 replace H := Option.bind_eq_some_iff.mp H
 obtain ⟨t816, A20, H⟩ := H
 try dsimp only at H
 have A2 := Aside0.mk A20
 clear A20
 replace H := yes_ H; obtain ⟨c3, H⟩ := H
 have c3b0 := eq_true c3
 have c3b1 := decide_eq_true c3
 try have c3b2 : (9223372036854775807 < 4 + t816.size) = False := eq_false (Nat.not_lt.2 c3)
 replace H := yes_ H; obtain ⟨c4, H⟩ := H
 have c4b0 := eq_true c4
 have c4b1 := decide_eq_true c4
 try have c4b2 : (9223372036854775807 < ((⟨#[64, 64, 32, 45]⟩ : ByteArray) ++ t816).size + 2) = False := eq_false (Nat.not_lt.2 c4)
 try have c4b3 : (9223372036854775807 < 4 + t816.size + 2) = False := eq_false (Nat.not_lt.2 (by have h_ := c4; simp only [ByteArray.size_append] at h_; exact h_))
 try have c4b4 : decide (4 + t816.size + 2 ≤ 9223372036854775807) = true := decide_eq_true (by have h_ := c4; simp only [ByteArray.size_append] at h_; exact h_)
 replace H := Option.bind_eq_some_iff.mp H
 obtain ⟨t817, A50, H⟩ := H
 try dsimp only at H
 have A5 := Aside0.mk A50
 clear A50
 replace H := yes_ H; obtain ⟨c6, H⟩ := H
 have c6b0 := eq_true c6
 have c6b1 := decide_eq_true c6
 try have c6b2 : (9223372036854775807 < (((⟨#[64, 64, 32, 45]⟩ : ByteArray) ++ t816) ++ (⟨#[32, 43]⟩ : ByteArray)).size + t817.size) = False := eq_false (Nat.not_lt.2 c6)
 try have c6b3 : (9223372036854775807 < 4 + t816.size + 2 + t817.size) = False := eq_false (Nat.not_lt.2 (by have h_ := c6; simp only [ByteArray.size_append] at h_; exact h_))
 try have c6b4 : decide (4 + t816.size + 2 + t817.size ≤ 9223372036854775807) = true := decide_eq_true (by have h_ := c6; simp only [ByteArray.size_append] at h_; exact h_)
 replace H := yes_ H; obtain ⟨c7, H⟩ := H
 have c7b0 := eq_true c7
 have c7b1 := decide_eq_true c7
 try have c7b2 : (9223372036854775807 < ((((⟨#[64, 64, 32, 45]⟩ : ByteArray) ++ t816) ++ (⟨#[32, 43]⟩ : ByteArray)) ++ t817).size + 4) = False := eq_false (Nat.not_lt.2 c7)
 try have c7b3 : (9223372036854775807 < 4 + t816.size + 2 + t817.size + 4) = False := eq_false (Nat.not_lt.2 (by have h_ := c7; simp only [ByteArray.size_append] at h_; exact h_))
 try have c7b4 : decide (4 + t816.size + 2 + t817.size + 4 ≤ 9223372036854775807) = true := decide_eq_true (by have h_ := c7; simp only [ByteArray.size_append] at h_; exact h_)
 obtain ⟨y818, hy818⟩ : ∃ y_ : List ByteArray, y_ = (([((((⟨#[64, 64, 32, 45]⟩ : ByteArray) ++ t816) ++ (⟨#[32, 43]⟩ : ByteArray)) ++ t817) ++ (⟨#[32, 64, 64, 10]⟩ : ByteArray)] : List ByteArray)) := ⟨_, rfl⟩
 replace H : (spec_PatchLines.l0 k y818 l0_4 (l0_4.length : Int) 0) = some r := by first | (rw [hy818]; with_reducible exact H) | (have H2_ := (Option.bind_some _ _).symm.trans H; rw [hy818]; with_reducible exact H2_) | (have H2_ := (Option.bind_some _ _).symm.trans H; with_reducible exact H2_) | with_reducible exact H | (rw [hy818]; exact H) | exact H
 have Ny818 := Aside0.mk hy818
 clear hy818
 have H' := Aside0.mk H
 clear H
 go_enter Tryz.func24, Tryz.ntmps24
 try go_wp2_with (first | ((with_reducible refine gate_dst (N := 1) rfl ?_); refine box_event ?hg (N := 1) ?hd (cs := #[.int .i64 a0_0, .int .i64 a0_1, .int .i64 a0_2, .int .i64 a0_3, .slice A0_4 l0_4.length c0_4]) (t := 42) ?hr ?_; (case hd => rfl); (case hg => rfl); (case hr => first | (go_simp; done) | (go_simp; rfl)); intro gb815 hg w8 hbox hb; have BK815 := aS_ (hbox); have GW815 := aS_ ((by rw [hg]; exact (bz_ (bel_ HB.out)) : w.heap.size ≤ gb815)); have GE815 := aS_ ((by rw [hg]; exact (bz_ (bel_ HB.out)) : w.heap.size ≤ gb815)); replace HB := aS_ (bt_ (bel_ HB.out) hb); clear hb hbox hg))
 replace BK815 := aS_ (kD_ BK815.out)
 replace HB := aS_ (bD_ HB.out)
 refine sA_ (fun w' => w'.cell? ⟨gb815, 0, none⟩ = some (.int .i64 a0_0) ∧ w'.cell? ⟨gb815, 1, none⟩ = some (.int .i64 a0_1) ∧ w'.cell? ⟨gb815, 2, none⟩ = some (.int .i64 a0_2) ∧ w'.cell? ⟨gb815, 3, none⟩ = some (.int .i64 a0_3) ∧ w'.cell? ⟨gb815, 4, none⟩ = some (.slice A0_4 l0_4.length c0_4)) [] spec_PatchLines.tab1 spec_PatchLines.bits1 ⟨(bc_ BK815.out 0).trans rfl, (bc_ BK815.out 1).trans rfl, (bc_ BK815.out 2).trans rfl, (bc_ BK815.out 3).trans rfl, (bc_ BK815.out 4).trans rfl⟩ (fun hHeld HT_ HW_ => ?_)
 generalize w8.drew = w9 at BK815 HB hHeld ⊢
 refine pA_ 0 (h:=pA_ 2 (h:=pA_ 7 (h:=pA_ 9 (h:=tA_ 1 (h:=tA_ 3 (h:=tA_ 8 (h:=tA_ 10 (h:=?_))))))))
 refine oA_ 4 (some 10) (h:=fun K hK => ?_)
 refine goes_ Tryz.func44 (by kernel_rfl) rfl #[.int .i64 a0_0, .int .i64 a0_2] (by rfl) rfl rfl (by (try simp only [List.map_toArray, List.map_cons, List.map_nil]); first | done | rfl | (simp only [List.length_drop, List.length_take]; rfl)) ?_
 with_reducible refine (spec_patchSpan.calls k a0_0 a0_2 t816 _ A2.out).mono ?_
 rintro e w10 ⟨rfl, hb⟩
 refine ⟨_, rfl, ?_⟩
 replace BK815 := aS_ (blk_below (g := gb815) (o := .cells #[.int .i64 a0_0, .int .i64 a0_1, .int .i64 a0_2, .int .i64 a0_3, .slice A0_4 l0_4.length c0_4] 42 (0, 0)) (blk_st BK815.out) hb)
 replace HB := aS_ (bt_ (by with_reducible repeat first | exact HB.out | apply bA_ | apply bN_ | apply bD_ | refine bS_ ?_ GE815.out) hb)
 refine hK.out _ _ ⟨(bc_ BK815.out 0).trans rfl, (bc_ BK815.out 1).trans rfl, (bc_ BK815.out 2).trans rfl, (bc_ BK815.out 3).trans rfl, (bc_ BK815.out 4).trans rfl⟩ (fun hHeld => ?_)
 clear hK K
 refine nA_ (h:=?_)
 refine pA_ 5 (h:=pA_ 6 (h:=?_))
 refine oA_ 11 (some 17) (h:=fun K hK => ?_)
 refine goes_ Tryz.func44 (by kernel_rfl) rfl #[.int .i64 a0_1, .int .i64 a0_3] (by rfl) rfl rfl (by (try simp only [List.map_toArray, List.map_cons, List.map_nil]); first | done | rfl | (simp only [List.length_drop, List.length_take]; rfl)) ?_
 with_reducible refine (spec_patchSpan.calls k a0_1 a0_3 t817 _ A5.out).mono ?_
 rintro e w11 ⟨rfl, hb⟩
 refine ⟨_, rfl, ?_⟩
 replace BK815 := aS_ (blk_below (g := gb815) (o := .cells #[.int .i64 a0_0, .int .i64 a0_1, .int .i64 a0_2, .int .i64 a0_3, .slice A0_4 l0_4.length c0_4] 42 (0, 0)) (blk_st BK815.out) hb)
 replace HB := aS_ (bt_ (by with_reducible repeat first | exact HB.out | apply bA_ | apply bN_ | apply bD_ | refine bS_ ?_ GE815.out) hb)
 refine hK.out _ _ ⟨(bc_ BK815.out 0).trans rfl, (bc_ BK815.out 1).trans rfl, (bc_ BK815.out 2).trans rfl, (bc_ BK815.out 3).trans rfl, (bc_ BK815.out 4).trans rfl⟩ (fun hHeld => ?_)
 clear hK K
 refine nA_ (h:=?_)
 refine pA_ 12 (h:=pA_ 13 (h:=?_))
 refine oA_ 14 (some 20) (h:=fun K hK => ?_)
 refine Kd.R_lit_step Kd.string _ 9 ?hg (N := 20) ?hd (xs := ([((((⟨#[64, 64, 32, 45]⟩ : ByteArray) ++ t816) ++ (⟨#[32, 43]⟩ : ByteArray)) ++ t817) ++ (⟨#[32, 64, 64, 10]⟩ : ByteArray)] : List ByteArray)) (inner := [.string (((((⟨#[64, 64, 32, 45]⟩ : ByteArray) ++ t816) ++ (⟨#[32, 43]⟩ : ByteArray)) ++ t817) ++ (⟨#[32, 64, 64, 10]⟩ : ByteArray))]) (ok := fun _ => True) (okp := fun _ => True) ?hr ?hp (fun _ hk => hk) trivial (Below.refl _ _) (Nat.le_refl _) (by simp) ?_; (case hd => rfl); (case hg => rfl); (case hr => first | (go_simp; done) | (go_simp; rfl)); (case hp => exact (Reps.one (show Kd.M Kd.string _ _ _ (((((⟨#[64, 64, 32, 45]⟩ : ByteArray) ++ t816) ++ (⟨#[32, 43]⟩ : ByteArray)) ++ t817) ++ (⟨#[32, 64, 64, 10]⟩ : ByteArray)) [.string (((((⟨#[64, 64, 32, 45]⟩ : ByteArray) ++ t816) ++ (⟨#[32, 43]⟩ : ByteArray)) ++ t817) ++ (⟨#[32, 64, 64, 10]⟩ : ByteArray))] from rfl) (Reps.none _ _)))
 intro v819 w12 ho13 hb hg_ hnew_
 clear hg_ hnew_
 (first | rw [← Ny818.out] at ho13 | (simp only [Int.reduceToNat] at ho13; rw [← Ny818.out] at ho13))
 have HO820 := aS_ (Kd.R_lower ho13 (bz_ (by with_reducible repeat first | exact HB.out | apply bA_ | apply bN_ | apply bD_ | refine bS_ ?_ GE815.out)))
 replace BK815 := aS_ (blk_below (g := gb815) (o := .cells #[.int .i64 a0_0, .int .i64 a0_1, .int .i64 a0_2, .int .i64 a0_3, .slice A0_4 l0_4.length c0_4] 42 (0, 0)) (blk_st BK815.out) hb)
 replace HB := aS_ (bt_ (by with_reducible repeat first | exact HB.out | apply bA_ | apply bN_ | apply bD_ | refine bS_ ?_ GE815.out) hb)
 clear hb ho13
 refine hK.out _ _ ⟨(bc_ BK815.out 0).trans rfl, (bc_ BK815.out 1).trans rfl, (bc_ BK815.out 2).trans rfl, (bc_ BK815.out 3).trans rfl, (bc_ BK815.out 4).trans rfl⟩ (fun hHeld => ?_)
 clear hK K
 refine nA_ (h:=?_)
 refine pA_ 15 (h:=?_)
 refine done_ (done_of HT_.out (by kernel_rfl)) ?_
 obtain ⟨hcz14_0, hcz14_1, hcz14_2, hcz14_3, hcz14_4, hfz14_0, hfz14_1, hfz14_2, hfz14_3, hfz14_4⟩ := blk5 BK815.out
 try go_wp2
 go_loopg [3, 24] k (fun kq v3 v24 w' => ∃ (x3_1 : List ByteArray) (x24_1 : Int), v24 = .int .i64 x24_1 ∧ Aside0 (spec_PatchLines.l0 kq x3_1 l0_4 (l0_4.length : Int) x24_1 = some r) ∧ Aside0 (kq ≤ k) ∧ Aside0 (Kd.R Kd.string 9 w' w.heap.size (fun _ => True) v3 x3_1) ∧ Aside0 (w'.heap[gb815]? = some (.cells #[.int .i64 a0_0, .int .i64 a0_1, .int .i64 a0_2, .int .i64 a0_3, (.slice A0_4 l0_4.length c0_4)] 42 (0, 0))) ∧ Aside0 (Below w.heap.size w w'))
 case atStart => exact ⟨(y818), (0), (by first | rfl | simp [*]), H', ⟨Nat.le_refl _⟩, ⟨Kd.R_st HO820.out⟩, ⟨blk_st BK815.out⟩, ⟨by with_reducible repeat first | exact HB.out | apply bA_ | apply bN_ | apply bD_ | refine bS_ ?_ GE815.out⟩⟩
 case round =>
  clear H'
  obtain ⟨x3_1, x24_1, rfl, HA, HK1, HO_3, BK815, HB⟩ := hrel
  cases gk with
  | zero => exact absurd HA.out (by simp [spec_PatchLines.l0])
  | succ k1 =>
   have H := HA.out; clear HA
   simp only [spec_PatchLines.l0] at H
   by_cases c15 : x24_1 < (l0_4.length : Int)
   ·rw [if_pos c15] at H
    have c15b0 := decide_eq_true c15
    clear c15
    replace H := yes_ H; obtain ⟨c16, H⟩ := H
    have c16b0 := decide_eq_true c16
    clear c16
    replace H := yes_ H; obtain ⟨c17, H⟩ := H
    have c17b0 := decide_eq_true c17
    clear c17
    obtain ⟨y823, hy823, H⟩ := bindc_ H
    try dsimp only at H
    have Ny823 := Aside0.mk hy823
    clear hy823
    obtain ⟨ji18, hji18⟩ : ∃ j_ : Int, (wrap64 (((rd_T75 l0_4 x24_1).f0) + 1)) = j_ := ⟨_, rfl⟩
    first | rw [hji18] at H | simp only [hji18] at H
    have hji18w : (IntKind.i64.wrap (((rd_T75 l0_4 x24_1).f0) + 1)) = ji18 := (i64_w _).trans hji18
    replace H := yes_ H; obtain ⟨c19, H⟩ := H
    have c19b0 := decide_eq_true c19
    clear c19
    replace H := yes_ H; obtain ⟨c20, H⟩ := H
    have c20b0 := decide_eq_true c20
    clear c20
    replace H := Option.bind_eq_some_iff.mp H
    obtain ⟨t827, A210, H⟩ := H
    try dsimp only at H
    have A21 := Aside0.mk A210
    clear A210
    replace H := yes_ H; obtain ⟨c22, H⟩ := H
    have c22b0 := eq_true c22
    have c22b1 := decide_eq_true c22
    try have c22b2 : (9223372036854775807 < (rdOf ByteArray.empty y823 (ji18)).size + t827.size) = False := eq_false (Nat.not_lt.2 c22)
    replace H := yes_ H; obtain ⟨c23, H⟩ := H
    have c23b0 := eq_true c23
    have c23b1 := decide_eq_true c23
    try have c23b2 : (9223372036854775807 < ((rdOf ByteArray.empty y823 (ji18)) ++ t827).size + 1) = False := eq_false (Nat.not_lt.2 c23)
    have c23b9_ : (9223372036854775807 < (rdOf ByteArray.empty y823 (ji18)).size + t827.size + 1) = False := eq_false (by have h_ := c23; rw [ByteArray.size_append] at h_; omega)
    replace H := yes_ H; obtain ⟨c24, H⟩ := H
    have LMc24 := Aside0.mk c24
    clear c24
    obtain ⟨y828, hy828⟩ : ∃ y_ : List ByteArray, y_ = (x3_1 ++ [((rdOf ByteArray.empty y823 (ji18)) ++ t827) ++ (⟨#[10]⟩ : ByteArray)]) := ⟨_, rfl⟩
    replace H : (spec_PatchLines.l0 k1 y828 l0_4 (l0_4.length : Int) (wrap64 (x24_1 + 1))) = some r := by first | (rw [hy828]; with_reducible exact H) | (have H2_ := (Option.bind_some _ _).symm.trans H; rw [hy828]; with_reducible exact H2_) | (have H2_ := (Option.bind_some _ _).symm.trans H; with_reducible exact H2_) | with_reducible exact H | (rw [hy828]; exact H) | exact H
    have Ny828 := Aside0.mk hy828
    clear hy828
    have H' := Aside0.mk H
    clear H
    have p821 : 0 ≤ (x24_1 : Int) := of_decide_eq_true (by assumption)
    have q821 : x24_1 < (l0_4.length : Int) := of_decide_eq_true (by assumption)
    obtain ⟨ad821, e821, hx821_0, hx821_1⟩ := at_T75 HR0_4.out x24_1 p821 q821
    cases e821
    replace hx821_0 := (HB.out.cell (World.block_lt_of_cell? w _ hx821_0)).trans hx821_0
    replace hx821_1 := (HB.out.cell (World.block_lt_of_cell? w _ hx821_1)).trans hx821_1
    replace p821 := eq_true p821
    replace q821 := eq_true q821
    try go_wp2_with (first | ((with_reducible refine gate_dst (N := 5) rfl ?_); refine box_event ?hg (N := 5) ?hd (cs := #[.int .i64 0, .string (⟨#[]⟩ : ByteArray)]) (t := 75) ?hr ?_; (case hd => rfl); (case hg => rfl); (case hr => first | (go_simp; done) | (go_simp; rfl)); intro gb822 hg w25 hbox hb; replace HO_3 := aS_ (Kd.R_below (Kd.R_st HO_3.out) hb); have BK822 := aS_ (hbox); have GW822 := aS_ ((by rw [hg]; exact (bz_ (by with_reducible repeat first | exact HB.out | apply bA_ | apply bN_ | apply bD_ | refine bS_ ?_ GE815.out)) : w.heap.size ≤ gb822)); have GE822 := aS_ ((by rw [hg]; exact (bz_ (by with_reducible repeat first | exact HB.out | apply bA_ | apply bN_ | apply bD_ | refine bS_ ?_ GE815.out)) : w.heap.size ≤ gb822)); replace HB := aS_ (bt_ (by with_reducible repeat first | exact HB.out | apply bA_ | apply bN_ | apply bD_ | refine bS_ ?_ GE815.out) hb); have NB815_822 := aS_ ((by rw [hg]; exact Nat.ne_of_lt (blk_lt (g := gb815) (o := .cells #[.int .i64 a0_0, .int .i64 a0_1, .int .i64 a0_2, .int .i64 a0_3, .slice (some ad821) l0_4.length c0_4] 42 (0, 0)) (blk_st BK815.out)) : gb815 ≠ gb822)); have NB822_815 := aS_ ((by rw [hg]; exact Nat.ne_of_gt (blk_lt (g := gb815) (o := .cells #[.int .i64 a0_0, .int .i64 a0_1, .int .i64 a0_2, .int .i64 a0_3, .slice (some ad821) l0_4.length c0_4] 42 (0, 0)) (blk_st BK815.out)) : gb822 ≠ gb815)); replace BK815 := aS_ (blk_below (g := gb815) (o := .cells #[.int .i64 a0_0, .int .i64 a0_1, .int .i64 a0_2, .int .i64 a0_3, .slice (some ad821) l0_4.length c0_4] 42 (0, 0)) (blk_st BK815.out) hb); clear hb hbox hg; have hnb26 := NB822_815.out; have hnc26 := NB815_822.out; obtain ⟨hcz27_0, hcz27_1, hfz27_0, hfz27_1⟩ := blk2 BK822.out; obtain ⟨Ao28, co28, eo28⟩ := Kd.R_slice HO_3.out; subst eo28))
    have pi826 : (0 ≤ ((ji18) : Int)) = True := eq_true (of_decide_eq_true (by assumption))
    have qi826 : ((ji18) < (y823.length : Int)) = True := eq_true (of_decide_eq_true (by assumption))
    have n0_ : Aside0 (Kd.R Kd.string 9 ((w25.setCell ⟨gb822, 0, none⟩ (.int .i64 ((rd_T75 l0_4 x24_1).f0))).setCell ⟨gb822, 1, none⟩ (.string ((rd_T75 l0_4 x24_1).f1))) w.heap.size (fun _ => True) (.slice Ao28 x3_1.length co28) x3_1) := ⟨Kd.R_st (Kd.R_mono (Kd.R_far (p := ⟨gb822, 1, none⟩) (Kd.R_far (p := ⟨gb822, 0, none⟩) (Kd.R_types HO_3.out BK822.out (by decide)) (fun _ hk => hk.2) (.int .i64 ((rd_T75 l0_4 x24_1).f0))) (fun _ hk => hk.2) (.string ((rd_T75 l0_4 x24_1).f1))) (fun _ hk => trivial))⟩
    have n1_ : Aside0 (((w25.setCell ⟨gb822, 0, none⟩ (.int .i64 ((rd_T75 l0_4 x24_1).f0))).setCell ⟨gb822, 1, none⟩ (.string ((rd_T75 l0_4 x24_1).f1))).heap[gb815]? = some (.cells #[.int .i64 a0_0, .int .i64 a0_1, .int .i64 a0_2, .int .i64 a0_3, .slice (some ad821) l0_4.length c0_4] 42 (0, 0))) := ⟨by (with_reducible repeat (first | refine kN_ ?_ _ | refine kD_ ?_ | refine kA_ ?_ _)); refine blk_far ?_ NB815_822.out _; (with_reducible repeat (first | refine kN_ ?_ _ | refine kD_ ?_ | refine kA_ ?_ _)); refine blk_far ?_ NB815_822.out _; (with_reducible repeat (first | refine kN_ ?_ _ | refine kD_ ?_ | refine kA_ ?_ _)); exact BK815.out⟩
    have n2_ : Aside0 (((w25.setCell ⟨gb822, 0, none⟩ (.int .i64 ((rd_T75 l0_4 x24_1).f0))).setCell ⟨gb822, 1, none⟩ (.string ((rd_T75 l0_4 x24_1).f1))).heap[gb822]? = some (.cells #[.int .i64 ((rd_T75 l0_4 x24_1).f0), .string ((rd_T75 l0_4 x24_1).f1)] 75 (0, 0))) := ⟨by (with_reducible repeat (first | refine kN_ ?_ _ | refine kD_ ?_ | refine kA_ ?_ _)); refine blk_put (cs := #[.int .i64 ((rd_T75 l0_4 x24_1).f0), .string (⟨#[]⟩ : ByteArray)]) ?_ 1 _ rfl; (with_reducible repeat (first | refine kN_ ?_ _ | refine kD_ ?_ | refine kA_ ?_ _)); refine blk_put (cs := #[.int .i64 0, .string (⟨#[]⟩ : ByteArray)]) ?_ 0 _ rfl; (with_reducible repeat (first | refine kN_ ?_ _ | refine kD_ ?_ | refine kA_ ?_ _)); exact BK822.out⟩
    have n3_ : Aside0 (Below w.heap.size w ((w25.setCell ⟨gb822, 0, none⟩ (.int .i64 ((rd_T75 l0_4 x24_1).f0))).setCell ⟨gb822, 1, none⟩ (.string ((rd_T75 l0_4 x24_1).f1)))) := ⟨by with_reducible repeat first | exact HB.out | apply bA_ | apply bN_ | apply bD_ | refine bS_ ?_ GE815.out | refine bS_ ?_ GE822.out⟩
    generalize ((w25.setCell ⟨gb822, 0, none⟩ (.int .i64 ((rd_T75 l0_4 x24_1).f0))).setCell ⟨gb822, 1, none⟩ (.string ((rd_T75 l0_4 x24_1).f1))) = w29 at n0_ n1_ n2_ n3_ ⊢
    have HO_3 := n0_
    have BK815 := n1_
    have BK822 := n2_
    have HB := n3_
    clear n0_ n1_ n2_ n3_
    replace HO_3 := aS_ (Kd.R_drew HO_3.out)
    replace BK815 := aS_ (kD_ BK815.out)
    replace BK822 := aS_ (kD_ BK822.out)
    replace HB := aS_ (bD_ HB.out)
    refine sA_ (fun w' => w'.cell? ⟨gb822, 0, none⟩ = some (.int .i64 ((rd_T75 l0_4 x24_1).f0)) ∧ w'.cell? ⟨gb822, 1, none⟩ = some (.string ((rd_T75 l0_4 x24_1).f1))) [] spec_PatchLines.tab5 spec_PatchLines.bits5 ⟨(bc_ BK822.out 0).trans rfl, (bc_ BK822.out 1).trans rfl⟩ (fun hHeld HT_ HW_ => ?_)
    generalize w29.drew = w30 at HO_3 BK815 BK822 HB hHeld ⊢
    refine pA_ 0 (h:=pA_ 2 (h:=pA_ 7 (h:=tA_ 3 (h:=pA_ 4 (h:=tA_ 8 (h:=?_))))))
    refine join_ (σ := Value × Addr) 5 #[tt, tt, tt, tt, tt, tt, tt, tt, tt, tt, ff, ff, ff, ff, ff] (fun s_ => [(29, s_.1), (34, .string (rdOf ByteArray.empty y823 (ji18))), (37, .string t827), (33, .pointer (some (s_.2.add ((ji18)).toNat)))]) (fun s_ w' => (w'.cell? ⟨gb822, 0, none⟩ = some (.int .i64 ((rd_T75 l0_4 x24_1).f0)) ∧ w'.cell? ⟨gb822, 1, none⟩ = some (.string ((rd_T75 l0_4 x24_1).f1))) ∧ (Kd.R Kd.string 9 w' w.heap.size (fun k_ => some k_ ≠ (.slice Ao28 x3_1.length co28 : Value).ownBlock) s_.1 y823) ∧ (Kd.R Kd.string 9 w' w.heap.size (fun k_ => some k_ ≠ (s_.1 : Value).ownBlock) (.slice Ao28 x3_1.length co28) x3_1) ∧ (∃ c_, (s_.1 : Value) = .slice (some s_.2) y823.length c_) ∧ (w'.heap[gb815]? = some (.cells #[.int .i64 a0_0, .int .i64 a0_1, .int .i64 a0_2, .int .i64 a0_3, .slice (some ad821) l0_4.length c0_4] 42 (0, 0))) ∧ (w'.heap[gb822]? = some (.cells #[.int .i64 ((rd_T75 l0_4 x24_1).f0), .string ((rd_T75 l0_4 x24_1).f1)] 75 (0, 0))) ∧ (Below w.heap.size w w')) ?_ ?_
    rotate_left
    ·intro hCont
     refine two_ (i := 1) (j := 9) (Ni := some 29) (Nj := some 37) #[tt, tt, tt, tt, tt, ff, ff, tt, tt, ff, ff, ff, ff, ff, ff] #[tt, ff, tt, tt, tt, ff, ff, tt, tt, tt, ff, ff, ff, ff, ff] rfl rfl rfl rfl (two_of HT_.out (by kernel_rfl)) (by decide) (by decide) (fun K hK => ?_) (fun K hK => ?_)
     ·skip
      refine Kd.R_lit_step Kd.string _ 9 ?hg (N := 29) ?hd (xs := ([(⟨#[45]⟩ : ByteArray), (⟨#[32]⟩ : ByteArray), (⟨#[43]⟩ : ByteArray)] : List ByteArray)) (inner := [.string (⟨#[45]⟩ : ByteArray), .string (⟨#[32]⟩ : ByteArray), .string (⟨#[43]⟩ : ByteArray)]) (ok := fun _ => True) (okp := fun _ => True) ?hr ?hp (fun _ hk => hk) trivial (Below.refl _ _) (Nat.le_refl _) (by simp) ?_; (case hd => rfl); (case hg => rfl); (case hr => first | (go_simp; done) | (go_simp; rfl)); (case hp => exact (Reps.one (show Kd.M Kd.string _ _ _ (⟨#[45]⟩ : ByteArray) [.string (⟨#[45]⟩ : ByteArray)] from rfl) (Reps.one (show Kd.M Kd.string _ _ _ (⟨#[32]⟩ : ByteArray) [.string (⟨#[32]⟩ : ByteArray)] from rfl) (Reps.one (show Kd.M Kd.string _ _ _ (⟨#[43]⟩ : ByteArray) [.string (⟨#[43]⟩ : ByteArray)] from rfl) (Reps.none _ _)))))
      intro v824 w31 ho32 hb hg_ hnew_
      clear hg_ hnew_
      (first | rw [← Ny823.out] at ho32 | (simp only [Int.reduceToNat] at ho32; rw [← Ny823.out] at ho32))
      have HO825 := aS_ (Kd.R_lower (Kd.R_new' ho32 (Kd.R_lt (Kd.R_st HO_3.out))) (bz_ (by with_reducible repeat first | exact HB.out | apply bA_ | apply bN_ | apply bD_ | refine bS_ ?_ GE815.out | refine bS_ ?_ GE822.out)))
      replace HO_3 := aS_ (Kd.R_elder' (Kd.R_st HO_3.out) (Kd.R_base ho32) hb)
      replace BK815 := aS_ (blk_below (g := gb815) (o := .cells #[.int .i64 a0_0, .int .i64 a0_1, .int .i64 a0_2, .int .i64 a0_3, .slice (some ad821) l0_4.length c0_4] 42 (0, 0)) (blk_st BK815.out) hb)
      replace BK822 := aS_ (blk_below (g := gb822) (o := .cells #[.int .i64 ((rd_T75 l0_4 x24_1).f0), .string ((rd_T75 l0_4 x24_1).f1)] 75 (0, 0)) (blk_st BK822.out) hb)
      replace HB := aS_ (bt_ (by with_reducible repeat first | exact HB.out | apply bA_ | apply bN_ | apply bD_ | refine bS_ ?_ GE815.out | refine bS_ ?_ GE822.out) hb)
      clear hb ho32
      obtain ⟨Ao33, co33, eo33⟩ := Kd.R_slice HO825.out
      subst eo33
      obtain ⟨ado33, fo33, _⟩ := Kd.at_string (Kd.R_reads' HO825.out).2.2 0 (by decide) (by rw [Ny823.out]; simp)
      cases fo33
      refine hK.out _ _ ⟨(bc_ BK822.out 0).trans rfl, (bc_ BK822.out 1).trans rfl⟩ (fun hHeld => ?_)
      clear hK K
      refine nA_ (h:=?_)
      refine pA_ 5 (h:=?_)
      refine two_ (i := 6) (j := 9) (Ni := some 34) (Nj := some 37) #[tt, tt, tt, tt, tt, tt, tt, tt, tt, ff, ff, ff, ff, ff, ff] #[tt, tt, tt, tt, tt, tt, ff, tt, tt, tt, ff, ff, ff, ff, ff] rfl rfl rfl rfl (two_of HT_.out (by kernel_rfl)) (by decide) (by decide) (fun K hK => ?_) (fun K hK => ?_)
      ·skip
       (have p826 : 0 ≤ ((ji18) : Int) := of_decide_eq_true (by assumption); have q826 : (ji18) < (y823.length : Int) := of_decide_eq_true (by assumption); obtain ⟨ad826, e826, hx826_0⟩ := Kd.at_string (Kd.R_reads' HO825.out).2.2 (ji18) p826 q826; obtain rfl : ado33 = ad826 := (by injection e826))
       refine value_ (w1 := ?_) (v := ?_) (by rfl) rfl ?_ ?_
       rotate_left 2
       ·go_simp
        constructor
        ·rfl
        ·rfl
       clear hx826_0
       refine hK.out _ _ ⟨(bc_ BK822.out 0).trans rfl, (bc_ BK822.out 1).trans rfl⟩ (fun hHeld => ?_)
       clear hK K
       refine nA_ (h:=?_)
       refine oA_ 9 (some 37) (h:=fun K hK => ?_)
       refine goes_ Tryz.func45 (by kernel_rfl) rfl #[.string ((rd_T75 l0_4 x24_1).f1)] (by rfl) rfl rfl (by (try simp only [List.map_toArray, List.map_cons, List.map_nil]); first | done | rfl | (simp only [List.length_drop, List.length_take]; rfl)) ?_
       with_reducible refine (spec_PatchEscaped.calls k1 ((rd_T75 l0_4 x24_1).f1) t827 _ A21.out).mono ?_
       rintro e w34 ⟨rfl, hb⟩
       refine ⟨_, rfl, ?_⟩
       replace HO_3 := aS_ (Kd.R_below (Kd.R_st HO_3.out) hb)
       replace HO825 := aS_ (Kd.R_below (Kd.R_st HO825.out) hb)
       replace BK815 := aS_ (blk_below (g := gb815) (o := .cells #[.int .i64 a0_0, .int .i64 a0_1, .int .i64 a0_2, .int .i64 a0_3, .slice (some ad821) l0_4.length c0_4] 42 (0, 0)) (blk_st BK815.out) hb)
       replace BK822 := aS_ (blk_below (g := gb822) (o := .cells #[.int .i64 ((rd_T75 l0_4 x24_1).f0), .string ((rd_T75 l0_4 x24_1).f1)] 75 (0, 0)) (blk_st BK822.out) hb)
       replace HB := aS_ (bt_ (by with_reducible repeat first | exact HB.out | apply bA_ | apply bN_ | apply bD_ | refine bS_ ?_ GE815.out | refine bS_ ?_ GE822.out) hb)
       refine hK.out _ _ ⟨(bc_ BK822.out 0).trans rfl, (bc_ BK822.out 1).trans rfl⟩ (fun hHeld => ?_)
       clear hK K
       refine nA_ (h:=?_)
       exact norm_ (by simp only [putAll, Act.put, List.setIfInBounds_toArray, List.set_cons_zero, List.set_cons_succ]) (hCont (.slice (some ado33) y823.length co33, ado33) _ ⟨hHeld, (Kd.R_st (Kd.R_mono HO825.out (fun _ hk => hk.2))), (Kd.R_st (Kd.R_mono HO_3.out (fun _ hk => hk.2))), ⟨_, rfl⟩, (blk_st BK815.out), (blk_st BK822.out), (by with_reducible repeat first | exact HB.out | apply bA_ | apply bN_ | apply bD_ | refine bS_ ?_ GE815.out | refine bS_ ?_ GE822.out)⟩)
      ·skip
       refine goes_ Tryz.func45 (by kernel_rfl) rfl #[.string ((rd_T75 l0_4 x24_1).f1)] (by rfl) rfl rfl (by (try simp only [List.map_toArray, List.map_cons, List.map_nil]); first | done | rfl | (simp only [List.length_drop, List.length_take]; rfl)) ?_
       with_reducible refine (spec_PatchEscaped.calls k1 ((rd_T75 l0_4 x24_1).f1) t827 _ A21.out).mono ?_
       rintro e w34 ⟨rfl, hb⟩
       refine ⟨_, rfl, ?_⟩
       replace HO_3 := aS_ (Kd.R_below (Kd.R_st HO_3.out) hb)
       replace HO825 := aS_ (Kd.R_below (Kd.R_st HO825.out) hb)
       replace BK815 := aS_ (blk_below (g := gb815) (o := .cells #[.int .i64 a0_0, .int .i64 a0_1, .int .i64 a0_2, .int .i64 a0_3, .slice (some ad821) l0_4.length c0_4] 42 (0, 0)) (blk_st BK815.out) hb)
       replace BK822 := aS_ (blk_below (g := gb822) (o := .cells #[.int .i64 ((rd_T75 l0_4 x24_1).f0), .string ((rd_T75 l0_4 x24_1).f1)] 75 (0, 0)) (blk_st BK822.out) hb)
       replace HB := aS_ (bt_ (by with_reducible repeat first | exact HB.out | apply bA_ | apply bN_ | apply bD_ | refine bS_ ?_ GE815.out | refine bS_ ?_ GE822.out) hb)
       refine hK.out _ _ ⟨(bc_ BK822.out 0).trans rfl, (bc_ BK822.out 1).trans rfl⟩ (fun hHeld => ?_)
       clear hK K
       refine nA_ (h:=?_)
       refine oA_ 6 (some 34) (h:=fun K hK => ?_)
       (have p826 : 0 ≤ ((ji18) : Int) := of_decide_eq_true (by assumption); have q826 : (ji18) < (y823.length : Int) := of_decide_eq_true (by assumption); obtain ⟨ad826, e826, hx826_0⟩ := Kd.at_string (Kd.R_reads' HO825.out).2.2 (ji18) p826 q826; obtain rfl : ado33 = ad826 := (by injection e826))
       refine value_ (w1 := ?_) (v := ?_) (by rfl) rfl ?_ ?_
       rotate_left 2
       ·go_simp
        constructor
        ·rfl
        ·rfl
       clear hx826_0
       refine hK.out _ _ ⟨(bc_ BK822.out 0).trans rfl, (bc_ BK822.out 1).trans rfl⟩ (fun hHeld => ?_)
       clear hK K
       refine nA_ (h:=?_)
       exact norm_ (by simp only [putAll, Act.put, List.setIfInBounds_toArray, List.set_cons_zero, List.set_cons_succ]) (hCont (.slice (some ado33) y823.length co33, ado33) _ ⟨hHeld, (Kd.R_st (Kd.R_mono HO825.out (fun _ hk => hk.2))), (Kd.R_st (Kd.R_mono HO_3.out (fun _ hk => hk.2))), ⟨_, rfl⟩, (blk_st BK815.out), (blk_st BK822.out), (by with_reducible repeat first | exact HB.out | apply bA_ | apply bN_ | apply bD_ | refine bS_ ?_ GE815.out | refine bS_ ?_ GE822.out)⟩)
     ·skip
      refine goes_ Tryz.func45 (by kernel_rfl) rfl #[.string ((rd_T75 l0_4 x24_1).f1)] (by rfl) rfl rfl (by (try simp only [List.map_toArray, List.map_cons, List.map_nil]); first | done | rfl | (simp only [List.length_drop, List.length_take]; rfl)) ?_
      with_reducible refine (spec_PatchEscaped.calls k1 ((rd_T75 l0_4 x24_1).f1) t827 _ A21.out).mono ?_
      rintro e w31 ⟨rfl, hb⟩
      refine ⟨_, rfl, ?_⟩
      replace HO_3 := aS_ (Kd.R_below (Kd.R_st HO_3.out) hb)
      replace BK815 := aS_ (blk_below (g := gb815) (o := .cells #[.int .i64 a0_0, .int .i64 a0_1, .int .i64 a0_2, .int .i64 a0_3, .slice (some ad821) l0_4.length c0_4] 42 (0, 0)) (blk_st BK815.out) hb)
      replace BK822 := aS_ (blk_below (g := gb822) (o := .cells #[.int .i64 ((rd_T75 l0_4 x24_1).f0), .string ((rd_T75 l0_4 x24_1).f1)] 75 (0, 0)) (blk_st BK822.out) hb)
      replace HB := aS_ (bt_ (by with_reducible repeat first | exact HB.out | apply bA_ | apply bN_ | apply bD_ | refine bS_ ?_ GE815.out | refine bS_ ?_ GE822.out) hb)
      refine hK.out _ _ ⟨(bc_ BK822.out 0).trans rfl, (bc_ BK822.out 1).trans rfl⟩ (fun hHeld => ?_)
      clear hK K
      refine nA_ (h:=?_)
      refine oA_ 1 (some 29) (h:=fun K hK => ?_)
      refine Kd.R_lit_step Kd.string _ 9 ?hg (N := 29) ?hd (xs := ([(⟨#[45]⟩ : ByteArray), (⟨#[32]⟩ : ByteArray), (⟨#[43]⟩ : ByteArray)] : List ByteArray)) (inner := [.string (⟨#[45]⟩ : ByteArray), .string (⟨#[32]⟩ : ByteArray), .string (⟨#[43]⟩ : ByteArray)]) (ok := fun _ => True) (okp := fun _ => True) ?hr ?hp (fun _ hk => hk) trivial (Below.refl _ _) (Nat.le_refl _) (by simp) ?_; (case hd => rfl); (case hg => rfl); (case hr => first | (go_simp; done) | (go_simp; rfl)); (case hp => exact (Reps.one (show Kd.M Kd.string _ _ _ (⟨#[45]⟩ : ByteArray) [.string (⟨#[45]⟩ : ByteArray)] from rfl) (Reps.one (show Kd.M Kd.string _ _ _ (⟨#[32]⟩ : ByteArray) [.string (⟨#[32]⟩ : ByteArray)] from rfl) (Reps.one (show Kd.M Kd.string _ _ _ (⟨#[43]⟩ : ByteArray) [.string (⟨#[43]⟩ : ByteArray)] from rfl) (Reps.none _ _)))))
      intro v824 w32 ho33 hb hg_ hnew_
      clear hg_ hnew_
      (first | rw [← Ny823.out] at ho33 | (simp only [Int.reduceToNat] at ho33; rw [← Ny823.out] at ho33))
      have HO825 := aS_ (Kd.R_lower (Kd.R_new' ho33 (Kd.R_lt (Kd.R_st HO_3.out))) (bz_ (by with_reducible repeat first | exact HB.out | apply bA_ | apply bN_ | apply bD_ | refine bS_ ?_ GE815.out | refine bS_ ?_ GE822.out)))
      replace HO_3 := aS_ (Kd.R_elder' (Kd.R_st HO_3.out) (Kd.R_base ho33) hb)
      replace BK815 := aS_ (blk_below (g := gb815) (o := .cells #[.int .i64 a0_0, .int .i64 a0_1, .int .i64 a0_2, .int .i64 a0_3, .slice (some ad821) l0_4.length c0_4] 42 (0, 0)) (blk_st BK815.out) hb)
      replace BK822 := aS_ (blk_below (g := gb822) (o := .cells #[.int .i64 ((rd_T75 l0_4 x24_1).f0), .string ((rd_T75 l0_4 x24_1).f1)] 75 (0, 0)) (blk_st BK822.out) hb)
      replace HB := aS_ (bt_ (by with_reducible repeat first | exact HB.out | apply bA_ | apply bN_ | apply bD_ | refine bS_ ?_ GE815.out | refine bS_ ?_ GE822.out) hb)
      clear hb ho33
      obtain ⟨Ao34, co34, eo34⟩ := Kd.R_slice HO825.out
      subst eo34
      obtain ⟨ado34, fo34, _⟩ := Kd.at_string (Kd.R_reads' HO825.out).2.2 0 (by decide) (by rw [Ny823.out]; simp)
      cases fo34
      refine hK.out _ _ ⟨(bc_ BK822.out 0).trans rfl, (bc_ BK822.out 1).trans rfl⟩ (fun hHeld => ?_)
      clear hK K
      refine nA_ (h:=?_)
      refine pA_ 5 (h:=?_)
      refine oA_ 6 (some 34) (h:=fun K hK => ?_)
      (have p826 : 0 ≤ ((ji18) : Int) := of_decide_eq_true (by assumption); have q826 : (ji18) < (y823.length : Int) := of_decide_eq_true (by assumption); obtain ⟨ad826, e826, hx826_0⟩ := Kd.at_string (Kd.R_reads' HO825.out).2.2 (ji18) p826 q826; obtain rfl : ado34 = ad826 := (by injection e826))
      refine value_ (w1 := ?_) (v := ?_) (by rfl) rfl ?_ ?_
      rotate_left 2
      ·go_simp
       constructor
       ·rfl
       ·rfl
      clear hx826_0
      refine hK.out _ _ ⟨(bc_ BK822.out 0).trans rfl, (bc_ BK822.out 1).trans rfl⟩ (fun hHeld => ?_)
      clear hK K
      refine nA_ (h:=?_)
      exact norm_ (by simp only [putAll, Act.put, List.setIfInBounds_toArray, List.set_cons_zero, List.set_cons_succ]) (hCont (.slice (some ado34) y823.length co34, ado34) _ ⟨hHeld, (Kd.R_st (Kd.R_mono HO825.out (fun _ hk => hk.2))), (Kd.R_st (Kd.R_mono HO_3.out (fun _ hk => hk.2))), ⟨_, rfl⟩, (blk_st BK815.out), (blk_st BK822.out), (by with_reducible repeat first | exact HB.out | apply bA_ | apply bN_ | apply bD_ | refine bS_ ?_ GE815.out | refine bS_ ?_ GE822.out)⟩)
    rintro ⟨v824, adz_v824⟩ w35 ⟨hS_, h0_, h1_, h2_, h3_, h4_, h5_⟩
    have n0_ : Aside0 (Kd.R Kd.string 9 w35 w.heap.size (fun k_ => some k_ ≠ (.slice Ao28 x3_1.length co28 : Value).ownBlock) v824 y823) := ⟨h0_⟩
    have n1_ : Aside0 (Kd.R Kd.string 9 w35 w.heap.size (fun k_ => some k_ ≠ (v824 : Value).ownBlock) (.slice Ao28 x3_1.length co28) x3_1) := ⟨h1_⟩
    have n2_ : Aside0 (∃ c_, (v824 : Value) = .slice (some adz_v824) y823.length c_) := ⟨h2_⟩
    have n3_ : Aside0 (w35.heap[gb815]? = some (.cells #[.int .i64 a0_0, .int .i64 a0_1, .int .i64 a0_2, .int .i64 a0_3, .slice (some ad821) l0_4.length c0_4] 42 (0, 0))) := ⟨h3_⟩
    have n4_ : Aside0 (w35.heap[gb822]? = some (.cells #[.int .i64 ((rd_T75 l0_4 x24_1).f0), .string ((rd_T75 l0_4 x24_1).f1)] 75 (0, 0))) := ⟨h4_⟩
    have n5_ : Aside0 (Below w.heap.size w w35) := ⟨h5_⟩
    clear HO_3
    clear BK815
    clear BK822
    clear HB
    clear h0_ h1_ h2_ h3_ h4_ h5_
    have HO825 := n0_
    have HO_3 := n1_
    have HA_HO825 := n2_
    have BK815 := n3_
    have BK822 := n4_
    have HB := n5_
    clear n0_ n1_ n2_ n3_ n4_ n5_
    have hHeld : w35.cell? ⟨gb822, 0, none⟩ = some (.int .i64 ((rd_T75 l0_4 x24_1).f0)) ∧ w35.cell? ⟨gb822, 1, none⟩ = some (.string ((rd_T75 l0_4 x24_1).f1)) := hS_
    obtain ⟨co36, eo36⟩ := HA_HO825.out
    clear HA_HO825
    subst eo36
    refine nA_ (h:=?_)
    refine pA_ 10 (h:=pA_ 11 (h:=?_))
    refine oA_ 12 (some 40) (h:=fun K hK => ?_)
    refine value_ (w1 := ?_) (v := ?_) (by rfl) rfl ?_ ?_
    rotate_left 2
    ·go_simp
     constructor
     ·rfl
     ·rfl
    refine hK.out _ _ ⟨(bc_ (kA_ BK822.out _) 0).trans rfl, (bc_ (kA_ BK822.out _) 1).trans rfl⟩ (fun hHeld => ?_)
    clear hK K
    refine nA_ (h:=?_)
    refine oA_ 13 (some 41) (h:=fun K hK => ?_)
    refine Kd.R_append_step Kd.string (w0 := w) w.heap.size (by rfl) (.tmp 28) (.tmp 40) 61 9 (.string ⟨#[]⟩) 16 rfl Tryz.underlying61 info9 rfl (by decide) (by omega) (.slice Ao28 x3_1.length co28) x3_1 (((rdOf ByteArray.empty y823 (ji18)) ++ t827) ++ (⟨#[10]⟩ : ByteArray)) [.string (((rdOf ByteArray.empty y823 (ji18)) ++ t827) ++ (⟨#[10]⟩ : ByteArray))] (fun k_ => some k_ ≠ (.slice (some adz_v824) y823.length co36 : Value).ownBlock) (fun _ => False) rfl rfl ?aP (fun _ hk => hk.elim) ?aF ?aO ?aB ?aS ?aL ?_
    (case aP => exact rfl)
    (case aB => exact (by with_reducible repeat first | exact HB.out | apply bA_ | apply bN_ | apply bD_ | refine bS_ ?_ GE815.out | refine bS_ ?_ GE822.out))
    (case aF => exact (fun k_ hk => Kd.fresh' (Kd.R_lt (Kd.R_st HO825.out)) k_ hk))
    (case aO => exact (Kd.R_st HO_3.out))
    (case aS => exact (bz_ (by with_reducible repeat first | exact HB.out | apply bA_ | apply bN_ | apply bD_ | refine bS_ ?_ GE815.out | refine bS_ ?_ GE822.out)))
    (case aL => have := LMc24.out; omega)
    intro v829 w37 ho hb hg hat
    rw [← Ny828.out] at ho
    replace BK815 := aS_ (blk_grown (g := gb815) (o := .cells #[.int .i64 a0_0, .int .i64 a0_1, .int .i64 a0_2, .int .i64 a0_3, .slice (some ad821) l0_4.length c0_4] 42 (0, 0)) (blk_st BK815.out) hg (Kd.R_ne HO_3.out BK815.out (by decide)))
    replace BK822 := aS_ (blk_grown (g := gb822) (o := .cells #[.int .i64 ((rd_T75 l0_4 x24_1).f0), .string ((rd_T75 l0_4 x24_1).f1)] 75 (0, 0)) (blk_st BK822.out) hg (Kd.R_ne HO_3.out BK822.out (by decide)))
    replace HO825 := aS_ (Kd.R_after (ok := (fun _ => True)) (Kd.R_st (Kd.R_mono HO825.out (fun _ hk => ⟨trivial, hk⟩))) hg hat)
    replace HB := aS_ (hb)
    have HO830 := aS_ (ho)
    clear HO_3
    clear ho hb hg hat
    refine hK.out _ _ ⟨(bc_ BK822.out 0).trans rfl, (bc_ BK822.out 1).trans rfl⟩ (fun hHeld => ?_)
    clear hK K
    refine nA_ (h:=?_)
    refine pA_ 14 (h:=?_)
    refine done_ (done_of HT_.out (by kernel_rfl)) ?_
    try go_wp2
    go_roundg k1
    case measure => have := HK1.out; omega
    case rel => exact ⟨(y828), (wrap64 (x24_1 + 1)), (by first | rfl | simp [*]), H', ⟨by have := HK1.out; omega⟩, ⟨Kd.R_st (Kd.R_mono HO830.out (fun _ hk => trivial))⟩, ⟨blk_st BK815.out⟩, ⟨by with_reducible repeat first | exact HB.out | apply bA_ | apply bN_ | apply bD_ | refine bS_ ?_ GE815.out | refine bS_ ?_ GE822.out⟩⟩
   ·rw [if_neg c15] at H
    have c15b0 := decide_eq_false c15
    clear c15
    obtain rfl := Option.some.inj H
    go_wp2
    go_ret
    exact ⟨_, by first | rfl | (simp [*, errW_none, errW_some] <;> rfl), Kd.R_st HO_3.out, by with_reducible repeat first | exact HB.out | apply bA_ | apply bN_ | apply bD_ | refine bS_ ?_ GE815.out⟩
mutual
def laws_patchText.l0 : Nat → Bool → ByteArray → List (S42) → Int → Int → Option (ByteArray)
 | 0, _, _, _, _, _ => none
 | k + 1, x1, x5, x11, x12, x13 => if x13 < x12 then (if 0 ≤ x13 then (if x13 < (x11.length : Int) then ((spec_PatchLines.f k ((rd_T42 x11 x13).f0) ((rd_T42 x11 x13).f1) ((rd_T42 x11 x13).f2) ((rd_T42 x11 x13).f3) ((rd_T42 x11 x13).f4)).bind fun t836 => (laws_patchText.l1 k x1 x5 x11 x12 x13 t836 (t836.length : Int) 0)) else (none)) else (none)) else (some x5)
def laws_patchText.l1 : Nat → Bool → ByteArray → List (S42) → Int → Int → List ByteArray → Int → Int → Option (ByteArray)
 | 0, _, _, _, _, _, _, _, _ => none
 | k + 1, x1, x5, x11, x12, x13, x18, x19, x20 => if x20 < x19 then (if 0 ≤ x20 then (if x20 < (x18.length : Int) then (if x5.size + (rdOf ByteArray.empty x18 x20).size ≤ 9223372036854775807 then (if x1 = true then (if (x5 ++ (rdOf ByteArray.empty x18 x20)).size + 1 ≤ 9223372036854775807 then (laws_patchText.l1 k x1 ((x5 ++ (rdOf ByteArray.empty x18 x20)) ++ (⟨#[10]⟩ : ByteArray)) x11 x12 x13 x18 x19 (wrap64 (x20 + 1))) else (none)) else (laws_patchText.l1 k x1 (x5 ++ (rdOf ByteArray.empty x18 x20)) x11 x12 x13 x18 x19 (wrap64 (x20 + 1)))) else (none)) else (none)) else (none)) else (laws_patchText.l0 k x1 x5 x11 x12 (wrap64 (x13 + 1)))
end
def laws_patchText.f (k : Nat) (l0 : List (S33)) (a1 : Bool) : Option (ByteArray) := (laws_patchesOf.f k l0).bind fun t831 => (laws_patchText.l0 k a1 (⟨#[]⟩ : ByteArray) t831 (t831.length : Int) 0)
theorem laws_patchText.calls (k : Nat) (A0 : Option Addr) (c0 : Nat) (l0 : List (S33)) (a1 : Bool) (r : ByteArray) (w : World) (hr0 : Kd.C k33 w A0 l0.length l0) (hc0 : l0.length ≤ c0) (h : laws_patchText.f k l0 a1 = some r) :
  Calls Tryz.prog 9 #[.slice A0 l0.length c0, .bool a1] w fun e w' => e = .returned (.string r) ∧ Below w.heap.size w w' := by
 have hu42 := Tryz.underlying42
 have HR0 := Aside0.mk hr0
 have HC0 := Aside0.mk hc0
 clear hr0 hc0
 have HB := aS_ (Below.refl w.heap.size w)
 have H : ((laws_patchesOf.f k l0).bind fun t831 => (laws_patchText.l0 k a1 (⟨#[]⟩ : ByteArray) t831 (t831.length : Int) 0)) = some r := h
 clear h
 replace H := Option.bind_eq_some_iff.mp H
 obtain ⟨t831, A30, H⟩ := H
 try dsimp only at H
 have A3 := Aside0.mk A30
 clear A30
 have H' := Aside0.mk H
 clear H
 go_enter Tryz.func9, Tryz.ntmps9
 go_wp2_with (first | (go_at_call 16; (with_reducible refine (laws_patchesOf.calls k _ _ l0 t831 _ ?side1 ?side2 A3.out).mono ?_); (case side1 => exact Kd.C_st HR0.out); (case side2 => exact HC0.out); rintro e w4 ⟨v832, rfl, ho0, hb⟩; have HO833 := aS_ (Kd.S_lower ho0 (bz_ (bel_ HB.out))); replace HB := aS_ (bt_ (bel_ HB.out) hb); obtain ⟨Ao5, co5, eo5⟩ := Kd.S_slice HO833.out; subst eo5))
 go_loopg [5, 13] k (fun kq v5 v13 w' => ∃ (x5_1 : ByteArray) (x13_1 : Int), v5 = .string x5_1 ∧ v13 = .int .i64 x13_1 ∧ Aside0 (laws_patchText.l0 kq a1 x5_1 t831 (t831.length : Int) x13_1 = some r) ∧ Aside0 (kq ≤ k) ∧ Aside0 (Kd.S k42 42 w' w.heap.size (fun _ => True) (.slice Ao5 t831.length co5) t831) ∧ Aside0 (Below w.heap.size w w'))
 case atStart => exact ⟨((⟨#[]⟩ : ByteArray)), (0), (by first | rfl | simp [*]), (by first | rfl | simp [*]), H', ⟨Nat.le_refl _⟩, ⟨Kd.S_st HO833.out⟩, ⟨bel_ HB.out⟩⟩
 case round =>
  clear H'
  obtain ⟨x5_1, x13_1, rfl, rfl, HA, HK1, HO_11, HB⟩ := hrel
  cases gk with
  | zero => exact absurd HA.out (by simp [laws_patchText.l0])
  | succ k1 =>
   have H := HA.out; clear HA
   simp only [laws_patchText.l0] at H
   by_cases c6 : x13_1 < (t831.length : Int)
   ·rw [if_pos c6] at H
    have c6b0 := decide_eq_true c6
    clear c6
    replace H := yes_ H; obtain ⟨c7, H⟩ := H
    have c7b0 := decide_eq_true c7
    clear c7
    replace H := yes_ H; obtain ⟨c8, H⟩ := H
    have c8b0 := decide_eq_true c8
    clear c8
    replace H := Option.bind_eq_some_iff.mp H
    obtain ⟨t836, A90, H⟩ := H
    try dsimp only at H
    have A9 := Aside0.mk A90
    clear A90
    have H' := Aside0.mk H
    clear H
    have p834 : 0 ≤ (x13_1 : Int) := of_decide_eq_true (by assumption)
    have q834 : x13_1 < (t831.length : Int) := of_decide_eq_true (by assumption)
    obtain ⟨ad834, A834_4, c834_4, e834, hx834_0, hx834_1, hx834_2, hx834_3, hx834_4, hl834_4, hi834_4⟩ := at_T42 (Kd.S_reads' HO_11.out).2.2 x13_1 p834 q834
    cases e834
    obtain ⟨ce834, hce834, hMe834, hcc834⟩ := Kd.S_get HO_11.out z42 x13_1 p834 (by first | exact q834 | exact of_decide_eq_true (by assumption) | (have e_ := (Kd.S_reads' HO_11.out).1; omega))
    obtain ⟨ve834_4, rfl, ge834_4⟩ := k42_openM hMe834
    have hv834_4 := hcc834 4 _ rfl
    rw [add_field _ _ 4 (by omega)] at hv834_4
    replace hv834_4 := Option.some.inj (hv834_4.symm.trans hx834_4)
    rw [hv834_4] at ge834_4
    have HL834_4 := aS_ (show Kd.R k75 75 _ _ _ _ ((rd_T42 t831 x13_1).f4) from ge834_4)
    clear hv834_4 ge834_4
    clear hcc834 hce834
    have HR834_4 := Aside0.mk hi834_4
    have HC834_4 := Aside0.mk hl834_4
    clear hi834_4 hl834_4
    replace p834 := eq_true p834
    replace q834 := eq_true q834
    go_wp2_with (first | ((with_reducible refine gate_dst (N := 7) rfl ?_); refine box_event ?hg (N := 7) ?hd (cs := #[.int .i64 0, .int .i64 0, .int .i64 0, .int .i64 0, .slice none 0 0]) (t := 42) ?hr ?_; (case hd => rfl); (case hg => rfl); (case hr => first | (go_simp; done) | (go_simp; rfl)); intro gb835 hg w10 hbox hb; replace HO_11 := aS_ (Kd.S_below (Kd.S_elderB (Kd.S_st HO_11.out) gb835 (Nat.le_of_eq hg.symm)) hb); replace HL834_4 := aS_ (Kd.R_below (Kd.R_st HL834_4.out) hb); replace HR834_4 := aS_ (Kd.C_below (Kd.C_st HR834_4.out) hb); have BK835 := aS_ (hbox); have GW835 := aS_ ((by rw [hg]; exact (bz_ (bel_ HB.out)) : w.heap.size ≤ gb835)); have GE835 := aS_ ((by rw [hg]; exact (bz_ (bel_ HB.out)) : w.heap.size ≤ gb835)); replace HB := aS_ (bt_ (bel_ HB.out) hb); clear hb hbox hg; obtain ⟨hcz11_0, hcz11_1, hcz11_2, hcz11_3, hcz11_4, hfz11_0, hfz11_1, hfz11_2, hfz11_3, hfz11_4⟩ := blk5 BK835.out) | (go_at_call 24; (with_reducible refine (spec_PatchLines.calls k1 ((rd_T42 t831 x13_1).f0) ((rd_T42 t831 x13_1).f1) ((rd_T42 t831 x13_1).f2) ((rd_T42 t831 x13_1).f3) _ _ ((rd_T42 t831 x13_1).f4) t836 _ ?side1 ?side2 A9.out).mono ?_); (case side1 => repeat (first | exact ((Kd.R_reads' (by (with_reducible repeat (first | apply Kd.R_alloc | apply Kd.R_drewN | apply Kd.R_drew)); exact (Kd.R_mono (Kd.R_far (p := ⟨gb835, 4, none⟩) (Kd.R_far (p := ⟨gb835, 3, none⟩) (Kd.R_far (p := ⟨gb835, 2, none⟩) (Kd.R_far (p := ⟨gb835, 1, none⟩) (Kd.R_far (p := ⟨gb835, 0, none⟩) (Kd.R_types HL834_4.out BK835.out (by decide)) (fun _ hk => hk.2) (.int .i64 ((rd_T42 t831 x13_1).f0))) (fun _ hk => hk.2) (.int .i64 ((rd_T42 t831 x13_1).f1))) (fun _ hk => hk.2) (.int .i64 ((rd_T42 t831 x13_1).f2))) (fun _ hk => hk.2) (.int .i64 ((rd_T42 t831 x13_1).f3))) (fun _ hk => hk.2) (.slice A834_4 ((rd_T42 t831 x13_1).f4).length c834_4)) (fun _ h_ => h_.1)))).2.2) | (with_reducible refine Kd.C_alloc ?_ _) | (with_reducible refine Kd.C_drewN ?_ _) | (with_reducible refine Kd.C_drew ?_))); (case side2 => exact HC834_4.out); rintro e w12 ⟨v837, rfl, ho0, hb⟩; replace HO_11 := aS_ (Kd.S_below (Kd.S_st ((Kd.S_mono (Kd.S_far (p := ⟨gb835, 4, none⟩) (Kd.S_far (p := ⟨gb835, 3, none⟩) (Kd.S_far (p := ⟨gb835, 2, none⟩) (Kd.S_far (p := ⟨gb835, 1, none⟩) (Kd.S_far (p := ⟨gb835, 0, none⟩) (Kd.S_mono HO_11.out (fun k_ hk => (⟨hk, hk.2⟩ : _ ∧ k_ ≠ gb835))) (fun _ hk => hk.2) (.int .i64 ((rd_T42 t831 x13_1).f0))) (fun _ hk => hk.2) (.int .i64 ((rd_T42 t831 x13_1).f1))) (fun _ hk => hk.2) (.int .i64 ((rd_T42 t831 x13_1).f2))) (fun _ hk => hk.2) (.int .i64 ((rd_T42 t831 x13_1).f3))) (fun _ hk => hk.2) (.slice A834_4 ((rd_T42 t831 x13_1).f4).length c834_4)) (fun _ h_ => h_.1)))) hb); have HO838 := aS_ (Kd.R_lower ho0 (bz_ (by with_reducible repeat first | exact HB.out | apply bA_ | apply bN_ | apply bD_ | refine bS_ ?_ GE835.out))); replace HR834_4 := aS_ (Kd.C_below ((Kd.R_reads' (by (with_reducible repeat (first | apply Kd.R_alloc | apply Kd.R_drewN | apply Kd.R_drew)); exact (Kd.R_mono (Kd.R_far (p := ⟨gb835, 4, none⟩) (Kd.R_far (p := ⟨gb835, 3, none⟩) (Kd.R_far (p := ⟨gb835, 2, none⟩) (Kd.R_far (p := ⟨gb835, 1, none⟩) (Kd.R_far (p := ⟨gb835, 0, none⟩) (Kd.R_types HL834_4.out BK835.out (by decide)) (fun _ hk => hk.2) (.int .i64 ((rd_T42 t831 x13_1).f0))) (fun _ hk => hk.2) (.int .i64 ((rd_T42 t831 x13_1).f1))) (fun _ hk => hk.2) (.int .i64 ((rd_T42 t831 x13_1).f2))) (fun _ hk => hk.2) (.int .i64 ((rd_T42 t831 x13_1).f3))) (fun _ hk => hk.2) (.slice A834_4 ((rd_T42 t831 x13_1).f4).length c834_4)) (fun _ h_ => h_.1)))).2.2) hb); replace HL834_4 := aS_ (Kd.R_below (Kd.R_st ((Kd.R_mono (Kd.R_far (p := ⟨gb835, 4, none⟩) (Kd.R_far (p := ⟨gb835, 3, none⟩) (Kd.R_far (p := ⟨gb835, 2, none⟩) (Kd.R_far (p := ⟨gb835, 1, none⟩) (Kd.R_far (p := ⟨gb835, 0, none⟩) (Kd.R_types HL834_4.out BK835.out (by decide)) (fun _ hk => hk.2) (.int .i64 ((rd_T42 t831 x13_1).f0))) (fun _ hk => hk.2) (.int .i64 ((rd_T42 t831 x13_1).f1))) (fun _ hk => hk.2) (.int .i64 ((rd_T42 t831 x13_1).f2))) (fun _ hk => hk.2) (.int .i64 ((rd_T42 t831 x13_1).f3))) (fun _ hk => hk.2) (.slice A834_4 ((rd_T42 t831 x13_1).f4).length c834_4)) (fun _ h_ => h_.1)))) hb); replace BK835 := aS_ (blk_below (g := gb835) (o := .cells #[.int .i64 ((rd_T42 t831 x13_1).f0), .int .i64 ((rd_T42 t831 x13_1).f1), .int .i64 ((rd_T42 t831 x13_1).f2), .int .i64 ((rd_T42 t831 x13_1).f3), .slice A834_4 ((rd_T42 t831 x13_1).f4).length c834_4] 42 (0, 0)) (by (with_reducible repeat (first | refine kN_ ?_ _ | refine kD_ ?_ | refine kA_ ?_ _)); refine blk_put (cs := #[.int .i64 ((rd_T42 t831 x13_1).f0), .int .i64 ((rd_T42 t831 x13_1).f1), .int .i64 ((rd_T42 t831 x13_1).f2), .int .i64 ((rd_T42 t831 x13_1).f3), .slice none 0 0]) ?_ 4 _ rfl; (with_reducible repeat (first | refine kN_ ?_ _ | refine kD_ ?_ | refine kA_ ?_ _)); refine blk_put (cs := #[.int .i64 ((rd_T42 t831 x13_1).f0), .int .i64 ((rd_T42 t831 x13_1).f1), .int .i64 ((rd_T42 t831 x13_1).f2), .int .i64 0, .slice none 0 0]) ?_ 3 _ rfl; (with_reducible repeat (first | refine kN_ ?_ _ | refine kD_ ?_ | refine kA_ ?_ _)); refine blk_put (cs := #[.int .i64 ((rd_T42 t831 x13_1).f0), .int .i64 ((rd_T42 t831 x13_1).f1), .int .i64 0, .int .i64 0, .slice none 0 0]) ?_ 2 _ rfl; (with_reducible repeat (first | refine kN_ ?_ _ | refine kD_ ?_ | refine kA_ ?_ _)); refine blk_put (cs := #[.int .i64 ((rd_T42 t831 x13_1).f0), .int .i64 0, .int .i64 0, .int .i64 0, .slice none 0 0]) ?_ 1 _ rfl; (with_reducible repeat (first | refine kN_ ?_ _ | refine kD_ ?_ | refine kA_ ?_ _)); refine blk_put (cs := #[.int .i64 0, .int .i64 0, .int .i64 0, .int .i64 0, .slice none 0 0]) ?_ 0 _ rfl; (with_reducible repeat (first | refine kN_ ?_ _ | refine kD_ ?_ | refine kA_ ?_ _)); exact BK835.out) hb); replace HB := aS_ (bt_ (by with_reducible repeat first | exact HB.out | apply bA_ | apply bN_ | apply bD_ | refine bS_ ?_ GE835.out) hb); obtain ⟨Ao13, co13, eo13⟩ := Kd.R_slice HO838.out; subst eo13))
    go_loopg [5, 20] k1 (fun kq v5 v20 w' => ∃ (x5_2 : ByteArray) (x20_2 : Int), v5 = .string x5_2 ∧ v20 = .int .i64 x20_2 ∧ Aside0 (laws_patchText.l1 kq a1 x5_2 t831 (t831.length : Int) x13_1 t836 (t836.length : Int) x20_2 = some r) ∧ Aside0 (kq ≤ k1) ∧ Aside0 (Kd.S k42 42 w' w.heap.size (fun k_ => k_ ≠ gb835) (.slice (some ad834) t831.length co5) t831) ∧ Aside0 (Kd.R Kd.string 9 w' w.heap.size (fun _ => True) (.slice Ao13 t836.length co13) t836) ∧ Aside0 (w'.heap[gb835]? = some (.cells #[.int .i64 ((rd_T42 t831 x13_1).f0), .int .i64 ((rd_T42 t831 x13_1).f1), .int .i64 ((rd_T42 t831 x13_1).f2), .int .i64 ((rd_T42 t831 x13_1).f3), (.slice A834_4 ((rd_T42 t831 x13_1).f4).length c834_4)] 42 (0, 0))) ∧ Aside0 (Kd.C k75 w' A834_4 ((rd_T42 t831 x13_1).f4).length ((rd_T42 t831 x13_1).f4)) ∧ Aside0 (Below w.heap.size w w'))
    case atStart => exact ⟨(x5_1), (0), (by first | rfl | simp [*]), (by first | rfl | simp [*]), H', ⟨Nat.le_refl _⟩, ⟨Kd.S_st (Kd.S_mono HO_11.out (fun _ hk => hk.2))⟩, ⟨Kd.R_st HO838.out⟩, ⟨blk_st BK835.out⟩, ⟨Kd.C_st HR834_4.out⟩, ⟨by with_reducible repeat first | exact HB.out | apply bA_ | apply bN_ | apply bD_ | refine bS_ ?_ GE835.out⟩⟩
    case round =>
     clear H'
     obtain ⟨x5_2, x20_2, rfl, rfl, HA, HK2, HO_11, HO_18, BK835, HR834_4, HB⟩ := hrel
     cases gk with
     | zero => exact absurd HA.out (by simp [laws_patchText.l1])
     | succ k2 =>
      have H := HA.out; clear HA
      simp only [laws_patchText.l1] at H
      by_cases c14 : x20_2 < (t836.length : Int)
      ·rw [if_pos c14] at H
       have c14b0 := decide_eq_true c14
       clear c14
       replace H := yes_ H; obtain ⟨c15, H⟩ := H
       have c15b0 := decide_eq_true c15
       clear c15
       replace H := yes_ H; obtain ⟨c16, H⟩ := H
       have c16b0 := decide_eq_true c16
       clear c16
       replace H := yes_ H; obtain ⟨c17, H⟩ := H
       have c17b0 := eq_true c17
       have c17b1 := decide_eq_true c17
       try have c17b2 : (9223372036854775807 < x5_2.size + (rdOf ByteArray.empty t836 x20_2).size) = False := eq_false (Nat.not_lt.2 c17)
       by_cases c18 : a1 = true
       ·subst c18
        rw [if_pos rfl] at H
        replace H := yes_ H; obtain ⟨c19, H⟩ := H
        have c19b0 := eq_true c19
        have c19b1 := decide_eq_true c19
        try have c19b2 : (9223372036854775807 < (x5_2 ++ (rdOf ByteArray.empty t836 x20_2)).size + 1) = False := eq_false (Nat.not_lt.2 c19)
        have c19b9_ : (9223372036854775807 < x5_2.size + (rdOf ByteArray.empty t836 x20_2).size + 1) = False := eq_false (by have h_ := c19; rw [ByteArray.size_append] at h_; omega)
        have H' := Aside0.mk H
        clear H
        have p839 : 0 ≤ (x20_2 : Int) := of_decide_eq_true (by assumption)
        have q839 : x20_2 < (t836.length : Int) := of_decide_eq_true (by assumption)
        obtain ⟨ad839, e839, hx839_0⟩ := Kd.at_string (Kd.R_reads' HO_18.out).2.2 x20_2 p839 q839
        cases e839
        replace p839 := eq_true p839
        replace q839 := eq_true q839
        go_wp2
        go_roundg k2
        case measure => have := HK1.out; have := HK2.out; omega
        case rel => exact ⟨((x5_2 ++ (rdOf ByteArray.empty t836 x20_2)) ++ (⟨#[10]⟩ : ByteArray)), (wrap64 (x20_2 + 1)), (by first | rfl | simp [*]), (by first | rfl | simp [*]), H', ⟨by have := HK1.out; have := HK2.out; omega⟩, ⟨Kd.S_st HO_11.out⟩, ⟨Kd.R_st HO_18.out⟩, ⟨blk_st BK835.out⟩, ⟨Kd.C_st HR834_4.out⟩, ⟨by with_reducible repeat first | exact HB.out | apply bA_ | apply bN_ | apply bD_ | refine bS_ ?_ GE835.out⟩⟩
       ·replace c18 := Bool.eq_false_iff.mpr c18
        subst c18
        rw [if_neg (show ¬ (false = true) by decide)] at H
        have H' := Aside0.mk H
        clear H
        have p839 : 0 ≤ (x20_2 : Int) := of_decide_eq_true (by assumption)
        have q839 : x20_2 < (t836.length : Int) := of_decide_eq_true (by assumption)
        obtain ⟨ad839, e839, hx839_0⟩ := Kd.at_string (Kd.R_reads' HO_18.out).2.2 x20_2 p839 q839
        cases e839
        replace p839 := eq_true p839
        replace q839 := eq_true q839
        go_wp2
        go_roundg k2
        case measure => have := HK1.out; have := HK2.out; omega
        case rel => exact ⟨(x5_2 ++ (rdOf ByteArray.empty t836 x20_2)), (wrap64 (x20_2 + 1)), (by first | rfl | simp [*]), (by first | rfl | simp [*]), H', ⟨by have := HK1.out; have := HK2.out; omega⟩, ⟨Kd.S_st HO_11.out⟩, ⟨Kd.R_st HO_18.out⟩, ⟨blk_st BK835.out⟩, ⟨Kd.C_st HR834_4.out⟩, ⟨by with_reducible repeat first | exact HB.out | apply bA_ | apply bN_ | apply bD_ | refine bS_ ?_ GE835.out⟩⟩
      ·rw [if_neg c14] at H
       have c14b0 := decide_eq_false c14
       clear c14
       have H' := Aside0.mk H
       clear H
       go_wp2
       go_roundg k2
       case measure => have := HK1.out; have := HK2.out; omega
       case rel => exact ⟨(x5_2), (wrap64 (x13_1 + 1)), (by first | rfl | simp [*]), (by first | rfl | simp [*]), H', ⟨by have := HK1.out; have := HK2.out; omega⟩, ⟨Kd.S_st (Kd.S_mono HO_11.out (fun _ hk => trivial))⟩, ⟨by with_reducible repeat first | exact HB.out | apply bA_ | apply bN_ | apply bD_ | refine bS_ ?_ GE835.out⟩⟩
   ·rw [if_neg c6] at H
    have c6b0 := decide_eq_false c6
    clear c6
    obtain rfl := Option.some.inj H
    go_wp2
    go_ret
    exact ⟨by first | rfl | (simp [*, errW_none, errW_some] <;> rfl), bel_ HB.out⟩
abbrev Bs : Type := List UInt8
def B (l : Bs) : ByteArray := ⟨l.toArray⟩
theorem B_data (l : Bs) : (B l).data.toList = l := by simp [B]
theorem B_of (s : ByteArray) : B s.data.toList = s := by cases s; simp [B]
theorem B_ext {s : ByteArray} {l : Bs} (h : s.data.toList = l) : s = B l := by rw [← h, B_of]
theorem B_size (l : Bs) : (B l).size = l.length := by rw [size_data, B_data]
theorem B_toList (l : Bs) : (B l).toList = l := by rw [ByteArray.toList_eq, B_data]
theorem B_append (a b : Bs) : B a ++ B b = B (a ++ b) := B_ext (by simp [ByteArray.data_append, B])
theorem B_extract (l : Bs) (i j : Nat) : (B l).extract i j = B ((l.drop i).take (j - i)) := B_ext (by simp [ByteArray.data_extract, B, List.extract])
theorem B_bt (l : Bs) (i : Nat) (hi : i < l.length) : bt (B l) (i : Int) = (l[i].toNat : Int) := by
 rw [bt_nat (B l) i (by rw [B_data]; exact hi)]
 congr 2
def dec (n : Nat) : Bs := if n < 10 then [UInt8.ofNat (48 + n)] else dec (n / 10) ++ [UInt8.ofNat (48 + n % 10)]
theorem dec_small (n : Nat) (h : n < 10) : dec n = [UInt8.ofNat (48 + n)] := by rw [dec, if_pos h]
theorem dec_big (n : Nat) (h : ¬ n < 10) : dec n = dec (n / 10) ++ [UInt8.ofNat (48 + n % 10)] := by rw [dec, if_neg h]
theorem dec_len (k : Nat) : ∀ n, n < 10 ^ (k + 1) → (dec n).length ≤ k + 1 := by
 induction k with
 | zero => intro n h; rw [dec_small n (by omega)]; simp
 | succ k ih =>
  intro n h
  by_cases hn : n < 10
  ·rw [dec_small n hn]; simp
  ·rw [dec_big n hn, List.length_append]
   have : n / 10 < 10 ^ (k + 1) := by
    have e : 10 ^ (k + 1 + 1) = 10 ^ (k + 1) * 10 := Nat.pow_succ ..
    omega
   have := ih _ this
   simp only [List.length_cons, List.length_nil]; omega
theorem dec_pos (n : Nat) : 0 < (dec n).length := by
 by_cases hn : n < 10
 ·rw [dec_small n hn]; simp
 ·rw [dec_big n hn]; simp
theorem ev_decimal (n : Nat) : n ≤ 1000001 → Ev (fun k => spec_PatchDecimal.f k (n : Int)) (B (dec n)) := by
 induction n using Nat.strongRecOn with
 | _ n ih =>
  intro hn
  refine Ev.succ ?_
  simp only [spec_PatchDecimal.f]
  by_cases h : (n : Int) < 10
  ·refine Ev.if_pos h ?_
   rw [dec_small n (by omega)]
   have e : (wrap64 (48 + (n : Int))) % 256 = ((48 + n : Nat) : Int) := by unfold wrap64; omega
   rw [e]
   exact Ev.const _
  ·refine Ev.if_neg h ?_
   rw [dec_big n (by omega)]
   have e1 : wrap64 (Int.tdiv (n : Int) 10) = ((n / 10 : Nat) : Int) := by
    rw [show Int.tdiv (n : Int) 10 = ((n / 10 : Nat) : Int) from by rw [Int.tdiv_eq_ediv_of_nonneg (by omega)]; omega]
    exact w64 _ (by omega)
   have e2 : (wrap64 (48 + Int.tmod (n : Int) 10)) % 256 = ((48 + n % 10 : Nat) : Int) := by
    rw [show Int.tmod (n : Int) 10 = ((n % 10 : Nat) : Int) from by rw [Int.tmod_eq_emod_of_nonneg (by omega)]; omega]
    unfold wrap64; omega
   rw [e1, e2]
   refine Ev.bind (ih (n / 10) (by omega) (by omega)) ?_
   simp only [Option.bind_some]
   have hl := dec_len 6 (n / 10) (by omega)
   refine Ev.if_pos ?_ ?_
   ·rw [B_size, strOfNums_size]; simp only [List.length_cons, List.length_nil]; omega
   ·rw [show strOfNums [((48 + n % 10 : Nat) : Int)] = B [UInt8.ofNat (48 + n % 10)] from rfl, B_append]
    exact Ev.const _
def span (s l : Nat) : Bs := if l = 0 then dec s ++ [44, 48] else if l = 1 then dec (s + 1) else (dec (s + 1) ++ [44]) ++ dec l
theorem span_len (s l : Nat) (hs : s ≤ 1000000) (hl : l ≤ 1000000) : (span s l).length ≤ 15 := by
 have h1 := dec_len 6 s (by omega)
 have h2 := dec_len 6 (s + 1) (by omega)
 have h3 := dec_len 6 l (by omega)
 unfold span
 split
 ·simp; omega
 ·split
  ·omega
  ·simp; omega
theorem ev_span (s l : Nat) (hs : s ≤ 1000000) (hl : l ≤ 1000000) : Ev (fun k => spec_patchSpan.f k (s : Int) (l : Int)) (B (span s l)) := by
 simp only [spec_patchSpan.f]
 have h1 := dec_len 6 s (by omega)
 have h2 := dec_len 6 (s + 1) (by omega)
 have h3 := dec_len 6 l (by omega)
 have hw : wrap64 ((s : Int) + 1) = ((s + 1 : Nat) : Int) := w64s s (by omega)
 rw [hw]
 unfold span
 by_cases c0 : l = 0
 ·subst c0
  refine Ev.if_pos rfl (Ev.bind (ev_decimal s (by omega)) (Ev.if_pos (by rw [B_size]; omega) ?_))
  rw [if_pos rfl, show (⟨#[44, 48]⟩ : ByteArray) = B [44, 48] from rfl, B_append]
  exact Ev.const _
 ·refine Ev.if_neg (by omega) ?_
  rw [if_neg c0]
  by_cases c1 : l = 1
  ·subst c1
   refine Ev.if_pos rfl (Ev.bind (ev_decimal (s + 1) (by omega)) ?_)
   rw [if_pos rfl]
   exact Ev.const _
  ·refine Ev.if_neg (by omega) (Ev.bind (ev_decimal (s + 1) (by omega)) (Ev.if_pos (by rw [B_size]; omega) ?_))
   rw [if_neg c1, show (⟨#[44]⟩ : ByteArray) = B [44] from rfl, B_append]
   refine Ev.bind (ev_decimal l (by omega)) (Ev.if_pos (by rw [B_size, B_size, List.length_append]; simp only [List.length_cons, List.length_nil]; omega) ?_)
   rw [B_append]
   exact Ev.const _
def escSet : List Int := [45, 95, 46, 126, 33, 39, 40, 41, 59, 47, 63, 58, 64, 38, 61, 43, 36, 44, 35, 42]
def escAlnum (c : Int) : Bool := (decide (97 ≤ c) && decide (c ≤ 122)) || (decide (65 ≤ c) && decide (c ≤ 90)) || (decide (48 ≤ c) && decide (c ≤ 57)) || c == 32
def hexL : Bs := [48, 49, 50, 51, 52, 53, 54, 55, 56, 57, 65, 66, 67, 68, 69, 70]
def hexd (n : Nat) : UInt8 := hexL.getD n 0
def escOf (b : Bool) (c : UInt8) : Bs := if b then [c] else [37, hexd (c.toNat / 16), hexd (c.toNat % 16)]
def plainB (c : UInt8) : Bool := escAlnum (c.toNat : Int) || escSet.any fun x => (c.toNat : Int) == x
def escB (c : UInt8) : Bs := escOf (plainB c) c
def esc (l : Bs) : Bs := l.flatMap escB
theorem escB_len (c : UInt8) : (escB c).length ≤ 3 := by unfold escB escOf; split <;> simp
theorem esc_len : ∀ l : Bs, (esc l).length ≤ 3 * l.length
 | [] => by simp [esc]
 | c :: l => by
  have h1 := escB_len c
  have h2 := esc_len l
  simp only [esc, List.flatMap_cons, List.length_append, List.length_cons] at h2 ⊢
  omega
theorem and15 (c : Nat) (h : c < 256) : Go.bits .and .u8 (c : Int) 15 = ((c % 16 : Nat) : Int) := by
 have : ((List.range 256).all fun c => Go.bits .and .u8 (c : Int) 15 == ((c % 16 : Nat) : Int)) = true := by kernel_rfl
 exact beq_iff_eq.1 (List.all_eq_true.1 this c (List.mem_range.2 h))
theorem hex_cut (n : Nat) (h : n < 16) : (⟨#[48, 49, 50, 51, 52, 53, 54, 55, 56, 57, 65, 66, 67, 68, 69, 70]⟩ : ByteArray).extract n (n + 1) = B [hexd n] := by
 rw [show (⟨#[48, 49, 50, 51, 52, 53, 54, 55, 56, 57, 65, 66, 67, 68, 69, 70]⟩ : ByteArray) = B hexL from rfl, B_extract]
 have hl : hexL.length = 16 := rfl
 congr 1
 rw [List.drop_eq_getElem_cons (by omega), show n + 1 - n = 1 by omega, List.take_succ_cons, List.take_zero]
 simp [hexd, List.getD, List.getElem?_eq_getElem (show n < hexL.length by omega)]
theorem esc_l1 (s x3 : ByteArray) (i : Nat) (hi : i < s.data.toList.length) (hs : s.size ≤ 40) (h3 : x3.size ≤ 1000) (r : ByteArray) : ∀ n j (b : Bool), j + n = 20 →
  Ev (fun k => spec_PatchEscaped.l0 k s (x3 ++ B (escOf (b || (escSet.drop j).any fun x => (s.data.toList[i].toNat : Int) == x) s.data.toList[i])) (⟨#[48, 49, 50, 51, 52, 53, 54, 55, 56, 57, 65, 66, 67, 68, 69, 70]⟩ : ByteArray) (s.size : Int) ((i + 1 : Nat) : Int)) r →
  Ev (fun k => spec_PatchEscaped.l1 k s x3 (⟨#[48, 49, 50, 51, 52, 53, 54, 55, 56, 57, 65, 66, 67, 68, 69, 70]⟩ : ByteArray) (i : Int) (s.data.toList[i].toNat : Int) b (s.size : Int) (i : Int) escSet (escSet.length : Int) (j : Int)) r
 | 0, j, b, hj, h => by
  obtain rfl : j = 20 := by omega
  refine Ev.succ ?_
  simp only [spec_PatchEscaped.l1]
  have hel : escSet.length = 20 := rfl
  have hsz := size_data s
  refine Ev.if_neg (by omega) ?_
  rw [w64s i (by omega)]
  rw [show (escSet.drop 20) = [] from rfl, List.any_nil, Bool.or_false] at h
  have hc : s.data.toList[i].toNat < 256 := UInt8.toNat_lt _
  cases b with
  | true =>
   have ecut : s.extract (i : Int).toNat ((i + 1 : Nat) : Int).toNat = B [s.data.toList[i]] := by
    have e0 : (s.extract i (i + 1)) = B [s.data.toList[i]] := by
     conv => lhs; rw [← B_of s]
     rw [B_extract]
     congr 1
     rw [List.drop_eq_getElem_cons hi, show i + 1 - i = 1 by omega, List.take_succ_cons, List.take_zero]
    exact e0
   refine Ev.if_pos rfl (Ev.if_pos (by omega) (Ev.if_pos (by omega) (Ev.if_pos (by omega) ?_)))
   rw [ecut]
   refine Ev.if_pos (by rw [B_size]; simp only [List.length_cons, List.length_nil]; omega) ?_
   exact h
  | false =>
   generalize s.data.toList[i] = c at h hc ⊢
   refine Ev.if_neg (by decide) ?_
   have e1 : ((c.toNat : Int) / 16) = ((c.toNat / 16 : Nat) : Int) := by omega
   have e2 := and15 c.toNat hc
   have e3 : (((c.toNat / 16 : Nat) : Int) + 1) % 256 = ((c.toNat / 16 + 1 : Nat) : Int) := by omega
   have e4 : (((c.toNat % 16 : Nat) : Int) + 1) % 256 = ((c.toNat % 16 + 1 : Nat) : Int) := by omega
   rw [e1, e2, e3, e4]
   simp only [Int.toNat_natCast]
   rw [hex_cut (c.toNat / 16) (by omega), hex_cut (c.toNat % 16) (by omega), show (⟨#[37]⟩ : ByteArray) = B [37] from rfl]
   simp only [B_append, B_size]
   refine Ev.if_pos (by omega) (Ev.if_pos (by omega) (Ev.if_pos ?_ (Ev.if_pos ?_ (Ev.if_pos (by omega) (Ev.if_pos (by omega) (Ev.if_pos ?_ (Ev.if_pos ?_ (Ev.if_pos ?_ ?_))))))))
   ·show ((c.toNat / 16 + 1 : Nat) : Int) ≤ 16; omega
   ·simp
   ·show ((c.toNat % 16 + 1 : Nat) : Int) ≤ 16; omega
   ·simp
   ·simp; omega
   ·exact h
 | n + 1, j, b, hj, h => by
  have hel : escSet.length = 20 := rfl
  have hjl : j < escSet.length := by omega
  have hsz := size_data s
  have ih := esc_l1 s x3 i hi hs h3 r n (j + 1) (b || (s.data.toList[i].toNat : Int) == escSet[j]) (by omega) (by
   rw [List.drop_eq_getElem_cons hjl, List.any_cons] at h
   rw [Bool.or_assoc]
   exact h)
  refine Ev.succ ?_
  simp only [spec_PatchEscaped.l1]
  refine Ev.if_pos (by omega) (Ev.if_pos (by omega) (Ev.if_pos (by omega) ?_))
  rw [w64s j (by omega)]
  cases b with
  | true => exact Ev.if_pos rfl (by simpa using ih)
  | false =>
   refine Ev.if_neg (by decide) ?_
   simp only [rd, getD_nat _ _ j hjl]
   simpa using ih
theorem ev_escaped (s : ByteArray) (hs : s.size ≤ 40) : Ev (fun k => spec_PatchEscaped.f k s) (B (esc s.data.toList)) := by
 have hsz := size_data s
 have key := fold_loop0 (fun k x i => spec_PatchEscaped.l0 k s x (⟨#[48, 49, 50, 51, 52, 53, 54, 55, 56, 57, 65, 66, 67, 68, 69, 70]⟩ : ByteArray) (s.size : Int) i) s.data.toList (fun x c => x ++ B (escB c)) (fun i x => x.size ≤ 3 * i) id (⟨#[]⟩ : ByteArray) (by show (B []).size ≤ _; rw [B_size]; simp)
  (fun i hi x hx => by
   have := escB_len s.data.toList[i]
   rw [ByteArray.size_append, B_size]; omega) ?_ ?_
 ·have e : ∀ (l : Bs) (x : Bs), l.foldl (fun x c => x ++ B (escB c)) (B x) = B (x ++ esc l) := by
   intro l
   induction l with
   | nil => intro x; simp [esc]
   | cons c l ih => intro x; rw [List.foldl_cons, B_append, ih]; simp [esc]
  have e2 := e s.data.toList []
  rw [show (⟨#[]⟩ : ByteArray) = B [] from rfl, e2] at key
  exact key
 ·intro x hx
  exact Ev.succ ⟨0, fun k _ => by simp only [spec_PatchEscaped.l0]; rw [if_neg (by omega)]; rfl⟩
 ·intro i hi x r hx hr
  refine Ev.succ ?_
  simp only [spec_PatchEscaped.l0]
  have hb := bt_nat s i hi
  have hfin : ∀ b : Bool, b = escAlnum (s.data.toList[i].toNat : Int) → Ev (fun k => spec_PatchEscaped.j1 k s x (⟨#[48, 49, 50, 51, 52, 53, 54, 55, 56, 57, 65, 66, 67, 68, 69, 70]⟩ : ByteArray) (i : Int) (s.data.toList[i].toNat : Int) b (s.size : Int) (i : Int)) r := by
   intro b hb
   refine Ev.succ ?_
   simp only [spec_PatchEscaped.j1, Option.bind_some]
   refine esc_l1 s x i hi hs (by omega) r 20 0 b rfl ?_
   rw [hb]
   exact hr
  rw [hb]
  refine Ev.if_pos (by omega) (Ev.if_pos (by omega) (Ev.if_pos (by omega) ?_))
  generalize hc : (s.data.toList[i].toNat : Int) = c at hfin ⊢
  have hany : ∀ b : Bool, b = escAlnum c → b = escAlnum c := fun _ h => h
  by_cases a1 : 97 ≤ c <;> by_cases a2 : c ≤ 122 <;> by_cases a3 : 65 ≤ c <;> by_cases a4 : c ≤ 90 <;> by_cases a5 : 48 ≤ c <;> by_cases a6 : c ≤ 57 <;>
   first
   | (exfalso; omega)
   | (simp only [a1, a2, a3, a4, a5, a6, if_true, if_false]; exact hfin _ (by simp [escAlnum, a1, a2, a3, a4, a5, a6]))
def signB (n : Int) : UInt8 := if n = -1 then 45 else if n = 0 then 32 else 43
def lineL (d : S75) : Bs := signB d.f0 :: esc d.f1.data.toList
def hdrL (p : S42) : Bs := [64, 64, 32, 45] ++ span p.f0.toNat p.f2.toNat ++ [32, 43] ++ span p.f1.toNat p.f3.toNat ++ [32, 64, 64]
def linesL (p : S42) : List Bs := hdrL p :: p.f4.map lineL
theorem okDiff_facts {d : S75} (h : okDiff d = true) : (d.f0 = -1 ∨ d.f0 = 0 ∨ d.f0 = 1) ∧ d.f1.data.toList ≠ [] ∧ d.f1.data.toList.all okByte = true ∧ d.f1.size ≤ 40 := by
 simp only [okDiff, okText, Bool.and_eq_true, decide_eq_true_eq] at h
 exact ⟨by omega, h.1.2, h.2.1, h.2.2⟩
theorem okPiece_facts {p : S42} (h : okPiece p = true) : (0 ≤ p.f0 ∧ p.f0 ≤ 1000000) ∧ (0 ≤ p.f1 ∧ p.f1 ≤ 1000000) ∧ (0 ≤ p.f2 ∧ p.f2 ≤ 1000000) ∧ (0 ≤ p.f3 ∧ p.f3 ≤ 1000000) ∧ p.f4 ≠ [] ∧ (∀ d ∈ p.f4, okDiff d = true) ∧ p.f4.length ≤ 8 := by
 simp only [okPiece, okDiffs, okNum, List.all_cons, List.all_nil, Bool.and_eq_true, decide_eq_true_eq, List.all_eq_true, Bool.and_true] at h
 obtain ⟨⟨⟨h0, h1, h2, h3⟩, h4⟩, h5, h6⟩ := h
 exact ⟨h0, h1, h2, h3, h4, h5, h6⟩
theorem ev_lines (p : S42) (h : okPiece p = true) : Ev (fun k => spec_PatchLines.f k p.f0 p.f1 p.f2 p.f3 p.f4) ((linesL p).map fun l => B (l ++ [10])) := by
 obtain ⟨h0, h1, h2, h3, h4, h5, h6⟩ := okPiece_facts h
 simp only [spec_PatchLines.f]
 have e0 : p.f0 = (p.f0.toNat : Int) := by omega
 have e1 : p.f1 = (p.f1.toNat : Int) := by omega
 have e2 : p.f2 = (p.f2.toNat : Int) := by omega
 have e3 : p.f3 = (p.f3.toNat : Int) := by omega
 have s1 := span_len p.f0.toNat p.f2.toNat (by omega) (by omega)
 have s2 := span_len p.f1.toNat p.f3.toNat (by omega) (by omega)
 refine Ev.bind (by rw [e0, e2]; exact ev_span p.f0.toNat p.f2.toNat (by omega) (by omega)) ?_
 rw [show (⟨#[64, 64, 32, 45]⟩ : ByteArray) = B [64, 64, 32, 45] from rfl, show (⟨#[32, 43]⟩ : ByteArray) = B [32, 43] from rfl, show (⟨#[32, 64, 64, 10]⟩ : ByteArray) = B [32, 64, 64, 10] from rfl]
 simp only [B_append, B_size]
 refine Ev.if_pos (by omega) (Ev.if_pos (by simp; omega) ?_)
 refine Ev.bind (by rw [e1, e3]; exact ev_span p.f1.toNat p.f3.toNat (by omega) (by omega)) ?_
 simp only [B_append, B_size]
 refine Ev.if_pos (by simp; omega) (Ev.if_pos (by simp; omega) ?_)
 have key := fold_loop0 (fun k x i => spec_PatchLines.l0 k x p.f4 (p.f4.length : Int) i) p.f4 (fun x d => x ++ [B (lineL d ++ [10])]) (fun i x => x.length = i + 1) id [B (hdrL p ++ [10])] rfl
  (fun i hi x hx => by simp [hx]) ?_ ?_
 ·rw [foldl_snoc] at key
  have eh : hdrL p ++ [10] = [64, 64, 32, 45] ++ span p.f0.toNat p.f2.toNat ++ [32, 43] ++ span p.f1.toNat p.f3.toNat ++ [32, 64, 64, 10] := by simp [hdrL]
  rw [eh] at key
  refine Ev.congr (f := _) ?_ (fun _ => rfl)
  have e9 : ((linesL p).map fun l => B (l ++ [10])) = id ([B ([64, 64, 32, 45] ++ span p.f0.toNat p.f2.toNat ++ [32, 43] ++ span p.f1.toNat p.f3.toNat ++ [32, 64, 64, 10])] ++ p.f4.map fun d => B (lineL d ++ [10])) := by
   simp [linesL, hdrL]
  rw [e9]
  exact key
 ·intro x hx
  exact Ev.succ ⟨0, fun k _ => by simp only [spec_PatchLines.l0]; rw [if_neg (by omega)]; rfl⟩
 ·intro i hi x r hx hr
  refine Ev.succ ?_
  simp only [spec_PatchLines.l0]
  refine Ev.if_pos (by omega) (Ev.if_pos (by omega) (Ev.if_pos (by omega) ?_))
  rw [w64s i (by omega)]
  simp only [rd_T75, getD_nat _ _ i hi, Option.bind_some]
  obtain ⟨g1, g2, g3, g4⟩ := okDiff_facts (h5 _ (List.getElem_mem hi))
  have esg : rdOf ByteArray.empty [(⟨#[45]⟩ : ByteArray), (⟨#[32]⟩ : ByteArray), (⟨#[43]⟩ : ByteArray)] (wrap64 (p.f4[i].f0 + 1)) = B [signB p.f4[i].f0] := by
   rcases g1 with g | g | g
   ·rw [g, show wrap64 (-1 + 1) = 0 by unfold wrap64; omega]; rfl
   ·rw [g, show wrap64 (0 + 1) = 1 by unfold wrap64; omega]; rfl
   ·rw [g, show wrap64 (1 + 1) = 2 by unfold wrap64; omega]; rfl
  have hw : 0 ≤ wrap64 (p.f4[i].f0 + 1) ∧ wrap64 (p.f4[i].f0 + 1) < 3 := by
   unfold wrap64; omega
  refine Ev.if_pos hw.1 (Ev.if_pos hw.2 ?_)
  refine Ev.bind (ev_escaped _ g4) ?_
  have hel := esc_len p.f4[i].f1.data.toList
  have hsz := size_data p.f4[i].f1
  rw [esg, show (⟨#[10]⟩ : ByteArray) = B [10] from rfl]
  simp only [B_append, B_size]
  refine Ev.if_pos (by simp; omega) (Ev.if_pos (by simp; omega) (Ev.if_pos (by omega) ?_))
  exact hr
def q_zzIndex.l0 : Nat → ByteArray → ByteArray → Int → Option (Int)
 | 0, _, _, _ => none
 | k + 1, x0, x1, x5 => if (wrap64 (x5 + (x1.size : Int))) ≤ (x0.size : Int) then (if 0 ≤ x5 then (if x5 ≤ (wrap64 (x5 + (x1.size : Int))) then (if (x0.extract (x5 : Int).toNat ((wrap64 (x5 + (x1.size : Int))) : Int).toNat).toList = x1.toList then (some x5) else (q_zzIndex.l0 k x0 x1 (wrap64 (x5 + 1)))) else (none)) else (none)) else (some (-1))
def q_zzIndex.f (k : Nat) (a0 : ByteArray) (a1 : ByteArray) : Option (Int) := q_zzIndex.l0 k a0 a1 0
theorem q_zzIndex.calls (k : Nat) (a0 : ByteArray) (a1 : ByteArray) (r : Int) (w : World) (h : q_zzIndex.f k a0 a1 = some r) :
  Calls Tryz.prog 68 #[.string a0, .string a1] w fun e w' => e = .returned (.int .i64 r) ∧ Drawn0 w w' := by
 have H : (q_zzIndex.l0 k a0 a1 0) = some r := h
 clear h
 have H' := Aside0.mk H
 clear H
 go_enter Tryz.func68, Tryz.ntmps68
 go_wp2
 go_loopg [5] k (fun kq v5 w' => ∃ (x5_1 : Int), v5 = .int .i64 x5_1 ∧ Aside0 (q_zzIndex.l0 kq a0 a1 x5_1 = some r) ∧ Aside0 (kq ≤ k) ∧ Drawn0 w w')
 case atStart => exact ⟨(0), (by first | rfl | simp [*]), H', ⟨Nat.le_refl _⟩, by repeat (first | exact Drawn0.refl _ | apply Drawn0.step)⟩
 case round =>
  clear H'
  obtain ⟨x5_1, rfl, HA, HK1, ⟨m1, rfl⟩⟩ := hrel
  cases gk with
  | zero => exact absurd HA.out (by simp [q_zzIndex.l0])
  | succ k1 =>
   have H := HA.out; clear HA
   simp only [q_zzIndex.l0] at H
   by_cases c3 : (wrap64 (x5_1 + (a1.size : Int))) ≤ (a0.size : Int)
   ·rw [if_pos c3] at H
    have c3b0 := decide_eq_true c3
    clear c3
    replace H := yes_ H; obtain ⟨c4, H⟩ := H
    have c4b0 := eq_true c4
    have c4b1 := decide_eq_true c4
    clear c4
    replace H := yes_ H; obtain ⟨c5, H⟩ := H
    have c5b0 := eq_true c5
    have c5b1 := decide_eq_true c5
    have c6b0 := eq_true (of_decide_eq_true (by assumption) : (wrap64 (x5_1 + (a1.size : Int))) ≤ (a0.size : Int))
    by_cases c7 : (a0.extract (x5_1 : Int).toNat ((wrap64 (x5_1 + (a1.size : Int))) : Int).toNat).toList = a1.toList
    ·rw [if_pos c7] at H
     have c7b0 := beq_iff_eq.mpr c7
     have c7b1 := bne_eq_false_iff_eq.mpr c7
     clear c7
     obtain rfl := Option.some.inj H
     go_wp2
     go_ret
     exact ⟨by first | rfl | (simp; done) | (simp [*]; done), by repeat (first | exact Drawn0.refl _ | apply Drawn0.step)⟩
    ·rw [if_neg c7] at H
     have c7b0 := beq_eq_false_iff_ne.mpr c7
     have c7b1 := bne_iff_ne.mpr c7
     have H' := Aside0.mk H
     clear H
     go_wp2
     go_roundg k1
     case measure => have := HK1.out; omega
     case rel => exact ⟨(wrap64 (x5_1 + 1)), (by first | rfl | simp [*]), H', ⟨by have := HK1.out; omega⟩, by repeat (first | exact Drawn0.refl _ | apply Drawn0.step)⟩
   ·rw [if_neg c3] at H
    have c3b0 := decide_eq_false c3
    clear c3
    obtain rfl := Option.some.inj H
    go_wp2
    go_ret
    exact ⟨by first | rfl | (simp; done) | (simp [*]; done), by repeat (first | exact Drawn0.refl _ | apply Drawn0.step)⟩
def q_zzSplit.l1 : Nat → ByteArray → ByteArray → List ByteArray → Option (List ByteArray)
 | 0, _, _, _ => none
 | k + 1, x0, x1, x5 => (q_zzIndex.f k x0 x1).bind fun t646 => (if t646 < 0 then (if x5.length < 8796093022208 then (some (x5 ++ [x0])) else (none)) else (if 0 ≤ t646 then (if t646 ≤ (x0.size : Int) then (if x5.length < 8796093022208 then (if 0 ≤ (wrap64 (t646 + (x1.size : Int))) then (if (wrap64 (t646 + (x1.size : Int))) ≤ (x0.size : Int) then (q_zzSplit.l1 k (x0.extract ((wrap64 (t646 + (x1.size : Int))) : Int).toNat x0.size) x1 (x5 ++ [x0.extract 0 (t646 : Int).toNat])) else (none)) else (none)) else (none)) else (none)) else (none)))
def q_zzSplit.f (k : Nat) (a0 : ByteArray) (a1 : ByteArray) : Option (List ByteArray) := if (a1.size : Int) = 0 then (none) else (q_zzSplit.l1 k a0 a1 ([] : List ByteArray))
theorem q_zzSplit.calls (k : Nat) (a0 : ByteArray) (a1 : ByteArray) (r : List ByteArray) (w : World) (h : q_zzSplit.f k a0 a1 = some r) :
  Calls Tryz.prog 37 #[.string a0, .string a1] w fun e w' => ∃ v0_ : Value, e = .returned (v0_) ∧ Kd.R Kd.string 9 w' w.heap.size (fun _ => True) v0_ r ∧ Below w.heap.size w w' := by
 have HB := aS_ (Below.refl w.heap.size w)
 have H : (if (a1.size : Int) = 0 then (none) else (q_zzSplit.l1 k a0 a1 ([] : List ByteArray))) = some r := h
 clear h
 by_cases c3 : (a1.size : Int) = 0
 ·rw [if_pos c3] at H
  exact absurd H (by simp)
 ·rw [if_neg c3] at H
  have c3b0 := beq_eq_false_iff_ne.mpr c3
  have c3b1 := bne_iff_ne.mpr c3
  have H' := Aside0.mk H
  clear H
  go_enter Tryz.func37, Tryz.ntmps37
  go_wp2
  go_loopg [0, 5] k (fun kq v0 v5 w' => ∃ (x0_1 : ByteArray) (x5_1 : List ByteArray), v0 = .string x0_1 ∧ Aside0 (q_zzSplit.l1 kq x0_1 a1 x5_1 = some r) ∧ Aside0 (kq ≤ k) ∧ Aside0 (Kd.R Kd.string 9 w' w.heap.size (fun _ => True) v5 x5_1) ∧ Aside0 (Below w.heap.size w w'))
  case atStart => exact ⟨(a0), (([] : List ByteArray)), (by first | rfl | simp [*]), H', ⟨Nat.le_refl _⟩, ⟨by first | exact Kd.R_nil _ _ _ _ _ | exact Kd.S_nil _ _ _ _ _⟩, ⟨bel_ HB.out⟩⟩
  case round =>
   clear H'
   obtain ⟨x0_1, x5_1, rfl, HA, HK1, HO_5, HB⟩ := hrel
   cases gk with
   | zero => exact absurd HA.out (by simp [q_zzSplit.l1])
   | succ k1 =>
    have H := HA.out; clear HA
    simp only [q_zzSplit.l1] at H
    replace H := Option.bind_eq_some_iff.mp H
    obtain ⟨t646, A40, H⟩ := H
    try dsimp only at H
    have A4 := Aside0.mk A40
    clear A40
    by_cases c5 : t646 < 0
    ·rw [if_pos c5] at H
     have c5b0 := decide_eq_true c5
     clear c5
     replace H := yes_ H; obtain ⟨c6, H⟩ := H
     have LMc6 := Aside0.mk c6
     clear c6
     obtain ⟨y647, hy647⟩ : ∃ y_ : List ByteArray, y_ = (x5_1 ++ [x0_1]) := ⟨_, rfl⟩
     replace H : (some y647) = some r := by first | (rw [hy647]; with_reducible exact H) | (have H2_ := (Option.bind_some _ _).symm.trans H; rw [hy647]; with_reducible exact H2_) | (have H2_ := (Option.bind_some _ _).symm.trans H; with_reducible exact H2_) | with_reducible exact H | (rw [hy647]; exact H) | exact H
     have Ny647 := Aside0.mk hy647
     clear hy647
     obtain rfl := Option.some.inj H
     go_wp2_with (first | ((with_reducible refine gate_callee (f := 68) rfl ?_); refine goesL_ (some 39) rfl rfl Tryz.func68 (by kernel_rfl) rfl #[.string x0_1, .string a1] rfl (by (try simp only [List.map_toArray, List.map_cons, List.map_nil]); first | done | rfl | (simp only [List.length_drop, List.length_take]; rfl)) ?_; (with_reducible refine (q_zzIndex.calls k1 x0_1 a1 t646 _ A4.out).mono ?_); rintro e w' ⟨rfl, ⟨nd, rfl⟩⟩; refine ⟨_, rfl, ?_⟩) | ((with_reducible refine gate_builtin (b := .append) (xs := #[.tmp 42, .tmp 44]) rfl ?_); at_builtin; refine Kd.R_append Kd.string (w0 := w) w.heap.size rfl (.tmp 42) (.tmp 44) 61 9 (.string ⟨#[]⟩) 16 rfl Tryz.underlying61 info9 rfl (by decide) (by omega) u5 x5_1 x0_1 [.string x0_1] (fun _ => True) (fun _ => False) rfl rfl ?aP (fun _ hk => hk.elim) ?aF ?aO ?aB ?aS ?aL ?_; (case aP => exact rfl); (case aB => exact (bel_ HB.out)); (case aF => exact (fun _ _ => trivial)); (case aO => exact (Kd.R_st HO_5.out)); (case aS => exact (bz_ (bel_ HB.out))); (case aL => have := LMc6.out; omega); intro v648 w7 ho hb hg hat; rw [← Ny647.out] at ho; replace HB := aS_ (hb); have HO649 := aS_ (ho); clear HO_5; clear ho hb hg hat))
     go_ret
     exact ⟨_, by first | rfl | (simp [*, errW_none, errW_some] <;> rfl), Kd.R_st HO649.out, bel_ HB.out⟩
    ·rw [if_neg c5] at H
     have c5b0 := decide_eq_false c5
     clear c5
     replace H := yes_ H; obtain ⟨c8, H⟩ := H
     have c8b0 := eq_true c8
     have c8b1 := decide_eq_true c8
     clear c8
     replace H := yes_ H; obtain ⟨c9, H⟩ := H
     have c9b0 := eq_true c9
     have c9b1 := decide_eq_true c9
     clear c9
     replace H := yes_ H; obtain ⟨c10, H⟩ := H
     have LMc10 := Aside0.mk c10
     clear c10
     obtain ⟨y650, hy650⟩ : ∃ y_ : List ByteArray, y_ = (x5_1 ++ [x0_1.extract 0 (t646 : Int).toNat]) := ⟨_, rfl⟩
     replace H : (if 0 ≤ (wrap64 (t646 + (a1.size : Int))) then (if (wrap64 (t646 + (a1.size : Int))) ≤ (x0_1.size : Int) then (q_zzSplit.l1 k1 (x0_1.extract ((wrap64 (t646 + (a1.size : Int))) : Int).toNat x0_1.size) a1 y650) else (none)) else (none)) = some r := by first | (rw [hy650]; with_reducible exact H) | (have H2_ := (Option.bind_some _ _).symm.trans H; rw [hy650]; with_reducible exact H2_) | (have H2_ := (Option.bind_some _ _).symm.trans H; with_reducible exact H2_) | with_reducible exact H | (rw [hy650]; exact H) | exact H
     have Ny650 := Aside0.mk hy650
     clear hy650
     obtain ⟨ji11, hji11⟩ : ∃ j_ : Int, (wrap64 (t646 + (a1.size : Int))) = j_ := ⟨_, rfl⟩
     first | rw [hji11] at H | simp only [hji11] at H
     (try rw [hji11] at A4)
     have hji11w : (IntKind.i64.wrap (t646 + (a1.size : Int))) = ji11 := (i64_w _).trans hji11
     replace H := yes_ H; obtain ⟨c12, H⟩ := H
     have c12b0 := eq_true c12
     have c12b1 := decide_eq_true c12
     clear c12
     replace H := yes_ H; obtain ⟨c13, H⟩ := H
     have c13b0 := eq_true c13
     have c13b1 := decide_eq_true c13
     clear c13
     have H' := Aside0.mk H
     clear H
     go_wp2_with (first | ((with_reducible refine gate_callee (f := 68) rfl ?_); refine goesL_ (some 39) rfl rfl Tryz.func68 (by kernel_rfl) rfl #[.string x0_1, .string a1] rfl (by (try simp only [List.map_toArray, List.map_cons, List.map_nil]); first | done | rfl | (simp only [List.length_drop, List.length_take]; rfl)) ?_; (with_reducible refine (q_zzIndex.calls k1 x0_1 a1 t646 _ A4.out).mono ?_); rintro e w' ⟨rfl, ⟨nd, rfl⟩⟩; refine ⟨_, rfl, ?_⟩) | ((with_reducible refine gate_builtin (b := .append) (xs := #[.tmp 46, .tmp 50]) rfl ?_); at_builtin; refine Kd.R_append Kd.string (w0 := w) w.heap.size rfl (.tmp 46) (.tmp 50) 61 9 (.string ⟨#[]⟩) 16 rfl Tryz.underlying61 info9 rfl (by decide) (by omega) u5 x5_1 (x0_1.extract 0 (t646 : Int).toNat) [.string (x0_1.extract 0 (t646 : Int).toNat)] (fun _ => True) (fun _ => False) rfl rfl ?aP (fun _ hk => hk.elim) ?aF ?aO ?aB ?aS ?aL ?_; (case aP => exact rfl); (case aB => exact (bel_ HB.out)); (case aF => exact (fun _ _ => trivial)); (case aO => exact (Kd.R_st HO_5.out)); (case aS => exact (bz_ (bel_ HB.out))); (case aL => have := LMc10.out; omega); intro v651 w14 ho hb hg hat; rw [← Ny650.out] at ho; replace HB := aS_ (hb); have HO652 := aS_ (ho); clear HO_5; clear ho hb hg hat))
     go_roundg k1
     case measure => have := HK1.out; omega
     case rel => exact ⟨(x0_1.extract ((ji11) : Int).toNat x0_1.size), (y650), (by first | rfl | (simp; done) | (simp only [← hji11] <;> (first | rfl | simp)) | (simp [*]; done)), H', ⟨by have := HK1.out; omega⟩, ⟨Kd.R_st HO652.out⟩, ⟨bel_ HB.out⟩⟩
def q_zzReplace.l0 : Nat → ByteArray → ByteArray → ByteArray → ByteArray → Option (ByteArray)
 | 0, _, _, _, _ => none
 | k + 1, x0, x1, x2, x7 => (q_zzIndex.f k x0 x1).bind fun t718 => (if t718 < 0 then (if x7.size + x0.size ≤ 9223372036854775807 then (some (x7 ++ x0)) else (none)) else (if 0 ≤ t718 then (if t718 ≤ (x0.size : Int) then (if (x0.extract 0 (t718 : Int).toNat).size + x2.size ≤ 9223372036854775807 then (if x7.size + ((x0.extract 0 (t718 : Int).toNat) ++ x2).size ≤ 9223372036854775807 then (if 0 ≤ (wrap64 (t718 + (x1.size : Int))) then (if (wrap64 (t718 + (x1.size : Int))) ≤ (x0.size : Int) then (q_zzReplace.l0 k (x0.extract ((wrap64 (t718 + (x1.size : Int))) : Int).toNat x0.size) x1 x2 (x7 ++ ((x0.extract 0 (t718 : Int).toNat) ++ x2))) else (none)) else (none)) else (none)) else (none)) else (none)) else (none)))
def q_zzReplace.f (k : Nat) (a0 : ByteArray) (a1 : ByteArray) (a2 : ByteArray) : Option (ByteArray) := q_zzReplace.l0 k a0 a1 a2 (⟨#[]⟩ : ByteArray)
theorem q_zzReplace.calls (k : Nat) (a0 : ByteArray) (a1 : ByteArray) (a2 : ByteArray) (r : ByteArray) (w : World) (h : q_zzReplace.f k a0 a1 a2 = some r) :
  Calls Tryz.prog 41 #[.string a0, .string a1, .string a2] w fun e w' => e = .returned (.string r) ∧ Drawn0 w w' := by
 have H : (q_zzReplace.l0 k a0 a1 a2 (⟨#[]⟩ : ByteArray)) = some r := h
 clear h
 have H' := Aside0.mk H
 clear H
 go_enter Tryz.func41, Tryz.ntmps41
 go_wp2
 go_loopg [0, 7] k (fun kq v0 v7 w' => ∃ (x0_1 : ByteArray) (x7_1 : ByteArray), v0 = .string x0_1 ∧ v7 = .string x7_1 ∧ Aside0 (q_zzReplace.l0 kq x0_1 a1 a2 x7_1 = some r) ∧ Aside0 (kq ≤ k) ∧ Drawn0 w w')
 case atStart => exact ⟨(a0), ((⟨#[]⟩ : ByteArray)), (by first | rfl | simp [*]), (by first | rfl | simp [*]), H', ⟨Nat.le_refl _⟩, by repeat (first | exact Drawn0.refl _ | apply Drawn0.step)⟩
 case round =>
  clear H'
  obtain ⟨x0_1, x7_1, rfl, rfl, HA, HK1, ⟨m1, rfl⟩⟩ := hrel
  cases gk with
  | zero => exact absurd HA.out (by simp [q_zzReplace.l0])
  | succ k1 =>
   have H := HA.out; clear HA
   simp only [q_zzReplace.l0] at H
   replace H := Option.bind_eq_some_iff.mp H
   obtain ⟨t718, A40, H⟩ := H
   try dsimp only at H
   have A4 := Aside0.mk A40
   clear A40
   by_cases c5 : t718 < 0
   ·rw [if_pos c5] at H
    have c5b0 := decide_eq_true c5
    clear c5
    replace H := yes_ H; obtain ⟨c6, H⟩ := H
    have c6b0 := eq_true c6
    have c6b1 := decide_eq_true c6
    try have c6b2 : (9223372036854775807 < x7_1.size + x0_1.size) = False := eq_false (Nat.not_lt.2 c6)
    obtain rfl := Option.some.inj H
    go_wp2_with (first | ((with_reducible refine gate_callee (f := 68) rfl ?_); refine goesL_ (some 11) rfl rfl Tryz.func68 (by kernel_rfl) rfl #[.string x0_1, .string a1] rfl (by (try simp only [List.map_toArray, List.map_cons, List.map_nil]); first | done | rfl | (simp only [List.length_drop, List.length_take]; rfl)) ?_; (with_reducible refine (q_zzIndex.calls k1 x0_1 a1 t718 _ A4.out).mono ?_); rintro e w' ⟨rfl, ⟨nd, rfl⟩⟩; refine ⟨_, rfl, ?_⟩))
    go_ret
    exact ⟨by first | rfl | (simp; done) | (simp [*]; done), by repeat (first | exact Drawn0.refl _ | apply Drawn0.step)⟩
   ·rw [if_neg c5] at H
    have c5b0 := decide_eq_false c5
    clear c5
    replace H := yes_ H; obtain ⟨c7, H⟩ := H
    have c7b0 := eq_true c7
    have c7b1 := decide_eq_true c7
    clear c7
    replace H := yes_ H; obtain ⟨c8, H⟩ := H
    have c8b0 := eq_true c8
    have c8b1 := decide_eq_true c8
    clear c8
    replace H := yes_ H; obtain ⟨c9, H⟩ := H
    have c9b0 := eq_true c9
    have c9b1 := decide_eq_true c9
    try have c9b2 : (9223372036854775807 < (x0_1.extract 0 (t718 : Int).toNat).size + a2.size) = False := eq_false (Nat.not_lt.2 c9)
    replace H := yes_ H; obtain ⟨c10, H⟩ := H
    have c10b0 := eq_true c10
    have c10b1 := decide_eq_true c10
    try have c10b2 : (9223372036854775807 < x7_1.size + ((x0_1.extract 0 (t718 : Int).toNat) ++ a2).size) = False := eq_false (Nat.not_lt.2 c10)
    obtain ⟨ji11, hji11⟩ : ∃ j_ : Int, (wrap64 (t718 + (a1.size : Int))) = j_ := ⟨_, rfl⟩
    first | rw [hji11] at H | simp only [hji11] at H
    (try rw [hji11] at A4)
    have hji11w : (IntKind.i64.wrap (t718 + (a1.size : Int))) = ji11 := (i64_w _).trans hji11
    replace H := yes_ H; obtain ⟨c12, H⟩ := H
    have c12b0 := eq_true c12
    have c12b1 := decide_eq_true c12
    clear c12
    replace H := yes_ H; obtain ⟨c13, H⟩ := H
    have c13b0 := eq_true c13
    have c13b1 := decide_eq_true c13
    clear c13
    have H' := Aside0.mk H
    clear H
    go_wp2_with (first | ((with_reducible refine gate_callee (f := 68) rfl ?_); refine goesL_ (some 11) rfl rfl Tryz.func68 (by kernel_rfl) rfl #[.string x0_1, .string a1] rfl (by (try simp only [List.map_toArray, List.map_cons, List.map_nil]); first | done | rfl | (simp only [List.length_drop, List.length_take]; rfl)) ?_; (with_reducible refine (q_zzIndex.calls k1 x0_1 a1 t718 _ A4.out).mono ?_); rintro e w' ⟨rfl, ⟨nd, rfl⟩⟩; refine ⟨_, rfl, ?_⟩))
    go_roundg k1
    case measure => have := HK1.out; omega
    case rel => exact ⟨(x0_1.extract ((ji11) : Int).toNat x0_1.size), (x7_1 ++ ((x0_1.extract 0 (t718 : Int).toNat) ++ a2)), (by first | rfl | (simp; done) | (simp only [← hji11] <;> (first | rfl | simp)) | (simp [*]; done)), (by first | rfl | simp [*]), H', ⟨by have := HK1.out; omega⟩, by repeat (first | exact Drawn0.refl _ | apply Drawn0.step)⟩
mutual
def q_zzDigit.j0 : Nat → Int → Bool → Option (Int)
 | 0, _, _ => none
 | k + 1, x0, x3 => if x3 = true then (some ((x0 - 48) % 256)) else (if 97 ≤ x0 then (q_zzDigit.j1 k x0 (decide (x0 ≤ 102))) else (q_zzDigit.j1 k x0 false))
def q_zzDigit.j1 : Nat → Int → Bool → Option (Int)
 | 0, _, _ => none
 | k + 1, x0, x12 => if x12 = true then (some ((((x0 - 97) % 256) + 10) % 256)) else (if 65 ≤ x0 then (if x0 ≤ 70 then (some ((((x0 - 65) % 256) + 10) % 256)) else (some 16)) else (some 16))
end
def q_zzDigit.f (k : Nat) (a0 : Int) : Option (Int) := if 48 ≤ a0 then (q_zzDigit.j0 k a0 (decide (a0 ≤ 57))) else (q_zzDigit.j0 k a0 false)
theorem q_zzDigit.calls (k : Nat) (a0 : Int) (r : Int) (w : World) (h : q_zzDigit.f k a0 = some r) :
  Calls Tryz.prog 73 #[.int .u8 a0] w fun e w' => e = .returned (.int .u8 r) ∧ Drawn0 w w' := by
 have H : (if 48 ≤ a0 then (q_zzDigit.j0 k a0 (decide (a0 ≤ 57))) else (q_zzDigit.j0 k a0 false)) = some r := h
 clear h
 have HC2 := Aside0.mk H
 clear H
 go_enter Tryz.func73, Tryz.ntmps73
 go_upto_region 1 with (fail)
 go_cut [3] (fun v3 wc => ∃ (kq : Nat) (x3_1 : Bool), v3 = .bool x3_1 ∧ Aside0 (q_zzDigit.j0 kq a0 x3_1 = some r) ∧ Aside0 (kq ≤ k) ∧ Drawn0 w wc)
 case first =>
  have H := HC2.out
  clear HC2
  by_cases c3 : 48 ≤ a0
  ·rw [if_pos c3] at H
   have c3b0 := decide_eq_true c3
   clear c3
   (first | rw [c3b0] | (simp only [i64_w]; rw [c3b0]) | skip)
   have H' := Aside0.mk H
   clear H
   go_wp2
   go_meet
   case rel => exact ⟨_, (decide (a0 ≤ 57)), (by first | rfl | simp [*]), H', ⟨by first | omega | exact Nat.le_refl _⟩, by repeat (first | exact Drawn0.refl _ | apply Drawn0.step)⟩
  ·rw [if_neg c3] at H
   have c3b0 := decide_eq_false c3
   clear c3
   (first | rw [c3b0] | (simp only [i64_w]; rw [c3b0]) | skip)
   have H' := Aside0.mk H
   clear H
   go_wp2
   go_meet
   case rel => exact ⟨_, (false), (by first | rfl | simp [*]), H', ⟨by first | omega | exact Nat.le_refl _⟩, by repeat (first | exact Drawn0.refl _ | apply Drawn0.step)⟩
 case rest =>
  clear HC2
  obtain ⟨kq, x3_1, rfl, HA, HJ1, ⟨mc1, rfl⟩⟩ := hcut
  cases kq with
  | zero => exact absurd HA.out (by simp [q_zzDigit.j0])
  | succ kj1 =>
   have H := HA.out; clear HA
   simp only [q_zzDigit.j0] at H
   by_cases c4 : x3_1 = true
   ·subst c4
    rw [if_pos rfl] at H
    obtain rfl := Option.some.inj H
    go_wp2
    go_ret
    exact ⟨by first | rfl | (simp; done) | (simp [*]; done), by repeat (first | exact Drawn0.refl _ | apply Drawn0.step)⟩
   ·replace c4 := Bool.eq_false_iff.mpr c4
    subst c4
    rw [if_neg (show ¬ (false = true) by decide)] at H
    have HC5 := Aside0.mk H
    clear H
    go_upto_region 3 with (fail)
    go_cut [12] (fun v12 wc => ∃ (kq : Nat) (x12_4 : Bool), v12 = .bool x12_4 ∧ Aside0 (q_zzDigit.j1 kq a0 x12_4 = some r) ∧ Aside0 (kq ≤ kj1) ∧ Drawn0 w wc)
    case first =>
     have H := HC5.out
     clear HC5
     by_cases c6 : 97 ≤ a0
     ·rw [if_pos c6] at H
      have c6b0 := decide_eq_true c6
      clear c6
      (first | rw [c6b0] | (simp only [i64_w]; rw [c6b0]) | skip)
      have H' := Aside0.mk H
      clear H
      go_wp2
      go_meet
      case rel => exact ⟨_, (decide (a0 ≤ 102)), (by first | rfl | simp [*]), H', ⟨by have := HJ1.out; first | omega | exact Nat.le_refl _⟩, by repeat (first | exact Drawn0.refl _ | apply Drawn0.step)⟩
     ·rw [if_neg c6] at H
      have c6b0 := decide_eq_false c6
      clear c6
      (first | rw [c6b0] | (simp only [i64_w]; rw [c6b0]) | skip)
      have H' := Aside0.mk H
      clear H
      go_wp2
      go_meet
      case rel => exact ⟨_, (false), (by first | rfl | simp [*]), H', ⟨by have := HJ1.out; first | omega | exact Nat.le_refl _⟩, by repeat (first | exact Drawn0.refl _ | apply Drawn0.step)⟩
    case rest =>
     clear HC5
     obtain ⟨kq, x12_4, rfl, HA, HJ4, ⟨mc4, rfl⟩⟩ := hcut
     cases kq with
     | zero => exact absurd HA.out (by simp [q_zzDigit.j1])
     | succ kj4 =>
      have H := HA.out; clear HA
      simp only [q_zzDigit.j1] at H
      by_cases c7 : x12_4 = true
      ·subst c7
       rw [if_pos rfl] at H
       obtain rfl := Option.some.inj H
       go_wp2
       go_ret
       exact ⟨by first | rfl | (simp; done) | (simp [*]; done), by repeat (first | exact Drawn0.refl _ | apply Drawn0.step)⟩
      ·replace c7 := Bool.eq_false_iff.mpr c7
       subst c7
       rw [if_neg (show ¬ (false = true) by decide)] at H
       by_cases c8 : 65 ≤ a0
       ·rw [if_pos c8] at H
        have c8b0 := decide_eq_true c8
        clear c8
        by_cases c9 : a0 ≤ 70
        ·rw [if_pos c9] at H
         have c9b0 := decide_eq_true c9
         clear c9
         obtain rfl := Option.some.inj H
         go_wp2
         go_ret
         exact ⟨by first | rfl | (simp; done) | (simp [*]; done), by repeat (first | exact Drawn0.refl _ | apply Drawn0.step)⟩
        ·rw [if_neg c9] at H
         have c9b0 := decide_eq_false c9
         clear c9
         obtain rfl := Option.some.inj H
         go_wp2
         go_ret
         exact ⟨by first | rfl | (simp; done) | (simp [*]; done), by repeat (first | exact Drawn0.refl _ | apply Drawn0.step)⟩
       ·rw [if_neg c8] at H
        have c8b0 := decide_eq_false c8
        clear c8
        obtain rfl := Option.some.inj H
        go_wp2
        go_ret
        exact ⟨by first | rfl | (simp; done) | (simp [*]; done), by repeat (first | exact Drawn0.refl _ | apply Drawn0.step)⟩
mutual
def q_zzQueryUnescape.l0 : Nat → ByteArray → List Int → Int → Option (ByteArray × Option Int)
 | 0, _, _, _ => none
 | k + 1, x0, x4, x5 => if x5 < (x0.size : Int) then (if 0 ≤ x5 then (if (bt x0 x5) = 37 then (if (wrap64 (x5 + 2)) ≥ (x0.size : Int) then (q_zzQueryUnescape.j1 k x0 x4 x5 true) else (if 0 ≤ (wrap64 (x5 + 1)) then (if (wrap64 (x5 + 1)) < (x0.size : Int) then ((q_zzDigit.f k (bt x0 (wrap64 (x5 + 1)))).bind fun t719 => (if t719 > 15 then (q_zzQueryUnescape.j1 k x0 x4 x5 true) else (if 0 ≤ (wrap64 (x5 + 2)) then (if (wrap64 (x5 + 2)) < (x0.size : Int) then ((q_zzDigit.f k (bt x0 (wrap64 (x5 + 2)))).bind fun t720 => (q_zzQueryUnescape.j1 k x0 x4 x5 (decide (t720 > 15)))) else (none)) else (none)))) else (none)) else (none))) else (if (bt x0 x5) = 43 then (if x4.length < 140737488355328 then (q_zzQueryUnescape.l0 k x0 (x4 ++ [32]) (wrap64 (x5 + 1))) else (none)) else (if x4.length < 140737488355328 then (q_zzQueryUnescape.l0 k x0 (x4 ++ [bt x0 x5]) (wrap64 (x5 + 1))) else (none)))) else (none)) else (some (strOfNums x4, none))
def q_zzQueryUnescape.j1 : Nat → ByteArray → List Int → Int → Bool → Option (ByteArray × Option Int)
 | 0, _, _, _, _ => none
 | k + 1, x0, x4, x5, x43 => if x43 = true then (none) else (if 0 ≤ (wrap64 (x5 + 1)) then (if (wrap64 (x5 + 1)) < (x0.size : Int) then ((q_zzDigit.f k (bt x0 (wrap64 (x5 + 1)))).bind fun t721 => (if 0 ≤ (wrap64 (x5 + 2)) then (if (wrap64 (x5 + 2)) < (x0.size : Int) then ((q_zzDigit.f k (bt x0 (wrap64 (x5 + 2)))).bind fun t722 => (if x4.length < 140737488355328 then (q_zzQueryUnescape.l0 k x0 (x4 ++ [Go.bits .or .u8 ((t721 * 16) % 256) t722]) (wrap64 ((wrap64 (x5 + 2)) + 1))) else (none))) else (none)) else (none))) else (none)) else (none))
end
def q_zzQueryUnescape.f (k : Nat) (a0 : ByteArray) : Option (ByteArray × Option Int) := q_zzQueryUnescape.l0 k a0 ([] : List Int) 0
def q_zzQueryUnescape.T13 : Bool × List (List Nat × List Nat) := (true, [([], []), ([], []), ([], []), ([2], [2]), ([1, 3], [1, 3]), ([4], [4]), ([5], [5]), ([], []), ([], []), ([8], [8]), ([7, 9], [7, 9]), ([10, 5], [10]), ([6, 11], [6, 11]), ([12], [12]), ([0, 13, 11], [0, 13]), ([14, 14, 0, 1, 2, 3, 4, 5, 6, 7, 8, 9, 10, 11, 12, 13, 14], [0, 14])])
def q_zzQueryUnescape.B13 : List Nat := [0, 0, 0, 4, 14, 30, 62, 0, 0, 256, 896, 1982, 4094, 8190, 16383, 32767]
theorem q_zzQueryUnescape.tab13 : rtab .any (opsOf Tryz.f42 13) = q_zzQueryUnescape.T13 := by kernel_rfl
theorem q_zzQueryUnescape.bits13 : waitsOk q_zzQueryUnescape.T13.2 q_zzQueryUnescape.B13 = true := by kernel_rfl
theorem q_zzQueryUnescape.calls (k : Nat) (a0 : ByteArray) (r1 : ByteArray) (r2 : Option Int) (w : World) (h : q_zzQueryUnescape.f k a0 = some (r1, r2)) :
  Calls Tryz.prog 42 #[.string a0] w fun e w' => e = .returned (.tuple #[.string r1, errW r2]) ∧ Below w.heap.size w w' := by
 have HB := aS_ (Below.refl w.heap.size w)
 have H : (q_zzQueryUnescape.l0 k a0 ([] : List Int) 0) = some (r1, r2) := h
 clear h
 have H' := Aside0.mk H
 clear H
 go_enter Tryz.func42, Tryz.ntmps42
 go_wp2
 go_loopg [0, 4, 5] k (fun kq v0 v4 v5 w' => ∃ (x0_1 : ByteArray) (x4_1 : List Int) (x5_1 : Int), v0 = .string x0_1 ∧ v5 = .int .i64 x5_1 ∧ Aside0 (q_zzQueryUnescape.l0 kq x0_1 x4_1 x5_1 = some (r1, r2)) ∧ Aside0 (kq ≤ k) ∧ Aside0 (Kd.R (Kd.int .u8) 5 w' w.heap.size (fun _ => True) v4 x4_1) ∧ Aside0 (Below w.heap.size w w'))
 case atStart => exact ⟨(a0), (([] : List Int)), (0), (by first | rfl | simp [*]), (by first | rfl | simp [*]), H', ⟨Nat.le_refl _⟩, ⟨by first | exact Kd.R_nil _ _ _ _ _ | exact Kd.S_nil _ _ _ _ _⟩, ⟨bel_ HB.out⟩⟩
 case round =>
  clear H'
  obtain ⟨x0_1, x4_1, x5_1, rfl, rfl, HA, HK1, HO_4, HB⟩ := hrel
  cases gk with
  | zero => exact absurd HA.out (by simp [q_zzQueryUnescape.l0])
  | succ k1 =>
   have H := HA.out; clear HA
   simp only [q_zzQueryUnescape.l0] at H
   by_cases c2 : x5_1 < (x0_1.size : Int)
   ·rw [if_pos c2] at H
    have c2b0 := decide_eq_true c2
    clear c2
    replace H := yes_ H; obtain ⟨c3, H⟩ := H
    have c3b0 := decide_eq_true c3
    clear c3
    by_cases c5 : (bt x0_1 x5_1) = 37
    ·rw [if_pos c5] at H
     have c5b0 := beq_iff_eq.mpr c5
     have c5b1 := bne_eq_false_iff_eq.mpr c5
     clear c5
     have HC6 := Aside0.mk H
     clear H
     have p4 : 0 ≤ (x5_1 : Int) := of_decide_eq_true (by assumption)
     have q4 : x5_1 < (x0_1.size : Int) := of_decide_eq_true (by assumption)
     have hx4 := bt_at x0_1 x5_1
     replace p4 := eq_true p4
     replace q4 := eq_true q4
     go_upto_region 8 with (fail)
     go_cut [43] (fun v43 wc => ∃ (kq : Nat) (x43_5 : Bool), v43 = .bool x43_5 ∧ Aside0 (q_zzQueryUnescape.j1 kq x0_1 x4_1 x5_1 x43_5 = some (r1, r2)) ∧ Aside0 (kq ≤ k1) ∧ Aside0 (Kd.R (Kd.int .u8) 5 wc w.heap.size (fun _ => True) u4 x4_1) ∧ Aside0 (Below w.heap.size w wc))
     case first =>
      have H := HC6.out
      clear HC6
      by_cases c7 : (wrap64 (x5_1 + 2)) ≥ (x0_1.size : Int)
      ·rw [if_pos c7] at H
       have c7b0 : decide ((x0_1.size : Int) ≤ (wrap64 (x5_1 + 2))) = true := decide_eq_true c7
       clear c7
       (first | rw [c7b0] | (simp only [i64_w]; rw [c7b0]) | skip)
       have H' := Aside0.mk H
       clear H
       go_wp2
       go_meet
       case rel => exact ⟨_, (true), (by first | rfl | simp [*]), H', ⟨by have := HK1.out; first | omega | exact Nat.le_refl _⟩, ⟨Kd.R_st HO_4.out⟩, ⟨bel_ HB.out⟩⟩
      ·rw [if_neg c7] at H
       have c7b0 : decide ((x0_1.size : Int) ≤ (wrap64 (x5_1 + 2))) = false := decide_eq_false c7
       clear c7
       (first | rw [c7b0] | (simp only [i64_w]; rw [c7b0]) | skip)
       obtain ⟨ji8, hji8⟩ : ∃ j_ : Int, (wrap64 (x5_1 + 1)) = j_ := ⟨_, rfl⟩
       first | rw [hji8] at H | simp only [hji8] at H
       have hji8w : (IntKind.i64.wrap (x5_1 + 1)) = ji8 := (i64_w _).trans hji8
       replace H := yes_ H; obtain ⟨c9, H⟩ := H
       have c9b0 := decide_eq_true c9
       clear c9
       replace H := yes_ H; obtain ⟨c10, H⟩ := H
       have c10b0 := decide_eq_true c10
       clear c10
       replace H := Option.bind_eq_some_iff.mp H
       obtain ⟨t719, A120, H⟩ := H
       try dsimp only at H
       have A12 := Aside0.mk A120
       clear A120
       by_cases c13 : t719 > 15
       ·rw [if_pos c13] at H
        have c13b0 : decide (15 < t719) = true := decide_eq_true c13
        clear c13
        have H' := Aside0.mk H
        clear H
        have p11 : 0 ≤ ((ji8) : Int) := of_decide_eq_true (by assumption)
        have q11 : (ji8) < (x0_1.size : Int) := of_decide_eq_true (by assumption)
        have hx11 := bt_at x0_1 (ji8)
        replace p11 := eq_true p11
        replace q11 := eq_true q11
        go_wp2_with (first | (go_at_call 73; (with_reducible refine (q_zzDigit.calls k1 (bt x0_1 (ji8)) t719 _ A12.out).mono ?_); rintro e w' ⟨rfl, ⟨nd, rfl⟩⟩))
        go_meet
        case rel => exact ⟨_, (true), (by first | rfl | simp [*]), H', ⟨by have := HK1.out; first | omega | exact Nat.le_refl _⟩, ⟨Kd.R_st HO_4.out⟩, ⟨bel_ HB.out⟩⟩
       ·rw [if_neg c13] at H
        have c13b0 : decide (15 < t719) = false := decide_eq_false c13
        clear c13
        obtain ⟨ji14, hji14⟩ : ∃ j_ : Int, (wrap64 (x5_1 + 2)) = j_ := ⟨_, rfl⟩
        first | rw [hji14] at H | simp only [hji14] at H
        (try rw [hji14] at c7b0)
        (try rw [hji14] at A12)
        have hji14w : (IntKind.i64.wrap (x5_1 + 2)) = ji14 := (i64_w _).trans hji14
        replace H := yes_ H; obtain ⟨c15, H⟩ := H
        have c15b0 := decide_eq_true c15
        clear c15
        replace H := yes_ H; obtain ⟨c16, H⟩ := H
        have c16b0 := decide_eq_true c16
        clear c16
        replace H := Option.bind_eq_some_iff.mp H
        obtain ⟨t720, A180, H⟩ := H
        try dsimp only at H
        have A18 := Aside0.mk A180
        clear A180
        have H' := Aside0.mk H
        clear H
        have p11 : 0 ≤ ((ji8) : Int) := of_decide_eq_true (by assumption)
        have q11 : (ji8) < (x0_1.size : Int) := of_decide_eq_true (by assumption)
        have hx11 := bt_at x0_1 (ji8)
        replace p11 := eq_true p11
        replace q11 := eq_true q11
        go_wp2_with (first | (go_at_call 73; (with_reducible refine (q_zzDigit.calls k1 (bt x0_1 (ji8)) t719 _ A12.out).mono ?_); rintro e w' ⟨rfl, ⟨nd, rfl⟩⟩; have p17 : 0 ≤ ((ji14) : Int) := of_decide_eq_true (by assumption); have q17 : (ji14) < (x0_1.size : Int) := of_decide_eq_true (by assumption); have hx17 := bt_at x0_1 (ji14); replace p17 := eq_true p17; replace q17 := eq_true q17) | (go_at_call 73; (with_reducible refine (q_zzDigit.calls k1 (bt x0_1 (ji14)) t720 _ A18.out).mono ?_); rintro e w' ⟨rfl, ⟨nd, rfl⟩⟩))
        go_meet
        case rel => exact ⟨_, (decide (t720 > 15)), (by first | rfl | simp [*]), H', ⟨by have := HK1.out; first | omega | exact Nat.le_refl _⟩, ⟨Kd.R_st HO_4.out⟩, ⟨bel_ HB.out⟩⟩
     case rest =>
      clear HC6
      obtain ⟨kq, x43_5, rfl, HA, HJ5, HO_4, HB⟩ := hcut
      cases kq with
      | zero => exact absurd HA.out (by simp [q_zzQueryUnescape.j1])
      | succ kj5 =>
       have H := HA.out; clear HA
       simp only [q_zzQueryUnescape.j1] at H
       by_cases c19 : x43_5 = true
       ·subst c19
        rw [if_pos rfl] at H
        exact absurd H (by simp)
       ·replace c19 := Bool.eq_false_iff.mpr c19
        subst c19
        rw [if_neg (show ¬ (false = true) by decide)] at H
        obtain ⟨ji20, hji20⟩ : ∃ j_ : Int, (wrap64 (x5_1 + 1)) = j_ := ⟨_, rfl⟩
        first | rw [hji20] at H | simp only [hji20] at H
        have hji20w : (IntKind.i64.wrap (x5_1 + 1)) = ji20 := (i64_w _).trans hji20
        replace H := yes_ H; obtain ⟨c21, H⟩ := H
        have c21b0 := decide_eq_true c21
        clear c21
        replace H := yes_ H; obtain ⟨c22, H⟩ := H
        have c22b0 := decide_eq_true c22
        clear c22
        replace H := Option.bind_eq_some_iff.mp H
        obtain ⟨t721, A240, H⟩ := H
        try dsimp only at H
        have A24 := Aside0.mk A240
        clear A240
        obtain ⟨ji25, hji25⟩ : ∃ j_ : Int, (wrap64 (x5_1 + 2)) = j_ := ⟨_, rfl⟩
        first | rw [hji25] at H | simp only [hji25] at H
        (try rw [hji25] at A24)
        have hji25w : (IntKind.i64.wrap (x5_1 + 2)) = ji25 := (i64_w _).trans hji25
        replace H := yes_ H; obtain ⟨c26, H⟩ := H
        have c26b0 := decide_eq_true c26
        clear c26
        replace H := yes_ H; obtain ⟨c27, H⟩ := H
        have c27b0 := decide_eq_true c27
        clear c27
        replace H := Option.bind_eq_some_iff.mp H
        obtain ⟨t722, A290, H⟩ := H
        try dsimp only at H
        have A29 := Aside0.mk A290
        clear A290
        replace H := yes_ H; obtain ⟨c30, H⟩ := H
        have LMc30 := Aside0.mk c30
        clear c30
        obtain ⟨y723, hy723⟩ : ∃ y_ : List Int, y_ = (x4_1 ++ [Go.bits .or .u8 ((t721 * 16) % 256) t722]) := ⟨_, rfl⟩
        replace H : (q_zzQueryUnescape.l0 kj5 x0_1 y723 (wrap64 ((ji25) + 1))) = some (r1, r2) := by first | (rw [hy723]; with_reducible exact H) | (have H2_ := (Option.bind_some _ _).symm.trans H; rw [hy723]; with_reducible exact H2_) | (have H2_ := (Option.bind_some _ _).symm.trans H; with_reducible exact H2_) | with_reducible exact H | (rw [hy723]; exact H) | exact H
        have Ny723 := Aside0.mk hy723
        clear hy723
        have H' := Aside0.mk H
        clear H
        try go_wp2
        replace HO_4 := aS_ (Kd.R_drew HO_4.out)
        replace HB := aS_ (bD_ HB.out)
        have p23 : 0 ≤ ((ji20) : Int) := of_decide_eq_true (by assumption)
        have q23 : (ji20) < (x0_1.size : Int) := of_decide_eq_true (by assumption)
        have hx23 := bt_at x0_1 (ji20)
        replace p23 := eq_true p23
        replace q23 := eq_true q23
        have p28 : 0 ≤ ((ji25) : Int) := of_decide_eq_true (by assumption)
        have q28 : (ji25) < (x0_1.size : Int) := of_decide_eq_true (by assumption)
        have hx28 := bt_at x0_1 (ji25)
        replace p28 := eq_true p28
        replace q28 := eq_true q28
        refine sA_ (fun w' => True) [] q_zzQueryUnescape.tab13 q_zzQueryUnescape.bits13 trivial (fun hHeld HT_ HW_ => ?_)
        generalize wc.drew = w31 at HO_4 HB hHeld ⊢
        refine pA_ 0 (h:=pA_ 1 (h:=pA_ 2 (h:=pA_ 3 (h:=pA_ 7 (h:=pA_ 8 (h:=pA_ 9 (h:=tA_ 4 (h:=tA_ 10 (h:=?_)))))))))
        refine oA_ 5 (some 61) (h:=fun K hK => ?_)
        refine goes_ Tryz.func73 (by kernel_rfl) rfl #[.int .u8 (bt x0_1 (ji20))] (by rfl) rfl rfl (by (try simp only [List.map_toArray, List.map_cons, List.map_nil]); first | done | (simp only [hji20]; rfl) | rfl | (simp only [List.length_drop, List.length_take]; rfl)) ?_
        with_reducible refine (q_zzDigit.calls kj5 (bt x0_1 (ji20)) t721 _ A24.out).mono ?_
        rintro e w' ⟨rfl, ⟨nd, rfl⟩⟩
        refine ⟨_, rfl, ?_⟩
        refine hK.out _ _ trivial (fun hHeld => ?_)
        clear hK K
        refine nA_ (h:=?_)
        refine pA_ 6 (h:=?_)
        refine oA_ 11 (some 67) (h:=fun K hK => ?_)
        refine goes_ Tryz.func73 (by kernel_rfl) rfl #[.int .u8 (bt x0_1 (ji25))] (by rfl) rfl rfl (by (try simp only [List.map_toArray, List.map_cons, List.map_nil]); first | done | (simp only [hji25]; rfl) | rfl | (simp only [List.length_drop, List.length_take]; rfl)) ?_
        with_reducible refine (q_zzDigit.calls kj5 (bt x0_1 (ji25)) t722 _ A29.out).mono ?_
        rintro e w' ⟨rfl, ⟨nd, rfl⟩⟩
        refine ⟨_, rfl, ?_⟩
        refine hK.out _ _ trivial (fun hHeld => ?_)
        clear hK K
        refine nA_ (h:=?_)
        refine pA_ 12 (h:=?_)
        refine oA_ 13 (some 69) (h:=fun K hK => ?_)
        refine value_ (w1 := ?_) (v := ?_) (by rfl) rfl ?_ ?_
        rotate_left 2
        ·go_simp
         constructor
         ·rfl
         ·rfl
        refine hK.out _ _ trivial (fun hHeld => ?_)
        clear hK K
        refine nA_ (h:=?_)
        refine oA_ 14 (some 70) (h:=fun K hK => ?_)
        refine Kd.R_append_step (Kd.int .u8) (w0 := w) w.heap.size (by rfl) (.tmp 56) (.tmp 69) 97 5 (.int .u8 0) 1 rfl Tryz.underlying97 info5 rfl (by decide) (by omega) u4 x4_1 (Go.bits .or .u8 ((t721 * 16) % 256) t722) [.int .u8 (Go.bits .or .u8 ((t721 * 16) % 256) t722)] (fun _ => True) (fun _ => False) rfl rfl ?aP (fun _ hk => hk.elim) ?aF ?aO ?aB ?aS ?aL ?_
        (case aP => exact rfl)
        (case aB => exact (bel_ HB.out))
        (case aF => exact (fun _ _ => trivial))
        (case aO => exact (Kd.R_st HO_4.out))
        (case aS => exact (bz_ (bel_ HB.out)))
        (case aL => have := LMc30.out; omega)
        intro v724 w32 ho hb hg hat
        rw [← Ny723.out] at ho
        replace HB := aS_ (hb)
        have HO725 := aS_ (ho)
        clear HO_4
        clear ho hb hg hat
        refine hK.out _ _ trivial (fun hHeld => ?_)
        clear hK K
        refine nA_ (h:=?_)
        refine pA_ 15 (h:=?_)
        refine done_ (done_of HT_.out (by kernel_rfl)) ?_
        try go_wp2
        go_roundg kj5
        case measure => have := HK1.out; have := HJ5.out; omega
        case rel => exact ⟨(x0_1), (y723), (wrap64 ((ji25) + 1)), (by first | rfl | simp [*]), (by first | rfl | (simp; done) | (simp only [← hji25] <;> (first | rfl | simp)) | (simp [*]; done)), H', ⟨by have := HK1.out; have := HJ5.out; omega⟩, ⟨Kd.R_st HO725.out⟩, ⟨bel_ HB.out⟩⟩
    ·rw [if_neg c5] at H
     have c5b0 := beq_eq_false_iff_ne.mpr c5
     have c5b1 := bne_iff_ne.mpr c5
     by_cases c33 : (bt x0_1 x5_1) = 43
     ·rw [if_pos c33] at H
      have c33b0 := beq_iff_eq.mpr c33
      have c33b1 := bne_eq_false_iff_eq.mpr c33
      clear c33
      replace H := yes_ H; obtain ⟨c34, H⟩ := H
      have LMc34 := Aside0.mk c34
      clear c34
      obtain ⟨y726, hy726⟩ : ∃ y_ : List Int, y_ = (x4_1 ++ [32]) := ⟨_, rfl⟩
      replace H : (q_zzQueryUnescape.l0 k1 x0_1 y726 (wrap64 (x5_1 + 1))) = some (r1, r2) := by first | (rw [hy726]; with_reducible exact H) | (have H2_ := (Option.bind_some _ _).symm.trans H; rw [hy726]; with_reducible exact H2_) | (have H2_ := (Option.bind_some _ _).symm.trans H; with_reducible exact H2_) | with_reducible exact H | (rw [hy726]; exact H) | exact H
      have Ny726 := Aside0.mk hy726
      clear hy726
      have H' := Aside0.mk H
      clear H
      have p4 : 0 ≤ (x5_1 : Int) := of_decide_eq_true (by assumption)
      have q4 : x5_1 < (x0_1.size : Int) := of_decide_eq_true (by assumption)
      have hx4 := bt_at x0_1 x5_1
      replace p4 := eq_true p4
      replace q4 := eq_true q4
      go_wp2_with (first | ((with_reducible refine gate_builtin (b := .append) (xs := #[.tmp 75, .tmp 76]) rfl ?_); at_builtin; refine Kd.R_append (Kd.int .u8) (w0 := w) w.heap.size rfl (.tmp 75) (.tmp 76) 97 5 (.int .u8 0) 1 rfl Tryz.underlying97 info5 rfl (by decide) (by omega) u4 x4_1 32 [.int .u8 32] (fun _ => True) (fun _ => False) rfl rfl ?aP (fun _ hk => hk.elim) ?aF ?aO ?aB ?aS ?aL ?_; (case aP => exact rfl); (case aB => exact (bel_ HB.out)); (case aF => exact (fun _ _ => trivial)); (case aO => exact (Kd.R_st HO_4.out)); (case aS => exact (bz_ (bel_ HB.out))); (case aL => have := LMc34.out; omega); intro v727 w35 ho hb hg hat; rw [← Ny726.out] at ho; replace HB := aS_ (hb); have HO728 := aS_ (ho); clear HO_4; clear ho hb hg hat))
      go_roundg k1
      case measure => have := HK1.out; omega
      case rel => exact ⟨(x0_1), (y726), (wrap64 (x5_1 + 1)), (by first | rfl | simp [*]), (by first | rfl | simp [*]), H', ⟨by have := HK1.out; omega⟩, ⟨Kd.R_st HO728.out⟩, ⟨bel_ HB.out⟩⟩
     ·rw [if_neg c33] at H
      have c33b0 := beq_eq_false_iff_ne.mpr c33
      have c33b1 := bne_iff_ne.mpr c33
      replace H := yes_ H; obtain ⟨c37, H⟩ := H
      have LMc37 := Aside0.mk c37
      clear c37
      obtain ⟨y729, hy729⟩ : ∃ y_ : List Int, y_ = (x4_1 ++ [bt x0_1 x5_1]) := ⟨_, rfl⟩
      replace H : (q_zzQueryUnescape.l0 k1 x0_1 y729 (wrap64 (x5_1 + 1))) = some (r1, r2) := by first | (rw [hy729]; with_reducible exact H) | (have H2_ := (Option.bind_some _ _).symm.trans H; rw [hy729]; with_reducible exact H2_) | (have H2_ := (Option.bind_some _ _).symm.trans H; with_reducible exact H2_) | with_reducible exact H | (rw [hy729]; exact H) | exact H
      have Ny729 := Aside0.mk hy729
      clear hy729
      have H' := Aside0.mk H
      clear H
      have p4 : 0 ≤ (x5_1 : Int) := of_decide_eq_true (by assumption)
      have q4 : x5_1 < (x0_1.size : Int) := of_decide_eq_true (by assumption)
      have hx4 := bt_at x0_1 x5_1
      replace p4 := eq_true p4
      replace q4 := eq_true q4
      have p36 : 0 ≤ (x5_1 : Int) := of_decide_eq_true (by assumption)
      have q36 : x5_1 < (x0_1.size : Int) := of_decide_eq_true (by assumption)
      have hx36 := bt_at x0_1 x5_1
      replace p36 := eq_true p36
      replace q36 := eq_true q36
      go_wp2_with (first | ((with_reducible refine gate_builtin (b := .append) (xs := #[.tmp 15, .tmp 19]) rfl ?_); at_builtin; refine Kd.R_append (Kd.int .u8) (w0 := w) w.heap.size rfl (.tmp 15) (.tmp 19) 97 5 (.int .u8 0) 1 rfl Tryz.underlying97 info5 rfl (by decide) (by omega) u4 x4_1 (bt x0_1 x5_1) [.int .u8 (bt x0_1 x5_1)] (fun _ => True) (fun _ => False) rfl rfl ?aP (fun _ hk => hk.elim) ?aF ?aO ?aB ?aS ?aL ?_; (case aP => exact rfl); (case aB => exact (bel_ HB.out)); (case aF => exact (fun _ _ => trivial)); (case aO => exact (Kd.R_st HO_4.out)); (case aS => exact (bz_ (bel_ HB.out))); (case aL => have := LMc37.out; omega); intro v730 w38 ho hb hg hat; rw [← Ny729.out] at ho; replace HB := aS_ (hb); have HO731 := aS_ (ho); clear HO_4; clear ho hb hg hat))
      go_roundg k1
      case measure => have := HK1.out; omega
      case rel => exact ⟨(x0_1), (y729), (wrap64 (x5_1 + 1)), (by first | rfl | simp [*]), (by first | rfl | simp [*]), H', ⟨by have := HK1.out; omega⟩, ⟨Kd.R_st HO731.out⟩, ⟨bel_ HB.out⟩⟩
   ·rw [if_neg c2] at H
    have c2b0 := decide_eq_false c2
    clear c2
    simp only [Option.some.injEq, Prod.mk.injEq] at H
    obtain ⟨rfl, rfl⟩ := H
    have hcv39 := own_string (P := Tryz.prog) Tryz.underlying97 Tryz.underlying5 Tryz.underlying9 (Kd.own_of_R HO_4.out)
    go_wp2
    go_ret2
    exact ⟨by first | rfl | (simp [*, errW_none, errW_some] <;> rfl), bel_ HB.out⟩
theorem go_loop {σ β ρ : Type} (F : Nat → σ → Int → Option ρ) (l : List β) (step : σ → β → σ) (inv : Nat → σ → Prop) (r : ρ)
  (hinv : ∀ i (hi : i < l.length) s, inv i s → inv (i + 1) (step s l[i]))
  (hgo : ∀ i (hi : i < l.length) s, inv i s → Ev (fun k => F k (step s l[i]) ((i + 1 : Nat) : Int)) r → Ev (fun k => F k s (i : Int)) r) :
  ∀ n i s, i + n = l.length → inv i s → (∀ s', s' = (l.drop i).foldl step s → inv l.length s' → Ev (fun k => F k s' (l.length : Int)) r) → Ev (fun k => F k s (i : Int)) r
 | 0, i, s, h, hi, he => by
  obtain rfl : i = l.length := by omega
  exact he s (by rw [List.drop_length]; rfl) hi
 | n + 1, i, s, h, hi, he => by
  have hl : i < l.length := by omega
  refine hgo i hl s hi (go_loop F l step inv r hinv hgo n (i + 1) _ (by omega) (hinv i hl s hi) ?_)
  intro s' e hs'
  exact he s' (by rw [List.drop_eq_getElem_cons hl, List.foldl_cons]; exact e) hs'
def gapL (e : Bool) : Bs := if e then [10] else []
def blockL (e : Bool) (ls : List Bs) : Bs := ls.flatMap fun l => (l ++ [10]) ++ gapL e
def textL (e : Bool) (ps : List S42) : Bs := ps.flatMap fun p => blockL e (linesL p)
theorem hdrL_len (p : S42) (h : okPiece p = true) : (hdrL p).length ≤ 39 := by
 obtain ⟨h0, h1, h2, h3, h4, h5, h6⟩ := okPiece_facts h
 have s1 := span_len p.f0.toNat p.f2.toNat (by omega) (by omega)
 have s2 := span_len p.f1.toNat p.f3.toNat (by omega) (by omega)
 simp [hdrL]; omega
theorem lineL_len (d : S75) (h : okDiff d = true) : (lineL d).length ≤ 121 := by
 obtain ⟨g1, g2, g3, g4⟩ := okDiff_facts h
 have := esc_len d.f1.data.toList
 have hs := size_data d.f1
 simp [lineL]; omega
theorem linesL_len (p : S42) (h : okPiece p = true) : (linesL p).length ≤ 9 ∧ ∀ l ∈ linesL p, l.length ≤ 121 := by
 obtain ⟨h0, h1, h2, h3, h4, h5, h6⟩ := okPiece_facts h
 refine ⟨by simp [linesL]; omega, fun l hl => ?_⟩
 simp only [linesL, List.mem_cons, List.mem_map] at hl
 rcases hl with rfl | ⟨d, hd, rfl⟩
 ·have := hdrL_len p h; omega
 ·exact lineL_len d (h5 d hd)
theorem ev_block (e : Bool) (ps : List S42) (i : Nat) (hi : i ≤ 100) (ls : List Bs) (hl : ls.length ≤ 9) (hn : ∀ l ∈ ls, l.length ≤ 121) (x : Bs) (hx : x.length ≤ 200000) (r : ByteArray)
  (h : Ev (fun k => laws_patchText.l0 k e (B (x ++ blockL e ls)) ps (ps.length : Int) ((i + 1 : Nat) : Int)) r) :
  Ev (fun k => laws_patchText.l1 k e (B x) ps (ps.length : Int) (i : Int) (ls.map fun l => B (l ++ [10])) ((ls.map fun l => B (l ++ [10])).length : Int) 0) r := by
 have key := go_loop (fun k s j => laws_patchText.l1 k e s ps (ps.length : Int) (i : Int) (ls.map fun l => B (l ++ [10])) ((ls.map fun l => B (l ++ [10])).length : Int) j) ls (fun s l => s ++ B ((l ++ [10]) ++ gapL e))
  (fun j s => s.size ≤ 200000 + 200 * j) r ?_ ?_ ls.length 0 (B x) (by omega) (by rw [B_size]; omega) ?_
 ·exact key
 ·intro j hj s hs
  have := hn _ (List.getElem_mem hj)
  rw [ByteArray.size_append, B_size]
  have hg : (gapL e).length ≤ 1 := by unfold gapL; split <;> simp
  simp only [List.length_append, List.length_cons, List.length_nil]; omega
 ·intro j hj s hs hr
  refine Ev.succ ?_
  simp only [laws_patchText.l1]
  have hlm : (ls.map fun l => B (l ++ [10])).length = ls.length := List.length_map ..
  refine Ev.if_pos (by omega) (Ev.if_pos (by omega) (Ev.if_pos (by omega) ?_))
  rw [w64s j (by omega)]
  have hjm : j < (ls.map fun l => B (l ++ [10])).length := by omega
  have er : rdOf ByteArray.empty (ls.map fun l => B (l ++ [10])) (j : Int) = B (ls[j] ++ [10]) := by
   unfold rdOf; rw [getD_nat _ _ j hjm]; simp
  have := hn _ (List.getElem_mem hj)
  rw [er]
  refine Ev.if_pos (by rw [B_size]; simp only [List.length_append, List.length_cons, List.length_nil]; omega) ?_
  cases e with
  | true =>
   refine Ev.if_pos rfl (Ev.if_pos (by rw [ByteArray.size_append, B_size]; simp only [List.length_append, List.length_cons, List.length_nil]; omega) ?_)
   have e9 : s ++ B ((ls[j] ++ [10]) ++ gapL true) = s ++ B (ls[j] ++ [10]) ++ (⟨#[10]⟩ : ByteArray) := by
    rw [show (⟨#[10]⟩ : ByteArray) = B [10] from rfl, ByteArray.append_assoc, B_append]; rfl
   rw [← e9]
   exact hr
  | false =>
   refine Ev.if_neg (by decide) ?_
   simpa [gapL] using hr
 ·intro s' es hs'
  refine Ev.succ ?_
  simp only [laws_patchText.l1]
  have hlm : (ls.map fun l => B (l ++ [10])).length = ls.length := List.length_map ..
  refine Ev.if_neg (by omega) ?_
  rw [w64s i (by omega)]
  have e2 : ∀ (m : List Bs) (x : Bs), m.foldl (fun s l => s ++ B ((l ++ [10]) ++ gapL e)) (B x) = B (x ++ blockL e m) := by
   intro m
   induction m with
   | nil => intro x; simp [blockL]
   | cons c l ih => intro x; rw [List.foldl_cons, B_append, ih]; simp [blockL]
  rw [List.drop_zero, e2] at es
  rw [es]
  exact h
theorem block_len (e : Bool) : ∀ ls : List Bs, (∀ l ∈ ls, l.length ≤ 121) → (blockL e ls).length ≤ 123 * ls.length
 | [], _ => by simp [blockL]
 | l :: ls, h => by
  have h1 := h l List.mem_cons_self
  have h2 := block_len e ls (fun x hx => h x (List.mem_cons_of_mem _ hx))
  have hg : (gapL e).length ≤ 1 := by unfold gapL; split <;> simp
  simp only [blockL, List.flatMap_cons, List.length_append, List.length_cons, List.length_nil] at h2 ⊢
  omega
theorem ev_patchText (l : List S33) (e : Bool) (hf : fits5 l = true) (hok : ∀ p ∈ l.map toP, okPiece p = true) (hl : l.length ≤ 8) : Ev (fun k => laws_patchText.f k l e) (B (textL e (l.map toP))) := by
 simp only [laws_patchText.f]
 refine Ev.bind (ev_patchesOf l hf) ?_
 have hps : (l.map toP).length ≤ 8 := by rw [List.length_map]; exact hl
 generalize l.map toP = ps at hok hps ⊢
 have e2 : ∀ (m : List S42) (x : Bs), m.foldl (fun s p => s ++ B (blockL e (linesL p))) (B x) = B (x ++ textL e m) := by
  intro m
  induction m with
  | nil => intro x; simp [textL]
  | cons c l ih => intro x; rw [List.foldl_cons, B_append, ih]; simp [textL]
 have key := fold_loop0 (fun k s i => laws_patchText.l0 k e s ps (ps.length : Int) i) ps (fun s p => s ++ B (blockL e (linesL p))) (fun i s => ∃ x, s = B x ∧ x.length ≤ 1107 * i) id (B []) ⟨[], rfl, by simp⟩ ?_ ?_ ?_
 ·have := e2 ps []
  rw [this] at key
  exact key
 ·rintro i hi s ⟨x, rfl, hx⟩
  have h1 := linesL_len _ (hok _ (List.getElem_mem hi))
  have h2 := block_len e _ h1.2
  exact ⟨x ++ blockL e (linesL ps[i]), B_append _ _, by rw [List.length_append]; omega⟩
 ·rintro s ⟨x, rfl, hx⟩
  exact Ev.succ ⟨0, fun k _ => by simp only [laws_patchText.l0]; rw [if_neg (by omega)]; rfl⟩
 ·rintro i hi s r ⟨x, rfl, hx⟩ hr
  refine Ev.succ ?_
  simp only [laws_patchText.l0]
  refine Ev.if_pos (by omega) (Ev.if_pos (by omega) (Ev.if_pos (by omega) ?_))
  simp only [rd_T42, getD_nat _ _ i hi]
  have hp := hok _ (List.getElem_mem hi)
  have h1 := linesL_len _ hp
  refine Ev.bind (ev_lines _ hp) ?_
  refine ev_block e ps i (by omega) (linesL ps[i]) h1.1 h1.2 x (by omega) r ?_
  rw [B_append] at hr
  exact hr
theorem cut1 (l : Bs) (i : Nat) (hi : i < l.length) : (B l).extract i (i + 1) = B [l[i]] := by
 rw [B_extract]
 congr 1
 rw [List.drop_eq_getElem_cons hi, show i + 1 - i = 1 by omega, List.take_succ_cons, List.take_zero]
theorem index_l0 (l : Bs) (c : UInt8) (hl : l.length ≤ 4611686018427387904) (m : Nat) (hm : m ≤ l.length) (hnot : ∀ j (hj : j < l.length), j < m → l[j] ≠ c) (hat : ∀ (hj : m < l.length), l[m] = c) : ∀ n i, i + n = m →
  Ev (fun k => q_zzIndex.l0 k (B l) (B [c]) (i : Int)) (if m < l.length then (m : Int) else -1)
 | 0, i, h => by
  obtain rfl : i = m := by omega
  refine Ev.succ ?_
  simp only [q_zzIndex.l0, B_size, List.length_cons, List.length_nil]
  rw [show ((0 + 1 : Nat) : Int) = 1 from rfl, w64s i (by omega)]
  by_cases hlt : i < l.length
  ·rw [if_pos hlt]
   refine Ev.if_pos (by omega) (Ev.if_pos (by omega) (Ev.if_pos (by omega) ?_))
   refine Ev.if_pos ?_ (Ev.const _)
   simp only [Int.toNat_natCast]
   rw [cut1 l i hlt, hat hlt]
  ·rw [if_neg hlt]
   exact Ev.if_neg (by omega) (Ev.const _)
 | n + 1, i, h => by
  have ih := index_l0 l c hl m hm hnot hat n (i + 1) (by omega)
  refine Ev.succ ?_
  simp only [q_zzIndex.l0, B_size, List.length_cons, List.length_nil]
  rw [show ((0 + 1 : Nat) : Int) = 1 from rfl, w64s i (by omega)]
  refine Ev.if_pos (by omega) (Ev.if_pos (by omega) (Ev.if_pos (by omega) ?_))
  refine Ev.if_neg ?_ ih
  simp only [Int.toNat_natCast]
  rw [cut1 l i (by omega), B_toList, B_toList]
  intro he
  exact hnot i (by omega) (by omega) (List.cons.inj he).1
theorem ev_index_no (l : Bs) (c : UInt8) (hl : l.length ≤ 4611686018427387904) (h : c ∉ l) : Ev (fun k => q_zzIndex.f k (B l) (B [c])) (-1) := by
 have := index_l0 l c hl l.length (Nat.le_refl _) (fun j hj _ he => h (he ▸ List.getElem_mem hj)) (fun hj => absurd hj (by omega)) l.length 0 (by omega)
 rw [if_neg (by omega)] at this
 exact this
theorem ev_index_at (a b : Bs) (c : UInt8) (hl : (a ++ c :: b).length ≤ 4611686018427387904) (h : c ∉ a) : Ev (fun k => q_zzIndex.f k (B (a ++ c :: b)) (B [c])) (a.length : Int) := by
 have := index_l0 (a ++ c :: b) c hl a.length (by simp) (fun j hj hlt he => by
  rw [List.getElem_append_left hlt] at he
  exact h (he ▸ List.getElem_mem hlt)) (fun hj => by simp) a.length 0 (by omega)
 rw [if_pos (by simp)] at this
 exact this
theorem cut_left (a b : Bs) (c : UInt8) : (B (a ++ c :: b)).extract 0 a.length = B a := by rw [B_extract]; simp
theorem cut_right (a b : Bs) (c : UInt8) : (B (a ++ c :: b)).extract (a.length + 1) (a ++ c :: b).length = B b := by
 rw [B_extract]
 congr 1
 rw [show a ++ c :: b = (a ++ [c]) ++ b by simp, show a.length + 1 = (a ++ [c]).length by simp, List.drop_left, List.take_of_length_le (by simp only [List.length_append, List.length_cons, List.length_nil]; omega)]
theorem split_last (l : Bs) (acc : List ByteArray) (hl : l.length ≤ 1000000000000) (ha : acc.length < 8796093022208) (h : 10 ∉ l) : Ev (fun k => q_zzSplit.l1 k (B l) (B [10]) acc) (acc ++ [B l]) := by
 refine Ev.succ ?_
 simp only [q_zzSplit.l1]
 exact Ev.bind (ev_index_no l 10 (by omega) h) (Ev.if_pos (by decide) (Ev.if_pos ha (Ev.const _)))
theorem split_cons (a b : Bs) (acc r : List ByteArray) (hl : (a ++ 10 :: b).length ≤ 1000000000000) (ha : acc.length < 8796093022208) (h : 10 ∉ a) (hr : Ev (fun k => q_zzSplit.l1 k (B b) (B [10]) (acc ++ [B a])) r) :
  Ev (fun k => q_zzSplit.l1 k (B (a ++ 10 :: b)) (B [10]) acc) r := by
 refine Ev.succ ?_
 simp only [q_zzSplit.l1]
 have hl2 : (a ++ 10 :: b).length = a.length + (b.length + 1) := by simp
 refine Ev.bind (ev_index_at a b 10 (by omega) h) (Ev.if_neg (by omega) (Ev.if_pos (by omega) ?_))
 have hw : wrap64 ((a.length : Int) + ((B [10]).size : Int)) = ((a.length + 1 : Nat) : Int) := by rw [B_size]; exact w64s _ (by omega)
 rw [hw]
 simp only [B_size, Int.toNat_natCast]
 rw [cut_left, cut_right]
 exact Ev.if_pos (by omega) (Ev.if_pos ha (Ev.if_pos (by omega) (Ev.if_pos (by omega) hr)))
theorem first_at (c : UInt8) : ∀ l : Bs, c ∈ l → ∃ a b, l = a ++ c :: b ∧ c ∉ a
 | [], h => by cases h
 | x :: l, h => by
  by_cases hx : x = c
  ·subst hx; exact ⟨[], l, rfl, by simp⟩
  ·have hl : c ∈ l := by
    rcases List.mem_cons.1 h with rfl | h
    ·exact absurd rfl hx
    ·exact h
   obtain ⟨a, b, rfl, hn⟩ := first_at c l hl
   refine ⟨x :: a, b, rfl, fun hm => ?_⟩
   rcases List.mem_cons.1 hm with rfl | hm
   ·exact hx rfl
   ·exact hn hm
theorem split_any : ∀ (n : Nat) (l : Bs), l.length ≤ n → ∀ (acc : List ByteArray), n ≤ 1000000000000 → acc.length + n < 8796093022208 → ∃ r, Ev (fun k => q_zzSplit.l1 k (B l) (B [10]) acc) (acc ++ r) := by
 intro n
 induction n with
 | zero =>
  intro l h acc hn ha
  have : l = [] := List.length_eq_zero_iff.1 (by omega)
  subst this
  exact ⟨[B []], split_last [] acc (by simp) (by omega) (by simp)⟩
 | succ n ih =>
  intro l h acc hn ha
  by_cases h10 : 10 ∈ l
  ·obtain ⟨a, b, rfl, hna⟩ := first_at 10 l h10
   have hl : (a ++ 10 :: b).length = a.length + (b.length + 1) := by simp
   obtain ⟨r, hr⟩ := ih b (by omega) (acc ++ [B a]) (by omega) (by rw [List.length_append]; simp only [List.length_cons, List.length_nil]; omega)
   exact ⟨B a :: r, split_cons a b acc _ (by omega) (by omega) hna (by simpa using hr)⟩
  ·exact ⟨[B l], split_last l acc (by omega) (by omega) h10⟩
theorem split_lines : ∀ (ls : List Bs) (rest : Bs) (acc r : List ByteArray), (ls.flatMap (fun l => l ++ [10]) ++ rest).length ≤ 1000000000000 → acc.length + ls.length < 8796093022208 → (∀ l ∈ ls, 10 ∉ l) →
  Ev (fun k => q_zzSplit.l1 k (B rest) (B [10]) (acc ++ ls.map B)) r → Ev (fun k => q_zzSplit.l1 k (B (ls.flatMap (fun l => l ++ [10]) ++ rest)) (B [10]) acc) r
 | [], rest, acc, r, _, _, _, h => by simpa using h
 | l :: ls, rest, acc, r, hl, ha, hn, h => by
  have e : ((l :: ls).flatMap (fun l => l ++ [10]) ++ rest) = l ++ 10 :: (ls.flatMap (fun l => l ++ [10]) ++ rest) := by simp
  rw [e] at hl ⊢
  have hl2 : (l ++ 10 :: (ls.flatMap (fun l => l ++ [10]) ++ rest)).length = l.length + ((ls.flatMap (fun l => l ++ [10]) ++ rest).length + 1) := by simp
  have ha2 : (l :: ls).length = ls.length + 1 := rfl
  refine split_cons l _ acc r hl (by omega) (hn l List.mem_cons_self) ?_
  refine split_lines ls rest (acc ++ [B l]) r (by omega) (by rw [List.length_append]; simp only [List.length_cons, List.length_nil]; omega) (fun x hx => hn x (List.mem_cons_of_mem _ hx)) ?_
  simpa using h
theorem ev_split {l : Bs} {r : List ByteArray} (h : Ev (fun k => q_zzSplit.l1 k (B l) (B [10]) []) r) : Ev (fun k => q_zzSplit.f k (B l) (⟨#[10]⟩ : ByteArray)) r := by
 simp only [q_zzSplit.f]
 exact Ev.if_neg (by decide) h
def replB (c : UInt8) : Bs := if c = 43 then [37, 50, 98] else [c]
def repl (l : Bs) : Bs := l.flatMap replB
theorem repl_no (l : Bs) (h : 43 ∉ l) : repl l = l := by
 induction l with
 | nil => rfl
 | cons c l ih =>
  have hc : c ≠ 43 := fun e => h (e ▸ List.mem_cons_self)
  have := ih (fun hm => h (List.mem_cons_of_mem _ hm))
  simp only [repl, List.flatMap_cons] at this ⊢
  rw [this]
  simp [replB, hc]
theorem repl_len : ∀ l : Bs, (repl l).length ≤ 3 * l.length
 | [] => by simp [repl]
 | c :: l => by
  have h2 := repl_len l
  have h1 : (replB c).length ≤ 3 := by unfold replB; split <;> simp
  simp only [repl, List.flatMap_cons, List.length_append, List.length_cons] at h2 ⊢
  omega
theorem replace_l0 : ∀ (n : Nat) (l acc : Bs), l.length ≤ n → n ≤ 1000000 → acc.length + 3 * l.length ≤ 10000000 → Ev (fun k => q_zzReplace.l0 k (B l) (B [43]) (B [37, 50, 98]) (B acc)) (B (acc ++ repl l)) := by
 intro n
 induction n with
 | zero =>
  intro l acc h hn ha
  have : l = [] := List.length_eq_zero_iff.1 (by omega)
  subst this
  refine Ev.succ ?_
  simp only [q_zzReplace.l0]
  refine Ev.bind (ev_index_no [] 43 (by simp) (by simp)) (Ev.if_pos (by decide) (Ev.if_pos (by rw [B_size, B_size]; simp only [List.length_nil]; omega) ?_))
  rw [B_append]
  exact Ev.const _
 | succ n ih =>
  intro l acc h hn ha
  by_cases h43 : 43 ∈ l
  ·obtain ⟨a, b, rfl, hna⟩ := first_at 43 l h43
   have hl : (a ++ 43 :: b).length = a.length + (b.length + 1) := by simp
   refine Ev.succ ?_
   simp only [q_zzReplace.l0]
   refine Ev.bind (ev_index_at a b 43 (by omega) hna) (Ev.if_neg (by omega) (Ev.if_pos (by omega) ?_))
   have hw : wrap64 ((a.length : Int) + ((B [43]).size : Int)) = ((a.length + 1 : Nat) : Int) := by rw [B_size]; exact w64s _ (by omega)
   rw [hw]
   simp only [B_size, Int.toNat_natCast]
   rw [cut_left, cut_right, B_append]
   simp only [B_size]
   refine Ev.if_pos (by omega) (Ev.if_pos (by simp only [List.length_cons, List.length_nil]; omega) (Ev.if_pos (by simp only [List.length_append, List.length_cons, List.length_nil]; omega) (Ev.if_pos (by omega) (Ev.if_pos (by omega) ?_))))
   rw [B_append]
   have e : acc ++ repl (a ++ 43 :: b) = (acc ++ (a ++ [37, 50, 98])) ++ repl b := by
    have := repl_no a hna
    simp only [repl, List.flatMap_append, List.flatMap_cons] at this ⊢
    rw [this]
    simp [replB]
   rw [e]
   exact ih b _ (by omega) (by omega) (by simp only [List.length_append, List.length_cons, List.length_nil]; omega)
  ·refine Ev.succ ?_
   simp only [q_zzReplace.l0]
   refine Ev.bind (ev_index_no l 43 (by omega) h43) (Ev.if_pos (by decide) (Ev.if_pos (by rw [B_size, B_size]; omega) ?_))
   rw [B_append, repl_no l h43]
   exact Ev.const _
theorem ev_replace (l : Bs) (h : l.length ≤ 1000000) : Ev (fun k => q_zzReplace.f k (B l) (⟨#[43]⟩ : ByteArray) (⟨#[37, 50, 98]⟩ : ByteArray)) (B (repl l)) := by
 simp only [q_zzReplace.f]
 exact replace_l0 l.length l [] (Nat.le_refl _) h (by simp only [List.length_nil]; omega)
def dig (c : Int) : Int := if 48 ≤ c ∧ c ≤ 57 then c - 48 else if 97 ≤ c ∧ c ≤ 102 then c - 87 else if 65 ≤ c ∧ c ≤ 70 then c - 55 else 16
theorem ev_digit (c : Int) (h0 : 0 ≤ c) (h : c < 256) : Ev (fun k => q_zzDigit.f k c) (dig c) := by
 have hj1 : ∀ b : Bool, b = (decide (97 ≤ c) && decide (c ≤ 102)) → ¬ (48 ≤ c ∧ c ≤ 57) → Ev (fun k => q_zzDigit.j1 k c b) (dig c) := by
  intro b hb hn
  refine Ev.succ ?_
  simp only [q_zzDigit.j1]
  cases b with
  | true =>
   have := hb.symm
   simp only [Bool.and_eq_true, decide_eq_true_eq] at this
   rw [show dig c = c - 87 by unfold dig; rw [if_neg hn, if_pos this], show (((c - 97) % 256) + 10) % 256 = c - 87 by omega]
   exact Ev.if_pos rfl (Ev.const _)
  | false =>
   have := hb.symm
   simp only [Bool.and_eq_false_iff, decide_eq_false_iff_not] at this
   have hd : dig c = if 65 ≤ c ∧ c ≤ 70 then c - 55 else 16 := by
    unfold dig
    rw [if_neg hn, if_neg (show ¬ (97 ≤ c ∧ c ≤ 102) by omega)]
   rw [hd]
   refine Ev.if_neg (by decide) ?_
   by_cases h1 : 65 ≤ c
   ·refine Ev.if_pos h1 ?_
    by_cases h2 : c ≤ 70
    ·rw [if_pos (show 65 ≤ c ∧ c ≤ 70 from ⟨h1, h2⟩), show (((c - 65) % 256) + 10) % 256 = c - 55 by omega]
     exact Ev.if_pos h2 (Ev.const _)
    ·rw [if_neg (show ¬ (65 ≤ c ∧ c ≤ 70) by omega)]
     exact Ev.if_neg h2 (Ev.const _)
   ·rw [if_neg (show ¬ (65 ≤ c ∧ c ≤ 70) by omega)]
    exact Ev.if_neg h1 (Ev.const _)
 have hj0 : ∀ b : Bool, b = (decide (48 ≤ c) && decide (c ≤ 57)) → Ev (fun k => q_zzDigit.j0 k c b) (dig c) := by
  intro b hb
  refine Ev.succ ?_
  simp only [q_zzDigit.j0]
  cases b with
  | true =>
   have := hb.symm
   simp only [Bool.and_eq_true, decide_eq_true_eq] at this
   unfold dig
   rw [if_pos this, show (c - 48) % 256 = c - 48 by omega]
   exact Ev.if_pos rfl (Ev.const _)
  | false =>
   have := hb.symm
   simp only [Bool.and_eq_false_iff, decide_eq_false_iff_not] at this
   refine Ev.if_neg (by decide) ?_
   by_cases h1 : 97 ≤ c
   ·exact Ev.if_pos h1 (hj1 _ (by simp [h1]) (by omega))
   ·exact Ev.if_neg h1 (hj1 _ (by simp [h1]) (by omega))
 simp only [q_zzDigit.f]
 by_cases h1 : 48 ≤ c
 ·exact Ev.if_pos h1 (hj0 _ (by simp [h1]))
 ·exact Ev.if_neg h1 (hj0 _ (by simp [h1]))
theorem w64p2 (n : Nat) (h : n < 4611686018427387904) : wrap64 ((n : Int) + 2) = ((n + 1 + 1 : Nat) : Int) := by
 have e : ((n : Int) + 2) = (((n + 1 + 1 : Nat)) : Int) := by omega
 rw [e]
 exact w64 _ (by omega)
def Unit_ (u : Bs) (c : UInt8) : Prop := (u = [c] ∧ c ≠ 37 ∧ c ≠ 43) ∨ ∃ h l : UInt8, u = [37, h, l] ∧ dig (h.toNat : Int) ≤ 15 ∧ dig (l.toNat : Int) ≤ 15 ∧ Go.bits .or .u8 ((dig (h.toNat : Int) * 16) % 256) (dig (l.toNat : Int)) = (c.toNat : Int)
theorem at_drop {l t : Bs} {i : Nat} {c : UInt8} (h : l.drop i = c :: t) : ∃ hi : i < l.length, l[i] = c ∧ l.drop (i + 1) = t := by
 have hi : i < l.length := by
  rcases Nat.lt_or_ge i l.length with h' | h'
  ·exact h'
  ·rw [List.drop_eq_nil_of_le h'] at h; cases h
 refine ⟨hi, ?_⟩
 rw [List.drop_eq_getElem_cons hi] at h
 exact ⟨(List.cons.inj h).1, (List.cons.inj h).2⟩
theorem unescape_l0 (m : Bs) (hm : m.length ≤ 1000000) : ∀ (us : List (Bs × UInt8)) (i : Nat) (acc : List Int), (∀ x ∈ us, Unit_ x.1 x.2) → m.drop i = us.flatMap (·.1) → acc.length + us.length ≤ 2000000 →
  Ev (fun k => q_zzQueryUnescape.l0 k (B m) acc (i : Int)) (strOfNums (acc ++ us.map fun x => (x.2.toNat : Int)), none)
 | [], i, acc, hu, hd, ha => by
  refine Ev.succ ?_
  simp only [q_zzQueryUnescape.l0, B_size]
  have : ¬ i < m.length := by
   intro hi
   rw [List.drop_eq_getElem_cons hi] at hd
   cases hd
  refine Ev.if_neg (by omega) ?_
  simpa using Ev.const _
 | (u, c) :: us, i, acc, hu, hd, ha => by
  have hl : ((u, c) :: us).length = us.length + 1 := rfl
  have ih := fun j acc' => unescape_l0 m hm us j acc' (fun x hx => hu x (List.mem_cons_of_mem _ hx))
  have hal : acc.length < 140737488355328 := by omega
  have hres : acc ++ ((u, c) :: us).map (fun x => (x.2.toNat : Int)) = (acc ++ [(c.toNat : Int)]) ++ us.map (fun x => (x.2.toNat : Int)) := by simp
  rw [hres]
  refine Ev.succ ?_
  simp only [q_zzQueryUnescape.l0, B_size]
  rcases hu _ List.mem_cons_self with ⟨e, hc1, hc2⟩ | ⟨h, l, e, d1, d2, d3⟩
  ·obtain rfl : u = [c] := e
   obtain ⟨hi, hci, hd2⟩ := at_drop (show m.drop i = c :: us.flatMap (·.1) by simpa using hd)
   have hb : bt (B m) (i : Int) = (c.toNat : Int) := by rw [B_bt m i hi, hci]
   have n1 : ¬ (c.toNat : Int) = 37 := fun h_ => hc1 (UInt8.toNat_inj.1 (show c.toNat = 37 by omega))
   have n2 : ¬ (c.toNat : Int) = 43 := fun h_ => hc2 (UInt8.toNat_inj.1 (show c.toNat = 43 by omega))
   rw [hb, w64s i (by omega)]
   exact Ev.if_pos (by omega) (Ev.if_pos (by omega) (Ev.if_neg n1 (Ev.if_neg n2 (Ev.if_pos (by omega) (ih (i + 1) _ hd2 (by rw [List.length_append]; simp only [List.length_cons, List.length_nil]; omega))))))
  ·obtain rfl : u = [37, h, l] := e
   obtain ⟨hi, hci, hd2⟩ := at_drop (show m.drop i = 37 :: h :: l :: us.flatMap (·.1) by simpa using hd)
   obtain ⟨hi1, hci1, hd3⟩ := at_drop hd2
   obtain ⟨hi2, hci2, hd4⟩ := at_drop hd3
   have hb : bt (B m) (i : Int) = 37 := by rw [B_bt m i hi, hci]; rfl
   have hb1 : bt (B m) ((i + 1 : Nat) : Int) = (h.toNat : Int) := by rw [B_bt m (i + 1) hi1, hci1]
   have hb2 : bt (B m) ((i + 1 + 1 : Nat) : Int) = (l.toNat : Int) := by rw [B_bt m (i + 1 + 1) hi2, hci2]
   have hi9 : i < 1000000 := Nat.lt_of_lt_of_le hi hm
   have hw1 := w64s i (Nat.lt_of_lt_of_le hi9 (by decide))
   have hw2 := w64p2 i (Nat.lt_of_lt_of_le hi9 (by decide))
   have hw3 := w64s (i + 1 + 1) (Nat.lt_of_lt_of_le (Nat.lt_of_lt_of_le hi2 hm) (by decide))
   have b1 := UInt8.toNat_lt h
   have b2 := UInt8.toNat_lt l
   have e1 := ev_digit (h.toNat : Int) (Int.natCast_nonneg _) (Int.ofNat_lt.2 b1)
   have e2 := ev_digit (l.toNat : Int) (Int.natCast_nonneg _) (Int.ofNat_lt.2 b2)
   have q1 : (i : Int) < (m.length : Int) := Int.ofNat_lt.2 hi
   have q2 : ((i + 1 : Nat) : Int) < (m.length : Int) := Int.ofNat_lt.2 hi1
   have q3 : ((i + 1 + 1 : Nat) : Int) < (m.length : Int) := Int.ofNat_lt.2 hi2
   rw [hb, hw1, hw2, hb1, hb2]
   refine Ev.if_pos q1 ?_
   refine Ev.if_pos (Int.natCast_nonneg _) ?_
   refine Ev.if_pos rfl ?_
   refine Ev.if_neg (Int.not_le.2 q3) ?_
   refine Ev.if_pos (Int.natCast_nonneg _) ?_
   refine Ev.if_pos q2 ?_
   refine Ev.bind e1 ?_
   refine Ev.if_neg (Int.not_lt.2 d1) ?_
   refine Ev.if_pos (Int.natCast_nonneg _) ?_
   refine Ev.if_pos q3 ?_
   refine Ev.bind e2 ?_
   rw [decide_eq_false (Int.not_lt.2 d2)]
   refine Ev.succ ?_
   simp only [q_zzQueryUnescape.j1, B_size]
   rw [hw1, hw2, hb1, hb2, hw3]
   refine Ev.if_neg (by decide) ?_
   refine Ev.if_pos (Int.natCast_nonneg _) ?_
   refine Ev.if_pos q2 ?_
   refine Ev.bind e1 ?_
   refine Ev.if_pos (Int.natCast_nonneg _) ?_
   refine Ev.if_pos q3 ?_
   refine Ev.bind e2 ?_
   refine Ev.if_pos hal ?_
   rw [d3]
   exact ih (i + 1 + 1 + 1) _ hd4 (by rw [List.length_append]; simp only [List.length_cons, List.length_nil]; omega)
theorem strOfNums_bytes (l : Bs) : strOfNums (l.map fun c => (c.toNat : Int)) = B l := B_ext (by
 rw [strOfNums_data, List.map_map]
 conv => rhs; rw [← List.map_id l]
 exact List.map_congr_left fun c _ => by simp)
theorem ev_unescape (us : List (Bs × UInt8)) (hu : ∀ x ∈ us, Unit_ x.1 x.2) (hl : us.length ≤ 100000) (hm : (us.flatMap (·.1)).length ≤ 1000000) :
  Ev (fun k => q_zzQueryUnescape.f k (B (us.flatMap (·.1)))) (B (us.map (·.2)), none) := by
 have := unescape_l0 (us.flatMap (·.1)) hm us 0 [] hu (by simp) (by simp only [List.length_nil]; omega)
 rw [List.nil_append, show (us.map fun x => (x.2.toNat : Int)) = (us.map (·.2)).map (fun c => (c.toNat : Int)) by simp, strOfNums_bytes] at this
 exact this
def unitOk (c : Nat) : Bool :=
 let b := UInt8.ofNat c; let u := repl (escB b)
 (u == [b] && !(b == 37) && !(b == 43)) || (match u with
  | [37, h, l] => decide (dig (h.toNat : Int) ≤ 15) && decide (dig (l.toNat : Int) ≤ 15) && Go.bits .or .u8 ((dig (h.toNat : Int) * 16) % 256) (dig (l.toNat : Int)) == (b.toNat : Int)
  | _ => false)
theorem unit_all : (List.range 256).all unitOk = true := by kernel_rfl
theorem unit_esc (c : UInt8) : Unit_ (repl (escB c)) c := by
 have h := List.all_eq_true.1 unit_all c.toNat (List.mem_range.2 (UInt8.toNat_lt c))
 unfold unitOk at h
 simp only [UInt8.ofNat_toNat] at h
 generalize repl (escB c) = u at h
 rcases Bool.or_eq_true_iff.1 h with h | h
 ·simp only [Bool.and_eq_true, beq_iff_eq, Bool.not_eq_true', beq_eq_false_iff_ne] at h
  exact .inl ⟨h.1.1, h.1.2, h.2⟩
 ·split at h
  ·rename_i h1 l1 _
   simp only [Bool.and_eq_true, decide_eq_true_eq, beq_iff_eq] at h
   exact .inr ⟨h1, l1, rfl, h.1.1, h.1.2, h.2⟩
  ·cases h
theorem unescape_esc (s : Bs) (hs : s.length ≤ 1000) : Ev (fun k => q_zzQueryUnescape.f k (B (repl (esc s)))) (B s, none) := by
 have e : repl (esc s) = (s.map fun c => (repl (escB c), c)).flatMap (·.1) := by
  simp [repl, esc, List.flatMap_assoc, List.flatMap_map]
 have h1 := repl_len (esc s)
 have h2 := esc_len s
 have := ev_unescape (s.map fun c => (repl (escB c), c)) (fun x hx => by
  obtain ⟨c, _, rfl⟩ := List.mem_map.1 hx
  exact unit_esc c) (by rw [List.length_map]; omega) (by rw [← e]; omega)
 rw [← e] at this
 simpa [List.map_map, Function.comp_def] using this
def ErrAt (w : World) (v : Value) : Option ByteArray → Prop
 | none => v = .nilIface
 | some m => ∃ g, v = .iface 121 (.pointer (some ⟨g, 0, none⟩)) ∧ w.heap[g]? = some (.cells #[.string m] 123 (0, 0))
theorem new_err (m : ByteArray) (w : World) : Calls Tryz.prog 39 #[.string m] w fun e w' => ∃ g, e = .returned (.iface 121 (.pointer (some ⟨g, 0, none⟩))) ∧ w'.heap[g]? = some (.cells #[.string m] 123 (0, 0)) ∧ Below w.heap.size w w' := by
 have hu := Tryz.underlying123
 go_enter Tryz.func39, Tryz.ntmps39
 go_wp2
 go_ret
 refine ⟨_, rfl, ?_, ?_⟩
 ·exact heap_alloc_new w _
 ·exact Below.alloc (Below.refl _ _) (Nat.le_refl _) _
theorem error_text (g : Nat) (m : ByteArray) (w : World) (hg : w.heap[g]? = some (.cells #[.string m] 123 (0, 0))) : Calls Tryz.prog 188 #[.pointer (some ⟨g, 0, none⟩)] w fun e w' => e = .returned (.string m) ∧ w' = w := by
 have hu := Tryz.underlying123
 have hc0 := bc_ hg 0
 go_enter Tryz.func188, Tryz.ntmps188
 go_wp2
 go_ret
 exact ⟨rfl, rfl⟩
def q_zzCut.f (a0 : ByteArray) (a1 : ByteArray) : Option (ByteArray × Bool) := if (a0.size : Int) < (a1.size : Int) then (some (a0, false)) else (if 0 ≤ (a1.size : Int) then (if (a1.size : Int) ≤ (a0.size : Int) then (if (a0.extract 0 a1.size).toList = a1.toList then (some (a0.extract a1.size a0.size, true)) else (some (a0, false))) else (none)) else (none))
theorem q_zzCut.calls (a0 : ByteArray) (a1 : ByteArray) (r1 : ByteArray) (r2 : Bool) (w : World) (h : q_zzCut.f a0 a1 = some (r1, r2)) :
  Calls Tryz.prog 69 #[.string a0, .string a1] w fun e w' => e = .returned (.tuple #[.string r1, .bool r2]) ∧ Drawn0 w w' := by
 have H : (if (a0.size : Int) < (a1.size : Int) then (some (a0, false)) else (if 0 ≤ (a1.size : Int) then (if (a1.size : Int) ≤ (a0.size : Int) then (if (a0.extract 0 a1.size).toList = a1.toList then (some (a0.extract a1.size a0.size, true)) else (some (a0, false))) else (none)) else (none))) = some (r1, r2) := h
 clear h
 by_cases c3 : (a0.size : Int) < (a1.size : Int)
 ·rw [if_pos c3] at H
  have c3b0 := decide_eq_true c3
  have c3b1 : decide (a0.size < a1.size) = true := decide_eq_true (Int.ofNat_lt.mp c3)
  clear c3
  simp only [Option.some.injEq, Prod.mk.injEq] at H
  obtain ⟨rfl, rfl⟩ := H
  go_enter Tryz.func69, Tryz.ntmps69
  go_wp2
  go_ret2
  exact ⟨by first | rfl | (simp; done) | (simp [*]; done), by repeat (first | exact Drawn0.refl _ | apply Drawn0.step)⟩
 ·rw [if_neg c3] at H
  have c3b0 := decide_eq_false c3
  have c3b1 : decide (a0.size < a1.size) = false := decide_eq_false (fun h => c3 (Int.ofNat_lt.mpr h))
  clear c3
  replace H := yes_ H; obtain ⟨c4, H⟩ := H
  have c4b0 := eq_true c4
  have c4b1 := decide_eq_true c4
  clear c4
  replace H := yes_ H; obtain ⟨c5, H⟩ := H
  have c5b0 := eq_true c5
  have c5b1 := decide_eq_true c5
  clear c5
  by_cases c6 : (a0.extract 0 a1.size).toList = a1.toList
  ·rw [if_pos c6] at H
   have c6b0 := beq_iff_eq.mpr c6
   have c6b1 := bne_eq_false_iff_eq.mpr c6
   clear c6
   have c7b0 := eq_true (of_decide_eq_true (by assumption) : 0 ≤ (a1.size : Int))
   have c8b0 := eq_true (of_decide_eq_true (by assumption) : (a1.size : Int) ≤ (a0.size : Int))
   simp only [Option.some.injEq, Prod.mk.injEq] at H
   obtain ⟨rfl, rfl⟩ := H
   go_enter Tryz.func69, Tryz.ntmps69
   go_wp2
   go_ret2
   exact ⟨by first | rfl | (simp; done) | (simp [*]; done), by repeat (first | exact Drawn0.refl _ | apply Drawn0.step)⟩
  ·rw [if_neg c6] at H
   have c6b0 := beq_eq_false_iff_ne.mpr c6
   have c6b1 := bne_iff_ne.mpr c6
   simp only [Option.some.injEq, Prod.mk.injEq] at H
   obtain ⟨rfl, rfl⟩ := H
   go_enter Tryz.func69, Tryz.ntmps69
   go_wp2
   go_ret2
   exact ⟨by first | rfl | (simp; done) | (simp [*]; done), by repeat (first | exact Drawn0.refl _ | apply Drawn0.step)⟩
def q_zzDigits.l0 : Nat → ByteArray → Int → Option (Int)
 | 0, _, _ => none
 | k + 1, x0, x3 => if x3 < (x0.size : Int) then (if 0 ≤ x3 then (if 48 ≤ (bt x0 x3) then (if (bt x0 x3) ≤ 57 then (q_zzDigits.l0 k x0 (wrap64 (x3 + 1))) else (some x3)) else (some x3)) else (none)) else (some x3)
def q_zzDigits.f (k : Nat) (a0 : ByteArray) : Option (Int) := q_zzDigits.l0 k a0 0
theorem q_zzDigits.calls (k : Nat) (a0 : ByteArray) (r : Int) (w : World) (h : q_zzDigits.f k a0 = some r) :
  Calls Tryz.prog 70 #[.string a0] w fun e w' => e = .returned (.int .i64 r) ∧ Drawn0 w w' := by
 have H : (q_zzDigits.l0 k a0 0) = some r := h
 clear h
 have H' := Aside0.mk H
 clear H
 go_enter Tryz.func70, Tryz.ntmps70
 go_wp2
 go_loopg [3] k (fun kq v3 w' => ∃ (x3_1 : Int), v3 = .int .i64 x3_1 ∧ Aside0 (q_zzDigits.l0 kq a0 x3_1 = some r) ∧ Aside0 (kq ≤ k) ∧ Drawn0 w w')
 case atStart => exact ⟨(0), (by first | rfl | simp [*]), H', ⟨Nat.le_refl _⟩, by repeat (first | exact Drawn0.refl _ | apply Drawn0.step)⟩
 case round =>
  clear H'
  obtain ⟨x3_1, rfl, HA, HK1, ⟨m1, rfl⟩⟩ := hrel
  cases gk with
  | zero => exact absurd HA.out (by simp [q_zzDigits.l0])
  | succ k1 =>
   have H := HA.out; clear HA
   simp only [q_zzDigits.l0] at H
   by_cases c2 : x3_1 < (a0.size : Int)
   ·rw [if_pos c2] at H
    have c2b0 := decide_eq_true c2
    clear c2
    replace H := yes_ H; obtain ⟨c3, H⟩ := H
    have c3b0 := decide_eq_true c3
    clear c3
    by_cases c5 : 48 ≤ (bt a0 x3_1)
    ·rw [if_pos c5] at H
     have c5b0 := decide_eq_true c5
     clear c5
     by_cases c7 : (bt a0 x3_1) ≤ 57
     ·rw [if_pos c7] at H
      have c7b0 := decide_eq_true c7
      clear c7
      have H' := Aside0.mk H
      clear H
      have p4 : 0 ≤ (x3_1 : Int) := of_decide_eq_true (by assumption)
      have q4 : x3_1 < (a0.size : Int) := of_decide_eq_true (by assumption)
      have hx4 := bt_at a0 x3_1
      replace p4 := eq_true p4
      replace q4 := eq_true q4
      have p6 : 0 ≤ (x3_1 : Int) := of_decide_eq_true (by assumption)
      have q6 : x3_1 < (a0.size : Int) := of_decide_eq_true (by assumption)
      have hx6 := bt_at a0 x3_1
      replace p6 := eq_true p6
      replace q6 := eq_true q6
      go_wp2
      go_roundg k1
      case measure => have := HK1.out; omega
      case rel => exact ⟨(wrap64 (x3_1 + 1)), (by first | rfl | simp [*]), H', ⟨by have := HK1.out; omega⟩, by repeat (first | exact Drawn0.refl _ | apply Drawn0.step)⟩
     ·rw [if_neg c7] at H
      have c7b0 := decide_eq_false c7
      clear c7
      obtain rfl := Option.some.inj H
      have p4 : 0 ≤ (x3_1 : Int) := of_decide_eq_true (by assumption)
      have q4 : x3_1 < (a0.size : Int) := of_decide_eq_true (by assumption)
      have hx4 := bt_at a0 x3_1
      replace p4 := eq_true p4
      replace q4 := eq_true q4
      have p6 : 0 ≤ (x3_1 : Int) := of_decide_eq_true (by assumption)
      have q6 : x3_1 < (a0.size : Int) := of_decide_eq_true (by assumption)
      have hx6 := bt_at a0 x3_1
      replace p6 := eq_true p6
      replace q6 := eq_true q6
      go_wp2
      go_ret
      exact ⟨by first | rfl | (simp; done) | (simp [*]; done), by repeat (first | exact Drawn0.refl _ | apply Drawn0.step)⟩
    ·rw [if_neg c5] at H
     have c5b0 := decide_eq_false c5
     clear c5
     obtain rfl := Option.some.inj H
     have p4 : 0 ≤ (x3_1 : Int) := of_decide_eq_true (by assumption)
     have q4 : x3_1 < (a0.size : Int) := of_decide_eq_true (by assumption)
     have hx4 := bt_at a0 x3_1
     replace p4 := eq_true p4
     replace q4 := eq_true q4
     go_wp2
     go_ret
     exact ⟨by first | rfl | (simp; done) | (simp [*]; done), by repeat (first | exact Drawn0.refl _ | apply Drawn0.step)⟩
   ·rw [if_neg c2] at H
    have c2b0 := decide_eq_false c2
    clear c2
    obtain rfl := Option.some.inj H
    go_wp2
    go_ret
    exact ⟨by first | rfl | (simp; done) | (simp [*]; done), by repeat (first | exact Drawn0.refl _ | apply Drawn0.step)⟩
mutual
def q_zzHeader.l0 : Nat → List ByteArray → ByteArray → Int → Option (List ByteArray)
 | 0, _, _, _ => none
 | k + 1, x3, x4, x6 => if x6 < 2 then ((q_zzDigits.f k x4).bind fun t658 => (if t658 = 0 then (some ([] : List ByteArray)) else (if 0 ≤ t658 then (if t658 ≤ (x4.size : Int) then (if x3.length < 8796093022208 then ((some (x3 ++ [x4.extract 0 (t658 : Int).toNat] : List ByteArray)).bind fun y659 => ((q_zzCut.f (x4.extract (t658 : Int).toNat x4.size) (⟨#[44]⟩ : ByteArray)).bind fun bt662 => (if bt662.2 = true then ((q_zzDigits.f k bt662.1).bind fun t664 => (q_zzHeader.j1 k y659 bt662.1 x6 t664)) else (q_zzHeader.j1 k y659 (x4.extract (t658 : Int).toNat x4.size) x6 0)))) else (none)) else (none)) else (none)))) else (if x4.toList = ([] : List UInt8) then (if x3.length = 0 then none else (some x3)) else (some ([] : List ByteArray)))
def q_zzHeader.j1 : Nat → List ByteArray → ByteArray → Int → Int → Option (List ByteArray)
 | 0, _, _, _, _ => none
 | k + 1, x3, x4, x6, x8 => if 0 ≤ x8 then (if x8 ≤ (x4.size : Int) then (if x3.length < 8796093022208 then ((some (x3 ++ [x4.extract 0 (x8 : Int).toNat] : List ByteArray)).bind fun y665 => (if x6 = 1 then ((q_zzCut.f (x4.extract (x8 : Int).toNat x4.size) (⟨#[32, 64, 64]⟩ : ByteArray)).bind fun bt668 => (if bt668.2 = true then (q_zzHeader.l0 k y665 bt668.1 (wrap64 (x6 + 1))) else (some ([] : List ByteArray)))) else ((q_zzCut.f (x4.extract (x8 : Int).toNat x4.size) (⟨#[32, 43]⟩ : ByteArray)).bind fun bt670 => (if bt670.2 = true then (q_zzHeader.l0 k y665 bt670.1 (wrap64 (x6 + 1))) else (some ([] : List ByteArray)))))) else (none)) else (none)) else (none)
end
def q_zzHeader.f (k : Nat) (a0 : ByteArray) : Option (List ByteArray) := (q_zzCut.f a0 (⟨#[64, 64, 32, 45]⟩ : ByteArray)).bind fun bt656 => (if bt656.2 = true then (q_zzHeader.l0 k (([a0] : List ByteArray)) bt656.1 0) else (some ([] : List ByteArray)))
def q_zzHeader.T11 : Bool × List (List Nat × List Nat) := (true, [([], []), ([], []), ([], []), ([1, 2], [1, 2]), ([3], [3]), ([0, 4], [0, 4]), ([], []), ([], []), ([6, 7], [6, 7]), ([5, 5, 0, 1, 2, 3, 4, 5], [0, 5]), ([8, 9, 0, 1, 2, 3, 4, 5, 6, 7, 8, 9], [1, 6, 8])])
def q_zzHeader.B11 : List Nat := [0, 0, 0, 6, 14, 31, 0, 0, 192, 63, 1023]
theorem q_zzHeader.tab11 : rtab .any (opsOf Tryz.f38 11) = q_zzHeader.T11 := by kernel_rfl
theorem q_zzHeader.bits11 : waitsOk q_zzHeader.T11.2 q_zzHeader.B11 = true := by kernel_rfl
def q_zzHeader.T17 : Bool × List (List Nat × List Nat) := (true, [([], []), ([], []), ([], []), ([1, 2], [1, 2]), ([3], [3]), ([0, 4], [0, 4]), ([], []), ([], []), ([6, 7], [6, 7]), ([5, 5, 0, 1, 2, 3, 4, 5], [0, 5]), ([8, 9, 0, 1, 2, 3, 4, 5, 6, 7, 8, 9], [1, 6, 8])])
def q_zzHeader.B17 : List Nat := [0, 0, 0, 6, 14, 31, 0, 0, 192, 63, 1023]
theorem q_zzHeader.tab17 : rtab .any (opsOf Tryz.f38 17) = q_zzHeader.T17 := by kernel_rfl
theorem q_zzHeader.bits17 : waitsOk q_zzHeader.T17.2 q_zzHeader.B17 = true := by kernel_rfl
theorem q_zzHeader.calls (k : Nat) (a0 : ByteArray) (r : List ByteArray) (w : World) (h : q_zzHeader.f k a0 = some r) :
  Calls Tryz.prog 38 #[.string a0] w fun e w' => ∃ v0_ : Value, e = .returned (v0_) ∧ Kd.R Kd.string 9 w' w.heap.size (fun _ => True) v0_ r ∧ Below w.heap.size w w' ∧ (r = [] → v0_ = .slice none 0 0) := by
 have HB := aS_ (Below.refl w.heap.size w)
 have H : ((q_zzCut.f a0 (⟨#[64, 64, 32, 45]⟩ : ByteArray)).bind fun bt656 => (if bt656.2 = true then (q_zzHeader.l0 k (([a0] : List ByteArray)) bt656.1 0) else (some ([] : List ByteArray)))) = some r := h
 clear h
 obtain ⟨y653, hy653⟩ : ∃ y_ : List ByteArray, y_ = (([a0] : List ByteArray)) := ⟨_, rfl⟩
 replace H : ((q_zzCut.f a0 (⟨#[64, 64, 32, 45]⟩ : ByteArray)).bind fun bt656 => (if bt656.2 = true then (q_zzHeader.l0 k y653 bt656.1 0) else (some ([] : List ByteArray)))) = some r := by first | (rw [hy653]; with_reducible exact H) | (have H2_ := (Option.bind_some _ _).symm.trans H; rw [hy653]; with_reducible exact H2_) | (have H2_ := (Option.bind_some _ _).symm.trans H; with_reducible exact H2_) | with_reducible exact H | (rw [hy653]; exact H) | exact H
 have Ny653 := Aside0.mk hy653
 clear hy653
 replace H := Option.bind_eq_some_iff.mp H
 obtain ⟨⟨t656, t657⟩, A20, H⟩ := H
 try dsimp only at H
 have A2 := Aside0.mk A20
 clear A20
 by_cases c3 : t657 = true
 ·subst c3
  rw [if_pos rfl] at H
  have H' := Aside0.mk H
  clear H
  go_enter Tryz.func38, Tryz.ntmps38
  go_wp2_with (first | ((with_reducible refine gate_dst (N := 13) rfl ?_); refine Kd.R_lit Kd.string _ 9 ?hg (N := 13) ?hd (xs := ([a0] : List ByteArray)) (inner := [.string a0]) (ok := fun _ => True) (okp := fun _ => True) ?hr ?hp (fun _ hk => hk) trivial (Below.refl _ _) (Nat.le_refl _) (by simp) ?_; (case hd => rfl); (case hg => rfl); (case hr => first | (go_simp; done) | (go_simp; rfl)); (case hp => exact (Reps.one (show Kd.M Kd.string _ _ _ a0 [.string a0] from rfl) (Reps.none _ _))); intro v654 w4 ho5 hb hg_ hnew_; clear hg_ hnew_; (first | rw [← Ny653.out] at ho5 | (simp only [Int.reduceToNat] at ho5; rw [← Ny653.out] at ho5)); have HO655 := aS_ (Kd.R_lower ho5 (bz_ (bel_ HB.out))); replace HB := aS_ (bt_ (bel_ HB.out) hb); clear hb ho5) | ((with_reducible refine gate_callee (f := 69) rfl ?_); refine goesL_ (some 16) rfl rfl Tryz.func69 (by kernel_rfl) rfl #[.string a0, .string (⟨#[64, 64, 32, 45]⟩ : ByteArray)] rfl (by (try simp only [List.map_toArray, List.map_cons, List.map_nil]); first | done | rfl | (simp only [List.length_drop, List.length_take]; rfl)) ?_; (with_reducible refine (q_zzCut.calls a0 (⟨#[64, 64, 32, 45]⟩ : ByteArray) t656 true _ A2.out).mono ?_); rintro e w' ⟨rfl, ⟨nd, rfl⟩⟩; refine ⟨_, rfl, ?_⟩))
  go_loopg [3, 4, 6] k (fun kq v3 v4 v6 w' => ∃ (x3_1 : List ByteArray) (x4_1 : ByteArray) (x6_1 : Int), v4 = .string x4_1 ∧ v6 = .int .i64 x6_1 ∧ Aside0 (q_zzHeader.l0 kq x3_1 x4_1 x6_1 = some r) ∧ Aside0 (kq ≤ k) ∧ Aside0 (Kd.R Kd.string 9 w' w.heap.size (fun _ => True) v3 x3_1) ∧ Aside0 (Below w.heap.size w w'))
  case atStart => exact ⟨(y653), (t656), (0), (by first | rfl | simp [*]), (by first | rfl | simp [*]), H', ⟨Nat.le_refl _⟩, ⟨Kd.R_st HO655.out⟩, ⟨bel_ HB.out⟩⟩
  case round =>
   clear H'
   obtain ⟨x3_1, x4_1, x6_1, rfl, rfl, HA, HK1, HO_3, HB⟩ := hrel
   cases gk with
   | zero => exact absurd HA.out (by simp [q_zzHeader.l0])
   | succ k1 =>
    have H := HA.out; clear HA
    simp only [q_zzHeader.l0] at H
    by_cases c6 : x6_1 < 2
    ·rw [if_pos c6] at H
     have c6b0 := decide_eq_true c6
     clear c6
     replace H := Option.bind_eq_some_iff.mp H
     obtain ⟨t658, A70, H⟩ := H
     try dsimp only at H
     have A7 := Aside0.mk A70
     clear A70
     by_cases c8 : t658 = 0
     ·rw [if_pos c8] at H
      have c8b0 := beq_iff_eq.mpr c8
      have c8b1 := bne_eq_false_iff_eq.mpr c8
      clear c8
      obtain rfl := Option.some.inj H
      go_wp2_with (first | ((with_reducible refine gate_callee (f := 70) rfl ?_); refine goesL_ (some 26) rfl rfl Tryz.func70 (by kernel_rfl) rfl #[.string x4_1] rfl (by (try simp only [List.map_toArray, List.map_cons, List.map_nil]); first | done | rfl | (simp only [List.length_drop, List.length_take]; rfl)) ?_; (with_reducible refine (q_zzDigits.calls k1 x4_1 t658 _ A7.out).mono ?_); rintro e w' ⟨rfl, ⟨nd, rfl⟩⟩; refine ⟨_, rfl, ?_⟩))
      go_ret
      exact ⟨_, by first | rfl | (simp [*, errW_none, errW_some] <;> rfl), by first | exact Kd.R_nil _ _ _ _ _ | exact Kd.S_nil _ _ _ _ _, bel_ HB.out, by first | rfl | (intro _; rfl)⟩
     ·rw [if_neg c8] at H
      have c8b0 := beq_eq_false_iff_ne.mpr c8
      have c8b1 := bne_iff_ne.mpr c8
      replace H := yes_ H; obtain ⟨c9, H⟩ := H
      have c9b0 := eq_true c9
      have c9b1 := decide_eq_true c9
      clear c9
      replace H := yes_ H; obtain ⟨c10, H⟩ := H
      have c10b0 := eq_true c10
      have c10b1 := decide_eq_true c10
      clear c10
      replace H := yes_ H; obtain ⟨c11, H⟩ := H
      have LMc11 := Aside0.mk c11
      clear c11
      obtain ⟨y659, hy659, H⟩ := bindc_ H
      try dsimp only at H
      have Ny659 := Aside0.mk hy659
      clear hy659
      have c12b0 := eq_true (of_decide_eq_true (by assumption) : 0 ≤ t658)
      have c13b0 := eq_true (of_decide_eq_true (by assumption) : t658 ≤ (x4_1.size : Int))
      replace H := Option.bind_eq_some_iff.mp H
      obtain ⟨⟨t662, t663⟩, A140, H⟩ := H
      try dsimp only at H
      have A14 := Aside0.mk A140
      clear A140
      have HC15 := Aside0.mk H
      clear H
      try go_wp2_with (first | ((with_reducible refine gate_callee (f := 70) rfl ?_); refine goesL_ (some 26) rfl rfl Tryz.func70 (by kernel_rfl) rfl #[.string x4_1] rfl (by (try simp only [List.map_toArray, List.map_cons, List.map_nil]); first | done | rfl | (simp only [List.length_drop, List.length_take]; rfl)) ?_; (with_reducible refine (q_zzDigits.calls k1 x4_1 t658 _ A7.out).mono ?_); rintro e w' ⟨rfl, ⟨nd, rfl⟩⟩; refine ⟨_, rfl, ?_⟩))
      (try (rw [drewN_self wr]; generalize hq_ : World.drewN wr _ = wr; have n0_ : Aside0 (Kd.R Kd.string 9 wr w.heap.size (fun _ => True) u3 x3_1) := ⟨by rw [← hq_]; exact (Kd.R_st HO_3.out)⟩; have n1_ : Aside0 (Below w.heap.size w wr) := ⟨by rw [← hq_]; exact (bel_ HB.out)⟩; clear HO_3 HB hq_; have HO_3 := n0_; have HB := n1_; clear n0_ n1_))
      replace HO_3 := aS_ (Kd.R_drew HO_3.out)
      replace HB := aS_ (bD_ HB.out)
      refine sA_ (fun w' => True) [] q_zzHeader.tab11 q_zzHeader.bits11 trivial (fun hHeld HT_ HW_ => ?_)
      generalize wr.drew = w16 at HO_3 HB hHeld ⊢
      refine pA_ 0 (h:=pA_ 1 (h:=pA_ 2 (h:=pA_ 3 (h:=pA_ 6 (h:=pA_ 7 (h:=pA_ 8 (h:=?_)))))))
      refine oA_ 4 (some 33) (h:=fun K hK => ?_)
      refine value_ (w1 := ?_) (v := ?_) (by rfl) rfl ?_ ?_
      rotate_left 2
      ·go_simp
       constructor
       ·rfl
       ·rfl
      refine hK.out _ _ trivial (fun hHeld => ?_)
      clear hK K
      refine nA_ (h:=?_)
      refine oA_ 5 (some 34) (h:=fun K hK => ?_)
      refine Kd.R_append_step Kd.string (w0 := w) w.heap.size (by rfl) (.tmp 29) (.tmp 33) 61 9 (.string ⟨#[]⟩) 16 rfl Tryz.underlying61 info9 rfl (by decide) (by omega) u3 x3_1 (x4_1.extract 0 (t658 : Int).toNat) [.string (x4_1.extract 0 (t658 : Int).toNat)] (fun _ => True) (fun _ => False) rfl rfl ?aP (fun _ hk => hk.elim) ?aF ?aO ?aB ?aS ?aL ?_
      (case aP => exact rfl)
      (case aB => exact (bel_ HB.out))
      (case aF => exact (fun _ _ => trivial))
      (case aO => exact (Kd.R_st HO_3.out))
      (case aS => exact (bz_ (bel_ HB.out)))
      (case aL => have := LMc11.out; omega)
      intro v660 w17 ho hb hg hat
      rw [← Ny659.out] at ho
      replace HB := aS_ (hb)
      have HO661 := aS_ (ho)
      clear HO_3
      clear ho hb hg hat
      refine hK.out _ _ trivial (fun hHeld => ?_)
      clear hK K
      refine nA_ (h:=?_)
      refine pA_ 9 (h:=pA_ 10 (h:=?_))
      refine done_ (done_of HT_.out (by kernel_rfl)) ?_
      go_upto_if 43 with (first | ((with_reducible refine gate_callee (f := 69) rfl ?_); refine goesL_ (some 40) rfl rfl Tryz.func69 (by kernel_rfl) rfl #[.string (x4_1.extract (t658 : Int).toNat x4_1.size), .string (⟨#[44]⟩ : ByteArray)] rfl (by (try simp only [List.map_toArray, List.map_cons, List.map_nil]); first | done | rfl | (simp only [List.length_drop, List.length_take]; rfl)) ?_; (with_reducible refine (q_zzCut.calls (x4_1.extract (t658 : Int).toNat x4_1.size) (⟨#[44]⟩ : ByteArray) t662 t663 _ A14.out).mono ?_); rintro e w' ⟨rfl, ⟨nd, rfl⟩⟩; refine ⟨_, rfl, ?_⟩))
      (try simp only [Act.put, l1_, l2_, l3_])
      go_cut [4, 8] (fun v4 v8 wc => ∃ (kq : Nat) (x4_14 : ByteArray) (x8_14 : Int), v4 = .string x4_14 ∧ v8 = .int .i64 x8_14 ∧ Aside0 (q_zzHeader.j1 kq y659 x4_14 x6_1 x8_14 = some r) ∧ Aside0 (kq ≤ k1) ∧ Aside0 (Kd.R Kd.string 9 wc w.heap.size (fun _ => True) v660 y659) ∧ Aside0 (Below w.heap.size w wc))
      case first =>
       have H := HC15.out
       clear HC15
       by_cases c18 : t663 = true
       ·subst c18
        rw [if_pos rfl] at H
        replace H := Option.bind_eq_some_iff.mp H
        obtain ⟨t664, A190, H⟩ := H
        try dsimp only at H
        have A19 := Aside0.mk A190
        clear A190
        have H' := Aside0.mk H
        clear H
        go_wp2_with (first | ((with_reducible refine gate_callee (f := 70) rfl ?_); refine goesL_ (some 46) rfl rfl Tryz.func70 (by kernel_rfl) rfl #[.string t662] rfl (by (try simp only [List.map_toArray, List.map_cons, List.map_nil]); first | done | rfl | (simp only [List.length_drop, List.length_take]; rfl)) ?_; (with_reducible refine (q_zzDigits.calls k1 t662 t664 _ A19.out).mono ?_); rintro e w' ⟨rfl, ⟨nd, rfl⟩⟩; refine ⟨_, rfl, ?_⟩))
        go_meet
        case rel => exact ⟨_, (t662), (t664), (by first | rfl | simp [*]), (by first | rfl | simp [*]), H', ⟨by have := HK1.out; first | omega | exact Nat.le_refl _⟩, ⟨Kd.R_st HO661.out⟩, ⟨bel_ HB.out⟩⟩
       ·replace c18 := Bool.eq_false_iff.mpr c18
        subst c18
        rw [if_neg (show ¬ (false = true) by decide)] at H
        have H' := Aside0.mk H
        clear H
        go_wp2
        go_meet
        case rel => exact ⟨_, (x4_1.extract (t658 : Int).toNat x4_1.size), (0), (by first | rfl | simp [*]), (by first | rfl | simp [*]), H', ⟨by have := HK1.out; first | omega | exact Nat.le_refl _⟩, ⟨Kd.R_st HO661.out⟩, ⟨bel_ HB.out⟩⟩
      case rest =>
       clear HC15
       obtain ⟨kq, x4_14, x8_14, rfl, rfl, HA, HJ14, HO_3, HB⟩ := hcut
       cases kq with
       | zero => exact absurd HA.out (by simp [q_zzHeader.j1])
       | succ kj14 =>
        have H := HA.out; clear HA
        simp only [q_zzHeader.j1] at H
        replace H := yes_ H; obtain ⟨c20, H⟩ := H
        have c20b0 := eq_true c20
        have c20b1 := decide_eq_true c20
        clear c20
        replace H := yes_ H; obtain ⟨c21, H⟩ := H
        have c21b0 := eq_true c21
        have c21b1 := decide_eq_true c21
        clear c21
        replace H := yes_ H; obtain ⟨c22, H⟩ := H
        have LMc22 := Aside0.mk c22
        clear c22
        obtain ⟨y665, hy665, H⟩ := bindc_ H
        try dsimp only at H
        have Ny665 := Aside0.mk hy665
        clear hy665
        have c23b0 := eq_true (of_decide_eq_true (by assumption) : 0 ≤ x8_14)
        have c24b0 := eq_true (of_decide_eq_true (by assumption) : x8_14 ≤ (x4_14.size : Int))
        by_cases c25 : x6_1 = 1
        ·rw [if_pos c25] at H
         have c25b0 := beq_iff_eq.mpr c25
         have c25b1 := bne_eq_false_iff_eq.mpr c25
         clear c25
         replace H := Option.bind_eq_some_iff.mp H
         obtain ⟨⟨t668, t669⟩, A260, H⟩ := H
         try dsimp only at H
         have A26 := Aside0.mk A260
         clear A260
         by_cases c27 : t669 = true
         ·subst c27
          rw [if_pos rfl] at H
          have H' := Aside0.mk H
          clear H
          try go_wp2
          replace HO_3 := aS_ (Kd.R_drew HO_3.out)
          replace HB := aS_ (bD_ HB.out)
          refine sA_ (fun w' => True) [] q_zzHeader.tab17 q_zzHeader.bits17 trivial (fun hHeld HT_ HW_ => ?_)
          generalize wc.drew = w28 at HO_3 HB hHeld ⊢
          refine pA_ 0 (h:=pA_ 1 (h:=pA_ 2 (h:=pA_ 3 (h:=pA_ 6 (h:=pA_ 7 (h:=pA_ 8 (h:=?_)))))))
          refine oA_ 4 (some 51) (h:=fun K hK => ?_)
          refine value_ (w1 := ?_) (v := ?_) (by rfl) rfl ?_ ?_
          rotate_left 2
          ·go_simp
           constructor
           ·rfl
           ·rfl
          refine hK.out _ _ trivial (fun hHeld => ?_)
          clear hK K
          refine nA_ (h:=?_)
          refine oA_ 5 (some 52) (h:=fun K hK => ?_)
          refine Kd.R_append_step Kd.string (w0 := w) w.heap.size (by rfl) (.tmp 47) (.tmp 51) 61 9 (.string ⟨#[]⟩) 16 rfl Tryz.underlying61 info9 rfl (by decide) (by omega) v660 y659 (x4_14.extract 0 (x8_14 : Int).toNat) [.string (x4_14.extract 0 (x8_14 : Int).toNat)] (fun _ => True) (fun _ => False) rfl rfl ?aP (fun _ hk => hk.elim) ?aF ?aO ?aB ?aS ?aL ?_
          (case aP => exact rfl)
          (case aB => exact (bel_ HB.out))
          (case aF => exact (fun _ _ => trivial))
          (case aO => exact (Kd.R_st HO_3.out))
          (case aS => exact (bz_ (bel_ HB.out)))
          (case aL => have := LMc22.out; omega)
          intro v666 w29 ho hb hg hat
          rw [← Ny665.out] at ho
          replace HB := aS_ (hb)
          have HO667 := aS_ (ho)
          clear HO_3
          clear ho hb hg hat
          refine hK.out _ _ trivial (fun hHeld => ?_)
          clear hK K
          refine nA_ (h:=?_)
          refine pA_ 9 (h:=pA_ 10 (h:=?_))
          refine done_ (done_of HT_.out (by kernel_rfl)) ?_
          try go_wp2_with (first | ((with_reducible refine gate_callee (f := 69) rfl ?_); refine goesL_ (some 61) rfl rfl Tryz.func69 (by kernel_rfl) rfl #[.string (x4_14.extract (x8_14 : Int).toNat x4_14.size), .string (⟨#[32, 64, 64]⟩ : ByteArray)] rfl (by (try simp only [List.map_toArray, List.map_cons, List.map_nil]); first | done | rfl | (simp only [List.length_drop, List.length_take]; rfl)) ?_; (with_reducible refine (q_zzCut.calls (x4_14.extract (x8_14 : Int).toNat x4_14.size) (⟨#[32, 64, 64]⟩ : ByteArray) t668 true _ A26.out).mono ?_); rintro e w' ⟨rfl, ⟨nd, rfl⟩⟩; refine ⟨_, rfl, ?_⟩))
          go_roundg kj14
          case measure => have := HK1.out; have := HJ14.out; omega
          case rel => exact ⟨(y665), (t668), (wrap64 (x6_1 + 1)), (by first | rfl | simp [*]), (by first | rfl | simp [*]), H', ⟨by have := HK1.out; have := HJ14.out; omega⟩, ⟨Kd.R_st HO667.out⟩, ⟨bel_ HB.out⟩⟩
         ·replace c27 := Bool.eq_false_iff.mpr c27
          subst c27
          rw [if_neg (show ¬ (false = true) by decide)] at H
          obtain rfl := Option.some.inj H
          try go_wp2
          replace HO_3 := aS_ (Kd.R_drew HO_3.out)
          replace HB := aS_ (bD_ HB.out)
          refine sA_ (fun w' => True) [] q_zzHeader.tab17 q_zzHeader.bits17 trivial (fun hHeld HT_ HW_ => ?_)
          generalize wc.drew = w30 at HO_3 HB hHeld ⊢
          refine pA_ 0 (h:=pA_ 1 (h:=pA_ 2 (h:=pA_ 3 (h:=pA_ 6 (h:=pA_ 7 (h:=pA_ 8 (h:=?_)))))))
          refine oA_ 4 (some 51) (h:=fun K hK => ?_)
          refine value_ (w1 := ?_) (v := ?_) (by rfl) rfl ?_ ?_
          rotate_left 2
          ·go_simp
           constructor
           ·rfl
           ·rfl
          refine hK.out _ _ trivial (fun hHeld => ?_)
          clear hK K
          refine nA_ (h:=?_)
          refine oA_ 5 (some 52) (h:=fun K hK => ?_)
          refine Kd.R_append_step Kd.string (w0 := w) w.heap.size (by rfl) (.tmp 47) (.tmp 51) 61 9 (.string ⟨#[]⟩) 16 rfl Tryz.underlying61 info9 rfl (by decide) (by omega) v660 y659 (x4_14.extract 0 (x8_14 : Int).toNat) [.string (x4_14.extract 0 (x8_14 : Int).toNat)] (fun _ => True) (fun _ => False) rfl rfl ?aP (fun _ hk => hk.elim) ?aF ?aO ?aB ?aS ?aL ?_
          (case aP => exact rfl)
          (case aB => exact (bel_ HB.out))
          (case aF => exact (fun _ _ => trivial))
          (case aO => exact (Kd.R_st HO_3.out))
          (case aS => exact (bz_ (bel_ HB.out)))
          (case aL => have := LMc22.out; omega)
          intro v666 w31 ho hb hg hat
          rw [← Ny665.out] at ho
          replace HB := aS_ (hb)
          have HO667 := aS_ (ho)
          clear HO_3
          clear ho hb hg hat
          refine hK.out _ _ trivial (fun hHeld => ?_)
          clear hK K
          refine nA_ (h:=?_)
          refine pA_ 9 (h:=pA_ 10 (h:=?_))
          refine done_ (done_of HT_.out (by kernel_rfl)) ?_
          try go_wp2_with (first | ((with_reducible refine gate_callee (f := 69) rfl ?_); refine goesL_ (some 61) rfl rfl Tryz.func69 (by kernel_rfl) rfl #[.string (x4_14.extract (x8_14 : Int).toNat x4_14.size), .string (⟨#[32, 64, 64]⟩ : ByteArray)] rfl (by (try simp only [List.map_toArray, List.map_cons, List.map_nil]); first | done | rfl | (simp only [List.length_drop, List.length_take]; rfl)) ?_; (with_reducible refine (q_zzCut.calls (x4_14.extract (x8_14 : Int).toNat x4_14.size) (⟨#[32, 64, 64]⟩ : ByteArray) t668 false _ A26.out).mono ?_); rintro e w' ⟨rfl, ⟨nd, rfl⟩⟩; refine ⟨_, rfl, ?_⟩))
          go_ret
          exact ⟨_, by first | rfl | (simp [*, errW_none, errW_some] <;> rfl), by first | exact Kd.R_nil _ _ _ _ _ | exact Kd.S_nil _ _ _ _ _, bel_ HB.out, by first | rfl | (intro _; rfl)⟩
        ·rw [if_neg c25] at H
         have c25b0 := beq_eq_false_iff_ne.mpr c25
         have c25b1 := bne_iff_ne.mpr c25
         replace H := Option.bind_eq_some_iff.mp H
         obtain ⟨⟨t670, t671⟩, A320, H⟩ := H
         try dsimp only at H
         have A32 := Aside0.mk A320
         clear A320
         by_cases c33 : t671 = true
         ·subst c33
          rw [if_pos rfl] at H
          have H' := Aside0.mk H
          clear H
          try go_wp2
          replace HO_3 := aS_ (Kd.R_drew HO_3.out)
          replace HB := aS_ (bD_ HB.out)
          refine sA_ (fun w' => True) [] q_zzHeader.tab17 q_zzHeader.bits17 trivial (fun hHeld HT_ HW_ => ?_)
          generalize wc.drew = w34 at HO_3 HB hHeld ⊢
          refine pA_ 0 (h:=pA_ 1 (h:=pA_ 2 (h:=pA_ 3 (h:=pA_ 6 (h:=pA_ 7 (h:=pA_ 8 (h:=?_)))))))
          refine oA_ 4 (some 51) (h:=fun K hK => ?_)
          refine value_ (w1 := ?_) (v := ?_) (by rfl) rfl ?_ ?_
          rotate_left 2
          ·go_simp
           constructor
           ·rfl
           ·rfl
          refine hK.out _ _ trivial (fun hHeld => ?_)
          clear hK K
          refine nA_ (h:=?_)
          refine oA_ 5 (some 52) (h:=fun K hK => ?_)
          refine Kd.R_append_step Kd.string (w0 := w) w.heap.size (by rfl) (.tmp 47) (.tmp 51) 61 9 (.string ⟨#[]⟩) 16 rfl Tryz.underlying61 info9 rfl (by decide) (by omega) v660 y659 (x4_14.extract 0 (x8_14 : Int).toNat) [.string (x4_14.extract 0 (x8_14 : Int).toNat)] (fun _ => True) (fun _ => False) rfl rfl ?aP (fun _ hk => hk.elim) ?aF ?aO ?aB ?aS ?aL ?_
          (case aP => exact rfl)
          (case aB => exact (bel_ HB.out))
          (case aF => exact (fun _ _ => trivial))
          (case aO => exact (Kd.R_st HO_3.out))
          (case aS => exact (bz_ (bel_ HB.out)))
          (case aL => have := LMc22.out; omega)
          intro v666 w35 ho hb hg hat
          rw [← Ny665.out] at ho
          replace HB := aS_ (hb)
          have HO667 := aS_ (ho)
          clear HO_3
          clear ho hb hg hat
          refine hK.out _ _ trivial (fun hHeld => ?_)
          clear hK K
          refine nA_ (h:=?_)
          refine pA_ 9 (h:=pA_ 10 (h:=?_))
          refine done_ (done_of HT_.out (by kernel_rfl)) ?_
          try go_wp2_with (first | ((with_reducible refine gate_callee (f := 69) rfl ?_); refine goesL_ (some 61) rfl rfl Tryz.func69 (by kernel_rfl) rfl #[.string (x4_14.extract (x8_14 : Int).toNat x4_14.size), .string (⟨#[32, 43]⟩ : ByteArray)] rfl (by (try simp only [List.map_toArray, List.map_cons, List.map_nil]); first | done | rfl | (simp only [List.length_drop, List.length_take]; rfl)) ?_; (with_reducible refine (q_zzCut.calls (x4_14.extract (x8_14 : Int).toNat x4_14.size) (⟨#[32, 43]⟩ : ByteArray) t670 true _ A32.out).mono ?_); rintro e w' ⟨rfl, ⟨nd, rfl⟩⟩; refine ⟨_, rfl, ?_⟩))
          go_roundg kj14
          case measure => have := HK1.out; have := HJ14.out; omega
          case rel => exact ⟨(y665), (t670), (wrap64 (x6_1 + 1)), (by first | rfl | simp [*]), (by first | rfl | simp [*]), H', ⟨by have := HK1.out; have := HJ14.out; omega⟩, ⟨Kd.R_st HO667.out⟩, ⟨bel_ HB.out⟩⟩
         ·replace c33 := Bool.eq_false_iff.mpr c33
          subst c33
          rw [if_neg (show ¬ (false = true) by decide)] at H
          obtain rfl := Option.some.inj H
          try go_wp2
          replace HO_3 := aS_ (Kd.R_drew HO_3.out)
          replace HB := aS_ (bD_ HB.out)
          refine sA_ (fun w' => True) [] q_zzHeader.tab17 q_zzHeader.bits17 trivial (fun hHeld HT_ HW_ => ?_)
          generalize wc.drew = w36 at HO_3 HB hHeld ⊢
          refine pA_ 0 (h:=pA_ 1 (h:=pA_ 2 (h:=pA_ 3 (h:=pA_ 6 (h:=pA_ 7 (h:=pA_ 8 (h:=?_)))))))
          refine oA_ 4 (some 51) (h:=fun K hK => ?_)
          refine value_ (w1 := ?_) (v := ?_) (by rfl) rfl ?_ ?_
          rotate_left 2
          ·go_simp
           constructor
           ·rfl
           ·rfl
          refine hK.out _ _ trivial (fun hHeld => ?_)
          clear hK K
          refine nA_ (h:=?_)
          refine oA_ 5 (some 52) (h:=fun K hK => ?_)
          refine Kd.R_append_step Kd.string (w0 := w) w.heap.size (by rfl) (.tmp 47) (.tmp 51) 61 9 (.string ⟨#[]⟩) 16 rfl Tryz.underlying61 info9 rfl (by decide) (by omega) v660 y659 (x4_14.extract 0 (x8_14 : Int).toNat) [.string (x4_14.extract 0 (x8_14 : Int).toNat)] (fun _ => True) (fun _ => False) rfl rfl ?aP (fun _ hk => hk.elim) ?aF ?aO ?aB ?aS ?aL ?_
          (case aP => exact rfl)
          (case aB => exact (bel_ HB.out))
          (case aF => exact (fun _ _ => trivial))
          (case aO => exact (Kd.R_st HO_3.out))
          (case aS => exact (bz_ (bel_ HB.out)))
          (case aL => have := LMc22.out; omega)
          intro v666 w37 ho hb hg hat
          rw [← Ny665.out] at ho
          replace HB := aS_ (hb)
          have HO667 := aS_ (ho)
          clear HO_3
          clear ho hb hg hat
          refine hK.out _ _ trivial (fun hHeld => ?_)
          clear hK K
          refine nA_ (h:=?_)
          refine pA_ 9 (h:=pA_ 10 (h:=?_))
          refine done_ (done_of HT_.out (by kernel_rfl)) ?_
          try go_wp2_with (first | ((with_reducible refine gate_callee (f := 69) rfl ?_); refine goesL_ (some 61) rfl rfl Tryz.func69 (by kernel_rfl) rfl #[.string (x4_14.extract (x8_14 : Int).toNat x4_14.size), .string (⟨#[32, 43]⟩ : ByteArray)] rfl (by (try simp only [List.map_toArray, List.map_cons, List.map_nil]); first | done | rfl | (simp only [List.length_drop, List.length_take]; rfl)) ?_; (with_reducible refine (q_zzCut.calls (x4_14.extract (x8_14 : Int).toNat x4_14.size) (⟨#[32, 43]⟩ : ByteArray) t670 false _ A32.out).mono ?_); rintro e w' ⟨rfl, ⟨nd, rfl⟩⟩; refine ⟨_, rfl, ?_⟩))
          go_ret
          exact ⟨_, by first | rfl | (simp [*, errW_none, errW_some] <;> rfl), by first | exact Kd.R_nil _ _ _ _ _ | exact Kd.S_nil _ _ _ _ _, bel_ HB.out, by first | rfl | (intro _; rfl)⟩
    ·rw [if_neg c6] at H
     have c6b0 := decide_eq_false c6
     clear c6
     by_cases c38 : x4_1.toList = ([] : List UInt8)
     ·rw [if_pos c38] at H
      by_cases cz_ : x3_1.length = 0
      ·rw [if_pos cz_] at H
       exact absurd H (by simp)
      rw [if_neg cz_] at H
      have c38b0 := beq_iff_eq.mpr c38
      have c38b1 := bne_eq_false_iff_eq.mpr c38
      clear c38
      obtain rfl := Option.some.inj H
      go_wp2
      go_ret
      exact ⟨_, by first | rfl | (simp [*, errW_none, errW_some] <;> rfl), Kd.R_st HO_3.out, bel_ HB.out, fun h_ => absurd (by rw [h_]; rfl) cz_⟩
     ·rw [if_neg c38] at H
      have c38b0 := beq_eq_false_iff_ne.mpr c38
      have c38b1 := bne_iff_ne.mpr c38
      obtain rfl := Option.some.inj H
      go_wp2
      go_ret
      exact ⟨_, by first | rfl | (simp [*, errW_none, errW_some] <;> rfl), by first | exact Kd.R_nil _ _ _ _ _ | exact Kd.S_nil _ _ _ _ _, bel_ HB.out, by first | rfl | (intro _; rfl)⟩
 ·replace c3 := Bool.eq_false_iff.mpr c3
  subst c3
  rw [if_neg (show ¬ (false = true) by decide)] at H
  obtain rfl := Option.some.inj H
  go_enter Tryz.func38, Tryz.ntmps38
  go_wp2_with (first | ((with_reducible refine gate_dst (N := 13) rfl ?_); refine Kd.R_lit Kd.string _ 9 ?hg (N := 13) ?hd (xs := ([a0] : List ByteArray)) (inner := [.string a0]) (ok := fun _ => True) (okp := fun _ => True) ?hr ?hp (fun _ hk => hk) trivial (Below.refl _ _) (Nat.le_refl _) (by simp) ?_; (case hd => rfl); (case hg => rfl); (case hr => first | (go_simp; done) | (go_simp; rfl)); (case hp => exact (Reps.one (show Kd.M Kd.string _ _ _ a0 [.string a0] from rfl) (Reps.none _ _))); intro v654 w39 ho40 hb hg_ hnew_; clear hg_ hnew_; (first | rw [← Ny653.out] at ho40 | (simp only [Int.reduceToNat] at ho40; rw [← Ny653.out] at ho40)); have HO655 := aS_ (Kd.R_lower ho40 (bz_ (bel_ HB.out))); replace HB := aS_ (bt_ (bel_ HB.out) hb); clear hb ho40) | ((with_reducible refine gate_callee (f := 69) rfl ?_); refine goesL_ (some 16) rfl rfl Tryz.func69 (by kernel_rfl) rfl #[.string a0, .string (⟨#[64, 64, 32, 45]⟩ : ByteArray)] rfl (by (try simp only [List.map_toArray, List.map_cons, List.map_nil]); first | done | rfl | (simp only [List.length_drop, List.length_take]; rfl)) ?_; (with_reducible refine (q_zzCut.calls a0 (⟨#[64, 64, 32, 45]⟩ : ByteArray) t656 false _ A2.out).mono ?_); rintro e w' ⟨rfl, ⟨nd, rfl⟩⟩; refine ⟨_, rfl, ?_⟩))
  go_ret
  exact ⟨_, by first | rfl | (simp [*, errW_none, errW_some] <;> rfl), by first | exact Kd.R_nil _ _ _ _ _ | exact Kd.S_nil _ _ _ _ _, bel_ HB.out, by first | rfl | (intro _; rfl)⟩
end Go.Proofs.YtgogjghfehcpoaaGreatDoor.QT
