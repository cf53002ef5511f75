/- Part 4 of the proof of: FnPatchErrors: the statement, at every input; its condition: the listed variables read as the row lists them. -/
import Derived.Test.YtgogjghfehcpoaaGreatDoorE3
import Derived.Test.YtgogjghfehcpoaaGreatDoorProg
import Derived.Handy
set_option maxHeartbeats 8000000
set_option maxRecDepth 100000
namespace Go.Proofs.YtgogjghfehcpoaaGreatDoor.QT
open Go.RowKit Go.Proofs.YtgogjghfehcpoaaGreatDoorW.PrintWords Go.Proofs.YtgogjghfehcpoaaGreatDoorW.PrintLast Go.Proofs.YtgogjghfehcpoaaGreatDoorW.PrintMore
set_option linter.unusedVariables false
set_option linter.unusedSimpArgs false
mutual
def p_PatchFromText.l0 : Nat → List (S67) → List ByteArray → Int → Option ((List (S67)) × Option ByteArray)
 | 0, _, _, _ => none
 | k + 1, x6, x7, x8 => if x8 < (x7.length : Int) then (if 0 ≤ x8 then ((q_zzHeader.f k (rdOf ByteArray.empty x7 x8)).bind fun t740 => (if (t740.length : Int) = 0 then (if 22 + (rdOf ByteArray.empty x7 x8).size ≤ 9223372036854775807 then (some (x6, some ((⟨#[73, 110, 118, 97, 108, 105, 100, 32, 112, 97, 116, 99, 104, 32, 115, 116, 114, 105, 110, 103, 58, 32]⟩ : ByteArray) ++ (rdOf ByteArray.empty x7 x8)))) else (none)) else ((q_zzHeader.f k (rdOf ByteArray.empty x7 x8)).bind fun t744 => (if 1 < (t744.length : Int) then ((strconv_Atoi.f (rdOf ByteArray.empty t744 1)).bind fun bt748 => (if 2 < (t744.length : Int) then (if ((rdOf ByteArray.empty t744 2).size : Int) = 0 then (p_PatchFromText.j1 k x6 x7 x8 t744 (wrap64 (bt748.1 - 1)) 0 1 0) else (if (rdOf ByteArray.empty t744 2).toList = ([48] : List UInt8) then (p_PatchFromText.j1 k x6 x7 x8 t744 bt748.1 0 0 0) else ((strconv_Atoi.f (rdOf ByteArray.empty t744 2)).bind fun bt753 => (p_PatchFromText.j1 k x6 x7 x8 t744 (wrap64 (bt748.1 - 1)) 0 bt753.1 0)))) else (none))) else (none))))) else (none)) else (some (x6, none))
def p_PatchFromText.j1 : Nat → List (S67) → List ByteArray → Int → List ByteArray → Int → Int → Int → Int → Option ((List (S67)) × Option ByteArray)
 | 0, _, _, _, _, _, _, _, _ => none
 | k + 1, x6, x7, x8, x12, x739001, x739002, x739003, x739004 => if 3 < (x12.length : Int) then ((strconv_Atoi.f (rdOf ByteArray.empty x12 3)).bind fun bt756 => (if 4 < (x12.length : Int) then (if ((rdOf ByteArray.empty x12 4).size : Int) = 0 then (p_PatchFromText.j2 k x6 x7 x8 x739001 (wrap64 (bt756.1 - 1)) x739003 1) else (if (rdOf ByteArray.empty x12 4).toList = ([48] : List UInt8) then (p_PatchFromText.j2 k x6 x7 x8 x739001 bt756.1 x739003 0) else ((strconv_Atoi.f (rdOf ByteArray.empty x12 4)).bind fun bt761 => (p_PatchFromText.j2 k x6 x7 x8 x739001 (wrap64 (bt756.1 - 1)) x739003 bt761.1)))) else (none))) else (none)
def p_PatchFromText.j2 : Nat → List (S67) → List ByteArray → Int → Int → Int → Int → Int → Option ((List (S67)) × Option ByteArray)
 | 0, _, _, _, _, _, _, _ => none
 | k + 1, x6, x7, x8, x739001, x739002, x739003, x739004 => p_PatchFromText.l1 k x6 x7 (wrap64 (x8 + 1)) ([] : List (S93)) x739001 x739002 x739003 x739004
def p_PatchFromText.l1 : Nat → List (S67) → List ByteArray → Int → List (S93) → Int → Int → Int → Int → Option ((List (S67)) × Option ByteArray)
 | 0, _, _, _, _, _, _, _, _ => none
 | k + 1, x6, x7, x8, x739000, x739001, x739002, x739003, x739004 => if x8 < (x7.length : Int) then (if 0 ≤ x8 then (if ((rdOf ByteArray.empty x7 x8).size : Int) > 0 then (if 0 < ((rdOf ByteArray.empty x7 x8).size : Int) then (if 1 ≤ ((rdOf ByteArray.empty x7 x8).size : Int) then ((q_zzReplace.f k ((rdOf ByteArray.empty x7 x8).extract 1 (rdOf ByteArray.empty x7 x8).size) (⟨#[43]⟩ : ByteArray) (⟨#[37, 50, 98]⟩ : ByteArray)).bind fun t769 => ((q_zzQueryUnescape.f k t769).bind fun bt770 => (if (bt (rdOf ByteArray.empty x7 x8) 0) = 45 then (if x739000.length < 5864062014805 then (p_PatchFromText.l1 k x6 x7 (wrap64 (x8 + 1)) (x739000 ++ [(⟨(-1), bt770.1⟩ : S93)]) x739001 x739002 x739003 x739004) else (none)) else (if (bt (rdOf ByteArray.empty x7 x8) 0) = 43 then (if x739000.length < 5864062014805 then (p_PatchFromText.l1 k x6 x7 (wrap64 (x8 + 1)) (x739000 ++ [(⟨1, bt770.1⟩ : S93)]) x739001 x739002 x739003 x739004) else (none)) else (if (bt (rdOf ByteArray.empty x7 x8) 0) = 32 then (if x739000.length < 5864062014805 then (p_PatchFromText.l1 k x6 x7 (wrap64 (x8 + 1)) (x739000 ++ [(⟨0, bt770.1⟩ : S93)]) x739001 x739002 x739003 x739004) else (none)) else (if (bt (rdOf ByteArray.empty x7 x8) 0) = 64 then (if x6.length < 2513169434916 then (p_PatchFromText.l0 k (x6 ++ [(⟨x739000, x739001, x739002, x739003, x739004⟩ : S67)]) x7 x8) else (none)) else (if 20 + (Utf8.encode (bt (rdOf ByteArray.empty x7 x8) 0)).size + 6 + bt770.1.size ≤ 9223372036854775807 then (some (x6, some ((((⟨#[73, 110, 118, 97, 108, 105, 100, 32, 112, 97, 116, 99, 104, 32, 109, 111, 100, 101, 32, 39]⟩ : ByteArray) ++ (Utf8.encode (bt (rdOf ByteArray.empty x7 x8) 0))) ++ (⟨#[39, 32, 105, 110, 58, 32]⟩ : ByteArray)) ++ bt770.1))) else (none)))))))) else (none)) else (none)) else (p_PatchFromText.l1 k x6 x7 (wrap64 (x8 + 1)) x739000 x739001 x739002 x739003 x739004)) else (none)) else (if x6.length < 2513169434916 then (p_PatchFromText.l0 k (x6 ++ [(⟨x739000, x739001, x739002, x739003, x739004⟩ : S67)]) x7 x8) else (none))
end
def p_PatchFromText.f (k : Nat) (a0 : Nat) (a1 : ByteArray) : Option ((List (S67)) × Option ByteArray) := (some (([] : List (S67)) : List (S67))).bind fun y732 => (if (a1.size : Int) = 0 then (some (y732, none)) else ((q_zzSplit.f k a1 (⟨#[10]⟩ : ByteArray)).bind fun t735 => (p_PatchFromText.l0 k y732 t735 0)))
theorem p_PatchFromText.calls (k : Nat) (a0 : Nat) (a1 : ByteArray) (r1 : List (S67)) (r2 : Option ByteArray) (w : World) (hd0 : DmpAt w a0) (h : p_PatchFromText.f k a0 a1 = some (r1, r2)) :
  Calls Tryz.prog 22 #[.pointer (some ⟨a0, 0, none⟩), .string a1] w fun e w' => ∃ v0_ : Value, ∃ ev_ : Value, e = .returned (.tuple #[v0_, ev_]) ∧ Kd.S k67 67 w' w.heap.size (fun _ => True) v0_ r1 ∧ ErrAt w' ev_ r2 ∧ Below w.heap.size w w' := by
 have hu67 := Tryz.underlying67
 have hu93 := Tryz.underlying93
 have HD0 := Aside0.mk hd0
 clear hd0
 have HB := aS_ (Below.refl w.heap.size w)
 have H : ((some (([] : List (S67)) : List (S67))).bind fun y732 => (if (a1.size : Int) = 0 then (some (y732, none)) else ((q_zzSplit.f k a1 (⟨#[10]⟩ : ByteArray)).bind fun t735 => (p_PatchFromText.l0 k y732 t735 0)))) = some (r1, r2) := h
 clear h
 obtain ⟨y732, hy732, H⟩ := bindc_ H
 try dsimp only at H
 have Ny732 := Aside0.mk hy732
 clear hy732
 by_cases c3 : (a1.size : Int) = 0
 ·rw [if_pos c3] at H
  have c3b0 := beq_iff_eq.mpr c3
  have c3b1 := bne_eq_false_iff_eq.mpr c3
  clear c3
  simp only [Option.some.injEq, Prod.mk.injEq] at H
  obtain ⟨rfl, rfl⟩ := H
  go_enter Tryz.func22, Tryz.ntmps22
  go_wp2_with (first | ((with_reducible refine gate_dst (N := 13) rfl ?_); refine Kd.S_lit k67 _ 67 ?hg (N := 13) ?hd (xs := ([] : List (S67))) (inner := []) (ok := fun _ => True) (okp := fun _ => True) ?hr ?hp (fun _ hk => hk) trivial (Below.refl _ _) (Nat.le_refl _) (by simp) ?_; (case hd => rfl); (case hg => rfl); (case hr => first | (go_simp; done) | (go_simp; rfl)); (case hp => exact (Reps.none _ _)); intro v733 w4 ho5 hb hg_ hnew_; clear hg_ hnew_; (first | rw [← Ny732.out] at ho5 | (simp only [Int.reduceToNat] at ho5; rw [← Ny732.out] at ho5)); have HO734 := aS_ (Kd.S_lower ho5 (bz_ (bel_ HB.out))); replace HB := aS_ (bt_ (bel_ HB.out) hb); clear hb ho5))
  go_ret2
  exact ⟨_, _, by first | rfl | (simp [*, errW_none, errW_some] <;> rfl), Kd.S_st HO734.out, by exact rfl, bel_ HB.out⟩
 ·rw [if_neg c3] at H
  have c3b0 := beq_eq_false_iff_ne.mpr c3
  have c3b1 := bne_iff_ne.mpr c3
  replace H := Option.bind_eq_some_iff.mp H
  obtain ⟨t735, A60, H⟩ := H
  try dsimp only at H
  have A6 := Aside0.mk A60
  clear A60
  have H' := Aside0.mk H
  clear H
  go_enter Tryz.func22, Tryz.ntmps22
  go_wp2_with (first | ((with_reducible refine gate_dst (N := 13) rfl ?_); refine Kd.S_lit k67 _ 67 ?hg (N := 13) ?hd (xs := ([] : List (S67))) (inner := []) (ok := fun _ => True) (okp := fun _ => True) ?hr ?hp (fun _ hk => hk) trivial (Below.refl _ _) (Nat.le_refl _) (by simp) ?_; (case hd => rfl); (case hg => rfl); (case hr => first | (go_simp; done) | (go_simp; rfl)); (case hp => exact (Reps.none _ _)); intro v733 w7 ho8 hb hg_ hnew_; clear hg_ hnew_; (first | rw [← Ny732.out] at ho8 | (simp only [Int.reduceToNat] at ho8; rw [← Ny732.out] at ho8)); have HO734 := aS_ (Kd.S_lower ho8 (bz_ (bel_ HB.out))); replace HB := aS_ (bt_ (bel_ HB.out) hb); clear hb ho8) | ((with_reducible refine gate_callee (f := 37) rfl ?_); refine goesL_ (some 19) rfl rfl Tryz.func37 (by kernel_rfl) rfl #[.string a1, .string (⟨#[10]⟩ : ByteArray)] rfl (by (try simp only [List.map_toArray, List.map_cons, List.map_nil]); first | done | rfl | (simp only [List.length_drop, List.length_take]; rfl)) ?_; (with_reducible refine (q_zzSplit.calls k a1 (⟨#[10]⟩ : ByteArray) t735 _ A6.out).mono ?_); rintro e w9 ⟨v736, rfl, ho0, hb⟩; refine ⟨_, rfl, ?_⟩; replace HO734 := aS_ (Kd.S_below (Kd.S_st HO734.out) hb); have HO737 := aS_ (Kd.R_lower ho0 (bz_ (bel_ HB.out))); replace HB := aS_ (bt_ (bel_ HB.out) hb)) | ((with_reducible refine gate_dst (N := 9) rfl ?_); refine box_event ?hg (N := 9) ?hd (cs := #[.slice none 0 0, .int .i64 0, .int .i64 0, .int .i64 0, .int .i64 0]) (t := 67) ?hr ?_; (case hd => rfl); (case hg => rfl); (case hr => first | (go_simp; done) | (go_simp; rfl)); intro gb738 hg w10 hbox hb; replace HO734 := aS_ (Kd.S_below (Kd.S_elderB (Kd.S_st HO734.out) gb738 (Nat.le_of_eq hg.symm)) hb); replace HO737 := aS_ (Kd.R_below (Kd.R_st HO737.out) hb); have BK738 := aS_ (hbox); have GW738 := aS_ ((by rw [hg]; exact (bz_ (bel_ HB.out)) : w.heap.size ≤ gb738)); have GE738 := aS_ ((by rw [hg]; exact (bz_ (bel_ HB.out)) : w.heap.size ≤ gb738)); replace HB := aS_ (bt_ (bel_ HB.out) hb); clear hb hbox hg))
  go_loopg [6, 8] k (fun kq v6 v8 w' => ∃ (x6_1 : List (S67)) (x8_1 : Int) (x739000_1 : List (S93)) (x739001_1 : Int) (x739002_1 : Int) (x739003_1 : Int) (x739004_1 : Int) (u739000 : Value), v8 = .int .i64 x8_1 ∧ Aside0 (p_PatchFromText.l0 kq x6_1 t735 x8_1 = some (r1, r2)) ∧ Aside0 (kq ≤ k) ∧ Aside0 (Kd.S k67 67 w' w.heap.size (fun k_ => some k_ ≠ ((.slice none 0 0) : Value).ownBlock ∧ k_ ≠ gb738) v6 x6_1) ∧ Aside0 (Kd.R Kd.string 9 w' w.heap.size (fun _ => True) v736 t735) ∧ Aside0 (Kd.R k93 93 w' w.heap.size (fun _ => True) (.slice none 0 0) x739000_1) ∧ Aside0 (w'.heap[gb738]? = some (.cells #[u739000, .int .i64 x739001_1, .int .i64 x739002_1, .int .i64 x739003_1, .int .i64 x739004_1] 67 (0, 0))) ∧ Aside0 (Below w.heap.size w w'))
  case atStart => exact ⟨(y732), (0), (([] : List (S93))), (0), (0), (0), (0), (.slice none 0 0), (by first | rfl | simp [*]), H', ⟨Nat.le_refl _⟩, ⟨Kd.S_st (Kd.S_mono HO734.out (fun _ hk => ⟨(by simp [Value.ownBlock]), hk.2⟩))⟩, ⟨Kd.R_st HO737.out⟩, ⟨by first | exact Kd.R_nil _ _ _ _ _ | exact Kd.S_nil _ _ _ _ _⟩, ⟨blk_st BK738.out⟩, ⟨by with_reducible repeat first | exact HB.out | apply bA_ | apply bN_ | apply bD_ | refine bS_ ?_ GE738.out⟩⟩
  case round =>
   clear H'
   obtain ⟨x6_1, x8_1, x739000_1, x739001_1, x739002_1, x739003_1, x739004_1, u739000, rfl, HA, HK1, HO_6, HO_7, HO_739000, BK738, HB⟩ := hrel
   cases gk with
   | zero => exact absurd HA.out (by simp [p_PatchFromText.l0])
   | succ k1 =>
    have H := HA.out; clear HA
    simp only [p_PatchFromText.l0] at H
    by_cases c11 : x8_1 < (t735.length : Int)
    ·rw [if_pos c11] at H
     have c11b0 := decide_eq_true c11
     clear c11
     replace H := yes_ H; obtain ⟨c12, H⟩ := H
     have c12b0 := decide_eq_true c12
     clear c12
     replace H := Option.bind_eq_some_iff.mp H
     obtain ⟨t740, A130, H⟩ := H
     try dsimp only at H
     have A13 := Aside0.mk A130
     clear A130
     by_cases c14 : (t740.length : Int) = 0
     ·rw [if_pos c14] at H
      have c14n_ : t740 = [] := List.length_eq_zero_iff.mp (by omega)
      have c14b0 := beq_iff_eq.mpr c14
      replace H := yes_ H; obtain ⟨c14s, H⟩ := H
      simp only [Option.some.injEq, Prod.mk.injEq] at H
      obtain ⟨rfl, rfl⟩ := H
      have c14z : (9223372036854775807 < 22 + (rdOf ByteArray.empty t735 x8_1).size) = False := eq_false (by omega)
      obtain ⟨Ao20, co20, eo20⟩ := Kd.R_slice HO_7.out
      subst eo20
      have p739 : 0 ≤ (x8_1 : Int) := of_decide_eq_true (by assumption)
      have q739 : x8_1 < (t735.length : Int) := of_decide_eq_true (by assumption)
      obtain ⟨ad739, e739, hx739_0⟩ := Kd.at_string (Kd.R_reads' HO_7.out).2.2 x8_1 p739 q739
      cases e739
      replace p739 := eq_true p739
      replace q739 := eq_true q739
      have hnn_ : ∀ W : World, (binOp .eql 61 (.slice none 0 0) (.slice none 0 0)).run Tryz.prog W = .ok (.bool true) W := fun W => Lib.run_eql_slice_nil W 61 9 none 0 0 0 0 Tryz.underlying61
      go_wp2_with (first | (go_at_call 38; refine (q_zzHeader.calls k1 (rdOf ByteArray.empty t735 x8_1) t740 _ A13.out).mono ?_; rintro e w21 ⟨v741, rfl, ho0, hb21_, hni_⟩; obtain rfl := hni_ c14n_; have hx743_0 := pw_cell_below hb21_ hx739_0) | (go_at_call 39; refine (new_err _ _).mono ?_; rintro e w22 ⟨g_, rfl, hg_, hb22_⟩))
      go_ret2
      exact ⟨_, _, rfl, Kd.S_mono (Kd.S_below (Kd.S_below HO_6.out hb21_) hb22_) (fun _ _ => trivial), ⟨g_, rfl, hg_⟩, bt_ (bt_ HB.out hb21_) hb22_⟩
     ·rw [if_neg c14] at H
      have c14b0 := beq_eq_false_iff_ne.mpr c14
      have c14b1 := bne_iff_ne.mpr c14
      have c14b2 : ¬ (t740 = []) := fun h_ => c14 (by rw [h_]; rfl)
      replace H := Option.bind_eq_some_iff.mp H
      obtain ⟨t744, A150, H⟩ := H
      try dsimp only at H
      have A15 := Aside0.mk A150
      clear A150
      replace H := yes_ H; obtain ⟨c16, H⟩ := H
      have c16b0 := decide_eq_true c16
      have c16b1 : decide (1 < t744.length) = true := decide_eq_true (by omega)
      clear c16
      replace H := Option.bind_eq_some_iff.mp H
      obtain ⟨⟨t748, t749⟩, A170, H⟩ := H
      try dsimp only at H
      have A17 := Aside0.mk A170
      clear A170
      replace H := yes_ H; obtain ⟨c18, H⟩ := H
      have c18b0 := decide_eq_true c18
      have c18b1 : decide (2 < t744.length) = true := decide_eq_true (by omega)
      clear c18
      have HC19 := Aside0.mk H
      clear H
      obtain ⟨Ao20, co20, eo20⟩ := Kd.R_slice HO_7.out
      subst eo20
      have p739 : 0 ≤ (x8_1 : Int) := of_decide_eq_true (by assumption)
      have q739 : x8_1 < (t735.length : Int) := of_decide_eq_true (by assumption)
      obtain ⟨ad739, e739, hx739_0⟩ := Kd.at_string (Kd.R_reads' HO_7.out).2.2 x8_1 p739 q739
      cases e739
      replace p739 := eq_true p739
      replace q739 := eq_true q739
      go_upto_if 55 with (first | ((with_reducible refine gate_callee (f := 38) rfl ?_); refine goesL_ (some 28) rfl rfl Tryz.func38 (by kernel_rfl) rfl #[.string (rdOf ByteArray.empty t735 x8_1)] rfl (by (try simp only [List.map_toArray, List.map_cons, List.map_nil]); first | done | rfl | (simp only [List.length_drop, List.length_take]; rfl)) ?_; (with_reducible refine (q_zzHeader.calls k1 (rdOf ByteArray.empty t735 x8_1) t740 _ A13.out).mono ?_); rintro e w21 ⟨v741, rfl, ho0, hb, hni_⟩; refine ⟨_, rfl, ?_⟩; replace HO_6 := aS_ (Kd.S_below (Kd.S_st HO_6.out) hb); replace HO_739000 := aS_ (Kd.R_below (Kd.R_st HO_739000.out) hb); have HO742 := aS_ (Kd.R_lower (Kd.R_new' ho0 (Kd.R_lt (Kd.R_st HO_7.out))) (bz_ (by with_reducible repeat first | exact HB.out | apply bA_ | apply bN_ | apply bD_ | refine bS_ ?_ GE738.out))); replace HO_7 := aS_ (Kd.R_elder' (Kd.R_st HO_7.out) (Kd.R_base ho0) hb); replace BK738 := aS_ (blk_below (g := gb738) (o := .cells #[u739000, .int .i64 x739001_1, .int .i64 x739002_1, .int .i64 x739003_1, .int .i64 x739004_1] 67 (0, 0)) (blk_st BK738.out) hb); replace HB := aS_ (bt_ (by with_reducible repeat first | exact HB.out | apply bA_ | apply bN_ | apply bD_ | refine bS_ ?_ GE738.out) hb); obtain ⟨Ao22, co22, eo22⟩ := Kd.R_slice HO742.out; subst eo22; have hnn23 := run_nnil (c := co22) (P := Tryz.prog) Tryz.underlying61 ((Kd.R_reads' HO742.out).2.2) (by have h_ := (of_decide_eq_false (by assumption) : ¬ (t740.length : Int) = 0); omega); obtain ⟨hcz24_0, hcz24_1, hcz24_2, hcz24_3, hcz24_4, hfz24_0, hfz24_1, hfz24_2, hfz24_3, hfz24_4⟩ := blk5 BK738.out; have p743 : 0 ≤ (x8_1 : Int) := of_decide_eq_true (by assumption); have q743 : x8_1 < (t735.length : Int) := of_decide_eq_true (by assumption); obtain ⟨ad743, e743, hx743_0⟩ := Kd.at_string (Kd.R_reads' HO_7.out).2.2 x8_1 p743 q743; obtain rfl : ad739 = ad743 := (by injection e743); have hn743_0 : ad739.block ≠ gb738 := Kd.own_blk (Kd.R_ne HO_7.out BK738.out (by decide)); have hn743_1 : ad739.block ≠ gb738 := Kd.own_blk (Kd.R_ne HO_7.out BK738.out (by decide)); have hn743_2 : ad739.block ≠ gb738 := Kd.own_blk (Kd.R_ne HO_7.out BK738.out (by decide)); have hn743_3 : ad739.block ≠ gb738 := Kd.own_blk (Kd.R_ne HO_7.out BK738.out (by decide)); have hn743_4 : ad739.block ≠ gb738 := Kd.own_blk (Kd.R_ne HO_7.out BK738.out (by decide)); replace hx743_0 := (cell_far (p := ⟨gb738, 0, none⟩) (by first | (rw [add_block]; exact hn743_0) | (show (Addr.add _ _).block ≠ _; rw [add_block]; exact hn743_0) | exact hn743_0) (.slice none 0 0)).trans hx743_0; replace hx743_0 := (cell_far (p := ⟨gb738, 1, none⟩) (by first | (rw [add_block]; exact hn743_1) | (show (Addr.add _ _).block ≠ _; rw [add_block]; exact hn743_1) | exact hn743_1) (.int .i64 0)).trans hx743_0; replace hx743_0 := (cell_far (p := ⟨gb738, 2, none⟩) (by first | (rw [add_block]; exact hn743_2) | (show (Addr.add _ _).block ≠ _; rw [add_block]; exact hn743_2) | exact hn743_2) (.int .i64 0)).trans hx743_0; replace hx743_0 := (cell_far (p := ⟨gb738, 3, none⟩) (by first | (rw [add_block]; exact hn743_3) | (show (Addr.add _ _).block ≠ _; rw [add_block]; exact hn743_3) | exact hn743_3) (.int .i64 0)).trans hx743_0; replace hx743_0 := (cell_far (p := ⟨gb738, 4, none⟩) (by first | (rw [add_block]; exact hn743_4) | (show (Addr.add _ _).block ≠ _; rw [add_block]; exact hn743_4) | exact hn743_4) (.int .i64 0)).trans hx743_0; clear hn743_0; clear hn743_1; clear hn743_2; clear hn743_3; clear hn743_4; replace p743 := eq_true p743; replace q743 := eq_true q743) | ((with_reducible refine gate_callee (f := 38) rfl ?_); refine goesL_ (some 42) rfl rfl Tryz.func38 (by kernel_rfl) rfl #[.string (rdOf ByteArray.empty t735 x8_1)] rfl (by (try simp only [List.map_toArray, List.map_cons, List.map_nil]); first | done | rfl | (simp only [List.length_drop, List.length_take]; rfl)) ?_; (with_reducible refine (q_zzHeader.calls k1 (rdOf ByteArray.empty t735 x8_1) t744 _ A15.out).mono ?_); rintro e w25 ⟨v745, rfl, ho0, hb, hni_⟩; refine ⟨_, rfl, ?_⟩; replace HO_6 := aS_ (Kd.S_below (Kd.S_st ((Kd.S_mono (Kd.S_far (p := ⟨gb738, 4, none⟩) (Kd.S_far (p := ⟨gb738, 3, none⟩) (Kd.S_far (p := ⟨gb738, 2, none⟩) (Kd.S_far (p := ⟨gb738, 1, none⟩) (Kd.S_far (p := ⟨gb738, 0, none⟩) (Kd.S_mono HO_6.out (fun k_ hk => (⟨hk, hk.2⟩ : _ ∧ k_ ≠ gb738))) (fun _ hk => hk.2) (.slice none 0 0)) (fun _ hk => hk.2) (.int .i64 0)) (fun _ hk => hk.2) (.int .i64 0)) (fun _ hk => hk.2) (.int .i64 0)) (fun _ hk => hk.2) (.int .i64 0)) (fun _ h_ => h_.1)))) hb); replace HO_739000 := aS_ (Kd.R_below (Kd.R_st ((Kd.R_mono (Kd.R_far (p := ⟨gb738, 4, none⟩) (Kd.R_far (p := ⟨gb738, 3, none⟩) (Kd.R_far (p := ⟨gb738, 2, none⟩) (Kd.R_far (p := ⟨gb738, 1, none⟩) (Kd.R_far (p := ⟨gb738, 0, none⟩) (Kd.R_types HO_739000.out BK738.out (by decide)) (fun _ hk => hk.2) (.slice none 0 0)) (fun _ hk => hk.2) (.int .i64 0)) (fun _ hk => hk.2) (.int .i64 0)) (fun _ hk => hk.2) (.int .i64 0)) (fun _ hk => hk.2) (.int .i64 0)) (fun _ h_ => h_.1)))) hb); have HO746 := aS_ (Kd.R_lower (Kd.R_new' (Kd.R_new' ho0 (Kd.R_lt (Kd.R_st ((Kd.R_mono (Kd.R_far (p := ⟨gb738, 4, none⟩) (Kd.R_far (p := ⟨gb738, 3, none⟩) (Kd.R_far (p := ⟨gb738, 2, none⟩) (Kd.R_far (p := ⟨gb738, 1, none⟩) (Kd.R_far (p := ⟨gb738, 0, none⟩) (Kd.R_types HO_7.out BK738.out (by decide)) (fun _ hk => hk.2) (.slice none 0 0)) (fun _ hk => hk.2) (.int .i64 0)) (fun _ hk => hk.2) (.int .i64 0)) (fun _ hk => hk.2) (.int .i64 0)) (fun _ hk => hk.2) (.int .i64 0)) (fun _ h_ => h_.1)))))) (Kd.R_lt (Kd.R_st ((Kd.R_mono (Kd.R_far (p := ⟨gb738, 4, none⟩) (Kd.R_far (p := ⟨gb738, 3, none⟩) (Kd.R_far (p := ⟨gb738, 2, none⟩) (Kd.R_far (p := ⟨gb738, 1, none⟩) (Kd.R_far (p := ⟨gb738, 0, none⟩) (Kd.R_types HO742.out BK738.out (by decide)) (fun _ hk => hk.2) (.slice none 0 0)) (fun _ hk => hk.2) (.int .i64 0)) (fun _ hk => hk.2) (.int .i64 0)) (fun _ hk => hk.2) (.int .i64 0)) (fun _ hk => hk.2) (.int .i64 0)) (fun _ h_ => h_.1)))))) (bz_ (by with_reducible repeat first | exact HB.out | apply bA_ | apply bN_ | apply bD_ | refine bS_ ?_ GE738.out))); replace HO_7 := aS_ (Kd.R_elder' (Kd.R_st ((Kd.R_mono (Kd.R_far (p := ⟨gb738, 4, none⟩) (Kd.R_far (p := ⟨gb738, 3, none⟩) (Kd.R_far (p := ⟨gb738, 2, none⟩) (Kd.R_far (p := ⟨gb738, 1, none⟩) (Kd.R_far (p := ⟨gb738, 0, none⟩) (Kd.R_types HO_7.out BK738.out (by decide)) (fun _ hk => hk.2) (.slice none 0 0)) (fun _ hk => hk.2) (.int .i64 0)) (fun _ hk => hk.2) (.int .i64 0)) (fun _ hk => hk.2) (.int .i64 0)) (fun _ hk => hk.2) (.int .i64 0)) (fun _ h_ => h_.1)))) (Kd.R_base ho0) hb); replace HO742 := aS_ (Kd.R_elder' (Kd.R_st ((Kd.R_mono (Kd.R_far (p := ⟨gb738, 4, none⟩) (Kd.R_far (p := ⟨gb738, 3, none⟩) (Kd.R_far (p := ⟨gb738, 2, none⟩) (Kd.R_far (p := ⟨gb738, 1, none⟩) (Kd.R_far (p := ⟨gb738, 0, none⟩) (Kd.R_types HO742.out BK738.out (by decide)) (fun _ hk => hk.2) (.slice none 0 0)) (fun _ hk => hk.2) (.int .i64 0)) (fun _ hk => hk.2) (.int .i64 0)) (fun _ hk => hk.2) (.int .i64 0)) (fun _ hk => hk.2) (.int .i64 0)) (fun _ h_ => h_.1)))) (Kd.R_base ho0) hb); replace BK738 := aS_ (blk_below (g := gb738) (o := .cells #[.slice none 0 0, .int .i64 0, .int .i64 0, .int .i64 0, .int .i64 0] 67 (0, 0)) (by (with_reducible repeat (first | refine kN_ ?_ _ | refine kD_ ?_ | refine kA_ ?_ _)); refine blk_put (cs := #[.slice none 0 0, .int .i64 0, .int .i64 0, .int .i64 0, .int .i64 x739004_1]) ?_ 4 _ rfl; (with_reducible repeat (first | refine kN_ ?_ _ | refine kD_ ?_ | refine kA_ ?_ _)); refine blk_put (cs := #[.slice none 0 0, .int .i64 0, .int .i64 0, .int .i64 x739003_1, .int .i64 x739004_1]) ?_ 3 _ rfl; (with_reducible repeat (first | refine kN_ ?_ _ | refine kD_ ?_ | refine kA_ ?_ _)); refine blk_put (cs := #[.slice none 0 0, .int .i64 0, .int .i64 x739002_1, .int .i64 x739003_1, .int .i64 x739004_1]) ?_ 2 _ rfl; (with_reducible repeat (first | refine kN_ ?_ _ | refine kD_ ?_ | refine kA_ ?_ _)); refine blk_put (cs := #[.slice none 0 0, .int .i64 x739001_1, .int .i64 x739002_1, .int .i64 x739003_1, .int .i64 x739004_1]) ?_ 1 _ rfl; (with_reducible repeat (first | refine kN_ ?_ _ | refine kD_ ?_ | refine kA_ ?_ _)); refine blk_put (cs := #[u739000, .int .i64 x739001_1, .int .i64 x739002_1, .int .i64 x739003_1, .int .i64 x739004_1]) ?_ 0 _ rfl; (with_reducible repeat (first | refine kN_ ?_ _ | refine kD_ ?_ | refine kA_ ?_ _)); exact BK738.out) hb); replace HB := aS_ (bt_ (by with_reducible repeat first | exact HB.out | apply bA_ | apply bN_ | apply bD_ | refine bS_ ?_ GE738.out) hb); obtain ⟨Ao26, co26, eo26⟩ := Kd.R_slice HO746.out; subst eo26; have p747 : 0 ≤ (1 : Int) := (by omega); have q747 : 1 < (t744.length : Int) := of_decide_eq_true (by assumption); obtain ⟨ad747, e747, hx747_0⟩ := Kd.at_string (Kd.R_reads' HO746.out).2.2 1 p747 q747; cases e747; (try simp only [show (1 : Int).toNat = 1 from rfl, Nat.reduceMul, Nat.reduceEqDiff, Go.Addr.add, ↓reduceIte] at hx747_0); have qi747 : (1 < t744.length) = True := eq_true (by omega); (try rw [show ((1 : Int)).toNat = 1 from rfl] at hx747_0); replace p747 := eq_true p747; replace q747 := eq_true q747) | ((with_reducible refine gate_callee (f := 40) rfl ?_); refine goesL_ (some 47) rfl rfl Tryz.func40 (by kernel_rfl) rfl #[.string (rdOf ByteArray.empty t744 1)] rfl (by (try simp only [List.map_toArray, List.map_cons, List.map_nil]); first | done | rfl | (simp only [List.length_drop, List.length_take]; rfl)) ?_; (with_reducible refine (strconv_Atoi.calls (rdOf ByteArray.empty t744 1) t748 t749 _ A17.out).mono ?_); rintro e w27 ⟨rfl, hb⟩; refine ⟨_, rfl, ?_⟩; replace HO_6 := aS_ (Kd.S_below (Kd.S_st HO_6.out) hb); replace HO_7 := aS_ (Kd.R_below (Kd.R_st HO_7.out) hb); replace HO_739000 := aS_ (Kd.R_below (Kd.R_st HO_739000.out) hb); replace HO742 := aS_ (Kd.R_below (Kd.R_st HO742.out) hb); replace HO746 := aS_ (Kd.R_below (Kd.R_st HO746.out) hb); replace BK738 := aS_ (blk_below (g := gb738) (o := .cells #[.slice none 0 0, .int .i64 0, .int .i64 0, .int .i64 0, .int .i64 0] 67 (0, 0)) (blk_st BK738.out) hb); replace HB := aS_ (bt_ (by with_reducible repeat first | exact HB.out | apply bA_ | apply bN_ | apply bD_ | refine bS_ ?_ GE738.out) hb); (try simp only [errW_none, errW_some]); obtain ⟨hcz28_0, hcz28_1, hcz28_2, hcz28_3, hcz28_4, hfz28_0, hfz28_1, hfz28_2, hfz28_3, hfz28_4⟩ := blk5 BK738.out; have p750 : 0 ≤ (2 : Int) := (by omega); have q750 : 2 < (t744.length : Int) := of_decide_eq_true (by assumption); obtain ⟨ad750, e750, hx750_0⟩ := Kd.at_string (Kd.R_reads' HO746.out).2.2 2 p750 q750; obtain rfl : ad747 = ad750 := (by injection e750); (try simp only [show (2 : Int).toNat = 2 from rfl, Nat.reduceMul, Nat.reduceEqDiff, Go.Addr.add, ↓reduceIte] at hx750_0); have qi750 : (2 < t744.length) = True := eq_true (by omega); (try rw [show ((2 : Int)).toNat = 2 from rfl] at hx750_0); have hn750_0 : ad747.block ≠ gb738 := Kd.own_blk (Kd.R_ne HO746.out BK738.out (by decide)); replace hx750_0 := (cell_far (p := ⟨gb738, 1, none⟩) (by first | (rw [add_block]; exact hn750_0) | (show (Addr.add _ _).block ≠ _; rw [add_block]; exact hn750_0) | exact hn750_0) (.int .i64 t748)).trans hx750_0; clear hn750_0; replace p750 := eq_true p750; replace q750 := eq_true q750))
      (try simp only [Act.put, l1_, l2_, l3_])
      go_cut [] (fun wc => ∃ (kq : Nat) (x739001_18 : Int) (x739003_18 : Int), Aside0 (p_PatchFromText.j1 kq x6_1 t735 x8_1 t744 x739001_18 0 x739003_18 0 = some (r1, r2)) ∧ Aside0 (kq ≤ k1) ∧ Aside0 (Kd.S k67 67 wc w.heap.size (fun k_ => k_ ≠ gb738) u6 x6_1) ∧ Aside0 (Kd.R Kd.string 9 wc w.heap.size (fun k_ => some k_ ≠ ((.slice (some ad747) t744.length co26) : Value).ownBlock) (.slice (some ad739) t735.length co20) t735) ∧ Aside0 (Kd.R Kd.string 9 wc w.heap.size (fun k_ => some k_ ≠ ((.slice (some ad739) t735.length co20) : Value).ownBlock) (.slice (some ad747) t744.length co26) t744) ∧ Aside0 (wc.heap[gb738]? = some (.cells #[(.slice none 0 0), .int .i64 x739001_18, .int .i64 0, .int .i64 x739003_18, .int .i64 0] 67 (0, 0))) ∧ Aside0 (Below w.heap.size w wc))
      case first =>
       have H := HC19.out
       clear HC19
       by_cases c29 : ((rdOf ByteArray.empty t744 2).size : Int) = 0
       ·rw [if_pos c29] at H
        have c29b0 := beq_iff_eq.mpr c29
        have c29b1 := bne_eq_false_iff_eq.mpr c29
        clear c29
        (first | rw [c29b0] | (simp only [i64_w]; rw [c29b0]) | skip)
        have H' := Aside0.mk H
        clear H
        obtain ⟨hcz30_0, hcz30_1, hcz30_2, hcz30_3, hcz30_4, hfz30_0, hfz30_1, hfz30_2, hfz30_3, hfz30_4⟩ := blk5 BK738.out
        go_wp2
        go_meet
        case rel => exact ⟨_, (wrap64 (t748 - 1)), (1), H', ⟨by have := HK1.out; first | omega | exact Nat.le_refl _⟩, ⟨Kd.S_st (Kd.S_mono (Kd.S_far (p := ⟨gb738, 3, none⟩) (Kd.S_far (p := ⟨gb738, 1, none⟩) (Kd.S_far (p := ⟨gb738, 1, none⟩) (Kd.S_mono HO_6.out (fun k_ hk => (⟨hk, hk.2⟩ : _ ∧ k_ ≠ gb738))) (fun _ hk => hk.2) (.int .i64 t748)) (fun _ hk => hk.2) (.int .i64 (wrap64 (t748 - 1)))) (fun _ hk => hk.2) (.int .i64 1)) (fun _ hk => hk.1.2))⟩, ⟨Kd.R_st (Kd.R_mono (Kd.R_far (p := ⟨gb738, 3, none⟩) (Kd.R_far (p := ⟨gb738, 1, none⟩) (Kd.R_far (p := ⟨gb738, 1, none⟩) (Kd.R_types HO_7.out BK738.out (by decide)) (fun _ hk => hk.2) (.int .i64 t748)) (fun _ hk => hk.2) (.int .i64 (wrap64 (t748 - 1)))) (fun _ hk => hk.2) (.int .i64 1)) (fun _ hk => hk.1.2))⟩, ⟨Kd.R_st (Kd.R_mono (Kd.R_far (p := ⟨gb738, 3, none⟩) (Kd.R_far (p := ⟨gb738, 1, none⟩) (Kd.R_far (p := ⟨gb738, 1, none⟩) (Kd.R_types HO746.out BK738.out (by decide)) (fun _ hk => hk.2) (.int .i64 t748)) (fun _ hk => hk.2) (.int .i64 (wrap64 (t748 - 1)))) (fun _ hk => hk.2) (.int .i64 1)) (fun _ hk => hk.1.1.2))⟩, ⟨by (with_reducible repeat (first | refine kN_ ?_ _ | refine kD_ ?_ | refine kA_ ?_ _)); refine blk_put (cs := #[.slice none 0 0, .int .i64 (wrap64 (t748 - 1)), .int .i64 0, .int .i64 0, .int .i64 0]) ?_ 3 _ rfl; (with_reducible repeat (first | refine kN_ ?_ _ | refine kD_ ?_ | refine kA_ ?_ _)); refine blk_put (cs := #[.slice none 0 0, .int .i64 t748, .int .i64 0, .int .i64 0, .int .i64 0]) ?_ 1 _ rfl; (with_reducible repeat (first | refine kN_ ?_ _ | refine kD_ ?_ | refine kA_ ?_ _)); refine blk_put (cs := #[.slice none 0 0, .int .i64 0, .int .i64 0, .int .i64 0, .int .i64 0]) ?_ 1 _ rfl; (with_reducible repeat (first | refine kN_ ?_ _ | refine kD_ ?_ | refine kA_ ?_ _)); exact BK738.out⟩, ⟨by with_reducible repeat first | exact HB.out | apply bA_ | apply bN_ | apply bD_ | refine bS_ ?_ GE738.out⟩⟩
       ·rw [if_neg c29] at H
        have c29b0 := beq_eq_false_iff_ne.mpr c29
        have c29b1 := bne_iff_ne.mpr c29
        (first | rw [c29b0] | (simp only [i64_w]; rw [c29b0]) | skip)
        by_cases c31 : (rdOf ByteArray.empty t744 2).toList = ([48] : List UInt8)
        ·rw [if_pos c31] at H
         have c31b0 := beq_iff_eq.mpr c31
         have c31b1 := bne_eq_false_iff_eq.mpr c31
         clear c31
         have H' := Aside0.mk H
         clear H
         have p751 : 0 ≤ (2 : Int) := (by omega)
         have q751 : 2 < (t744.length : Int) := of_decide_eq_true (by assumption)
         obtain ⟨ad751, e751, hx751_0⟩ := Kd.at_string (Kd.R_reads' HO746.out).2.2 2 p751 q751
         obtain rfl : ad747 = ad751 := (by injection e751)
         (try simp only [show (2 : Int).toNat = 2 from rfl, Nat.reduceMul, Nat.reduceEqDiff, Go.Addr.add, ↓reduceIte] at hx751_0)
         have qi751 : (2 < t744.length) = True := eq_true (by omega)
         (try rw [show ((2 : Int)).toNat = 2 from rfl] at hx751_0)
         have hn751_0 : ad747.block ≠ gb738 := Kd.own_blk (Kd.R_ne HO746.out BK738.out (by decide))
         replace hx751_0 := (cell_far (p := ⟨gb738, 1, none⟩) (by first | (rw [add_block]; exact hn751_0) | (show (Addr.add _ _).block ≠ _; rw [add_block]; exact hn751_0) | exact hn751_0) (.int .i64 t748)).trans hx751_0
         clear hn751_0
         replace p751 := eq_true p751
         replace q751 := eq_true q751
         obtain ⟨hcz32_0, hcz32_1, hcz32_2, hcz32_3, hcz32_4, hfz32_0, hfz32_1, hfz32_2, hfz32_3, hfz32_4⟩ := blk5 BK738.out
         go_wp2
         go_meet
         case rel => exact ⟨_, (t748), (0), H', ⟨by have := HK1.out; first | omega | exact Nat.le_refl _⟩, ⟨Kd.S_st (Kd.S_mono (Kd.S_far (p := ⟨gb738, 3, none⟩) (Kd.S_far (p := ⟨gb738, 1, none⟩) (Kd.S_mono HO_6.out (fun k_ hk => (⟨hk, hk.2⟩ : _ ∧ k_ ≠ gb738))) (fun _ hk => hk.2) (.int .i64 t748)) (fun _ hk => hk.2) (.int .i64 0)) (fun _ hk => hk.1.2))⟩, ⟨Kd.R_st (Kd.R_mono (Kd.R_far (p := ⟨gb738, 3, none⟩) (Kd.R_far (p := ⟨gb738, 1, none⟩) (Kd.R_types HO_7.out BK738.out (by decide)) (fun _ hk => hk.2) (.int .i64 t748)) (fun _ hk => hk.2) (.int .i64 0)) (fun _ hk => hk.1.2))⟩, ⟨Kd.R_st (Kd.R_mono (Kd.R_far (p := ⟨gb738, 3, none⟩) (Kd.R_far (p := ⟨gb738, 1, none⟩) (Kd.R_types HO746.out BK738.out (by decide)) (fun _ hk => hk.2) (.int .i64 t748)) (fun _ hk => hk.2) (.int .i64 0)) (fun _ hk => hk.1.1.2))⟩, ⟨by (with_reducible repeat (first | refine kN_ ?_ _ | refine kD_ ?_ | refine kA_ ?_ _)); refine blk_put (cs := #[.slice none 0 0, .int .i64 t748, .int .i64 0, .int .i64 0, .int .i64 0]) ?_ 3 _ rfl; (with_reducible repeat (first | refine kN_ ?_ _ | refine kD_ ?_ | refine kA_ ?_ _)); refine blk_put (cs := #[.slice none 0 0, .int .i64 0, .int .i64 0, .int .i64 0, .int .i64 0]) ?_ 1 _ rfl; (with_reducible repeat (first | refine kN_ ?_ _ | refine kD_ ?_ | refine kA_ ?_ _)); exact BK738.out⟩, ⟨by with_reducible repeat first | exact HB.out | apply bA_ | apply bN_ | apply bD_ | refine bS_ ?_ GE738.out⟩⟩
        ·rw [if_neg c31] at H
         have c31b0 := beq_eq_false_iff_ne.mpr c31
         have c31b1 := bne_iff_ne.mpr c31
         replace H := Option.bind_eq_some_iff.mp H
         obtain ⟨⟨t753, t754⟩, A330, H⟩ := H
         try dsimp only at H
         have A33 := Aside0.mk A330
         clear A330
         have H' := Aside0.mk H
         clear H
         have p751 : 0 ≤ (2 : Int) := (by omega)
         have q751 : 2 < (t744.length : Int) := of_decide_eq_true (by assumption)
         obtain ⟨ad751, e751, hx751_0⟩ := Kd.at_string (Kd.R_reads' HO746.out).2.2 2 p751 q751
         obtain rfl : ad747 = ad751 := (by injection e751)
         (try simp only [show (2 : Int).toNat = 2 from rfl, Nat.reduceMul, Nat.reduceEqDiff, Go.Addr.add, ↓reduceIte] at hx751_0)
         have qi751 : (2 < t744.length) = True := eq_true (by omega)
         (try rw [show ((2 : Int)).toNat = 2 from rfl] at hx751_0)
         have hn751_0 : ad747.block ≠ gb738 := Kd.own_blk (Kd.R_ne HO746.out BK738.out (by decide))
         replace hx751_0 := (cell_far (p := ⟨gb738, 1, none⟩) (by first | (rw [add_block]; exact hn751_0) | (show (Addr.add _ _).block ≠ _; rw [add_block]; exact hn751_0) | exact hn751_0) (.int .i64 t748)).trans hx751_0
         clear hn751_0
         replace p751 := eq_true p751
         replace q751 := eq_true q751
         obtain ⟨hcz34_0, hcz34_1, hcz34_2, hcz34_3, hcz34_4, hfz34_0, hfz34_1, hfz34_2, hfz34_3, hfz34_4⟩ := blk5 BK738.out
         have p752 : 0 ≤ (2 : Int) := (by omega)
         have q752 : 2 < (t744.length : Int) := of_decide_eq_true (by assumption)
         obtain ⟨ad752, e752, hx752_0⟩ := Kd.at_string (Kd.R_reads' HO746.out).2.2 2 p752 q752
         obtain rfl : ad747 = ad752 := (by injection e752)
         (try simp only [show (2 : Int).toNat = 2 from rfl, Nat.reduceMul, Nat.reduceEqDiff, Go.Addr.add, ↓reduceIte] at hx752_0)
         have qi752 : (2 < t744.length) = True := eq_true (by omega)
         (try rw [show ((2 : Int)).toNat = 2 from rfl] at hx752_0)
         have hn752_0 : ad747.block ≠ gb738 := Kd.own_blk (Kd.R_ne HO746.out BK738.out (by decide))
         have hn752_1 : ad747.block ≠ gb738 := Kd.own_blk (Kd.R_ne HO746.out BK738.out (by decide))
         replace hx752_0 := (cell_far (p := ⟨gb738, 1, none⟩) (by first | (rw [add_block]; exact hn752_0) | (show (Addr.add _ _).block ≠ _; rw [add_block]; exact hn752_0) | exact hn752_0) (.int .i64 t748)).trans hx752_0
         replace hx752_0 := (cell_far (p := ⟨gb738, 1, none⟩) (by first | (rw [add_block]; exact hn752_1) | (show (Addr.add _ _).block ≠ _; rw [add_block]; exact hn752_1) | exact hn752_1) (.int .i64 (wrap64 (t748 - 1)))).trans hx752_0
         clear hn752_0
         clear hn752_1
         replace p752 := eq_true p752
         replace q752 := eq_true q752
         go_wp2_with (first | ((with_reducible refine gate_callee (f := 40) rfl ?_); refine goesL_ (some 74) rfl rfl Tryz.func40 (by kernel_rfl) rfl #[.string (rdOf ByteArray.empty t744 2)] rfl (by (try simp only [List.map_toArray, List.map_cons, List.map_nil]); first | done | rfl | (simp only [List.length_drop, List.length_take]; rfl)) ?_; (with_reducible refine (strconv_Atoi.calls (rdOf ByteArray.empty t744 2) t753 t754 _ A33.out).mono ?_); rintro e w35 ⟨rfl, hb⟩; refine ⟨_, rfl, ?_⟩; replace HO_6 := aS_ (Kd.S_below (Kd.S_st ((Kd.S_mono (Kd.S_far (p := ⟨gb738, 1, none⟩) (Kd.S_far (p := ⟨gb738, 1, none⟩) (Kd.S_mono HO_6.out (fun k_ hk => (⟨hk, hk.2⟩ : _ ∧ k_ ≠ gb738))) (fun _ hk => hk.2) (.int .i64 t748)) (fun _ hk => hk.2) (.int .i64 (wrap64 (t748 - 1)))) (fun _ h_ => h_.1)))) hb); replace HO_7 := aS_ (Kd.R_below (Kd.R_st ((Kd.R_mono (Kd.R_far (p := ⟨gb738, 1, none⟩) (Kd.R_far (p := ⟨gb738, 1, none⟩) (Kd.R_types HO_7.out BK738.out (by decide)) (fun _ hk => hk.2) (.int .i64 t748)) (fun _ hk => hk.2) (.int .i64 (wrap64 (t748 - 1)))) (fun _ h_ => h_.1)))) hb); replace HO_739000 := aS_ (Kd.R_below (Kd.R_st ((Kd.R_mono (Kd.R_far (p := ⟨gb738, 1, none⟩) (Kd.R_far (p := ⟨gb738, 1, none⟩) (Kd.R_types HO_739000.out BK738.out (by decide)) (fun _ hk => hk.2) (.int .i64 t748)) (fun _ hk => hk.2) (.int .i64 (wrap64 (t748 - 1)))) (fun _ h_ => h_.1)))) hb); replace HO742 := aS_ (Kd.R_below (Kd.R_st ((Kd.R_mono (Kd.R_far (p := ⟨gb738, 1, none⟩) (Kd.R_far (p := ⟨gb738, 1, none⟩) (Kd.R_types HO742.out BK738.out (by decide)) (fun _ hk => hk.2) (.int .i64 t748)) (fun _ hk => hk.2) (.int .i64 (wrap64 (t748 - 1)))) (fun _ h_ => h_.1)))) hb); replace HO746 := aS_ (Kd.R_below (Kd.R_st ((Kd.R_mono (Kd.R_far (p := ⟨gb738, 1, none⟩) (Kd.R_far (p := ⟨gb738, 1, none⟩) (Kd.R_types HO746.out BK738.out (by decide)) (fun _ hk => hk.2) (.int .i64 t748)) (fun _ hk => hk.2) (.int .i64 (wrap64 (t748 - 1)))) (fun _ h_ => h_.1)))) hb); replace BK738 := aS_ (blk_below (g := gb738) (o := .cells #[.slice none 0 0, .int .i64 (wrap64 (t748 - 1)), .int .i64 0, .int .i64 0, .int .i64 0] 67 (0, 0)) (by (with_reducible repeat (first | refine kN_ ?_ _ | refine kD_ ?_ | refine kA_ ?_ _)); refine blk_put (cs := #[.slice none 0 0, .int .i64 t748, .int .i64 0, .int .i64 0, .int .i64 0]) ?_ 1 _ rfl; (with_reducible repeat (first | refine kN_ ?_ _ | refine kD_ ?_ | refine kA_ ?_ _)); refine blk_put (cs := #[.slice none 0 0, .int .i64 0, .int .i64 0, .int .i64 0, .int .i64 0]) ?_ 1 _ rfl; (with_reducible repeat (first | refine kN_ ?_ _ | refine kD_ ?_ | refine kA_ ?_ _)); exact BK738.out) hb); replace HB := aS_ (bt_ (by with_reducible repeat first | exact HB.out | apply bA_ | apply bN_ | apply bD_ | refine bS_ ?_ GE738.out) hb); (try simp only [errW_none, errW_some]); obtain ⟨hcz36_0, hcz36_1, hcz36_2, hcz36_3, hcz36_4, hfz36_0, hfz36_1, hfz36_2, hfz36_3, hfz36_4⟩ := blk5 BK738.out))
         go_meet
         case rel => exact ⟨_, (wrap64 (t748 - 1)), (t753), H', ⟨by have := HK1.out; first | omega | exact Nat.le_refl _⟩, ⟨Kd.S_st (Kd.S_mono (Kd.S_far (p := ⟨gb738, 3, none⟩) (Kd.S_mono HO_6.out (fun k_ hk => (⟨hk, hk.2⟩ : _ ∧ k_ ≠ gb738))) (fun _ hk => hk.2) (.int .i64 t753)) (fun _ hk => hk.1.2))⟩, ⟨Kd.R_st (Kd.R_mono (Kd.R_far (p := ⟨gb738, 3, none⟩) (Kd.R_types HO_7.out BK738.out (by decide)) (fun _ hk => hk.2) (.int .i64 t753)) (fun _ hk => hk.1.2))⟩, ⟨Kd.R_st (Kd.R_mono (Kd.R_far (p := ⟨gb738, 3, none⟩) (Kd.R_types HO746.out BK738.out (by decide)) (fun _ hk => hk.2) (.int .i64 t753)) (fun _ hk => hk.1.1.2))⟩, ⟨by (with_reducible repeat (first | refine kN_ ?_ _ | refine kD_ ?_ | refine kA_ ?_ _)); refine blk_put (cs := #[.slice none 0 0, .int .i64 (wrap64 (t748 - 1)), .int .i64 0, .int .i64 0, .int .i64 0]) ?_ 3 _ rfl; (with_reducible repeat (first | refine kN_ ?_ _ | refine kD_ ?_ | refine kA_ ?_ _)); exact BK738.out⟩, ⟨by with_reducible repeat first | exact HB.out | apply bA_ | apply bN_ | apply bD_ | refine bS_ ?_ GE738.out⟩⟩
      case rest =>
       clear HC19
       obtain ⟨kq, x739001_18, x739003_18, HA, HJ18, HO_6, HO_7, HO_12, BK738, HB⟩ := hcut
       cases kq with
       | zero => exact absurd HA.out (by simp [p_PatchFromText.j1])
       | succ kj18 =>
        have H := HA.out; clear HA
        simp only [p_PatchFromText.j1] at H
        replace H := yes_ H; obtain ⟨c37, H⟩ := H
        have c37b0 := decide_eq_true c37
        have c37b1 : decide (3 < t744.length) = true := decide_eq_true (by omega)
        clear c37
        replace H := Option.bind_eq_some_iff.mp H
        obtain ⟨⟨t756, t757⟩, A380, H⟩ := H
        try dsimp only at H
        have A38 := Aside0.mk A380
        clear A380
        replace H := yes_ H; obtain ⟨c39, H⟩ := H
        have c39b0 := decide_eq_true c39
        have c39b1 : decide (4 < t744.length) = true := decide_eq_true (by omega)
        clear c39
        have HC40 := Aside0.mk H
        clear H
        have p755 : 0 ≤ (3 : Int) := (by omega)
        have q755 : 3 < (t744.length : Int) := of_decide_eq_true (by assumption)
        obtain ⟨ad755, e755, hx755_0⟩ := Kd.at_string (Kd.R_reads' HO_12.out).2.2 3 p755 q755
        obtain rfl : ad747 = ad755 := (by injection e755)
        (try simp only [show (3 : Int).toNat = 3 from rfl, Nat.reduceMul, Nat.reduceEqDiff, Go.Addr.add, ↓reduceIte] at hx755_0)
        have qi755 : (3 < t744.length) = True := eq_true (by omega)
        (try rw [show ((3 : Int)).toNat = 3 from rfl] at hx755_0)
        replace p755 := eq_true p755
        replace q755 := eq_true q755
        go_upto_if 90 with (first | ((with_reducible refine gate_callee (f := 40) rfl ?_); refine goesL_ (some 82) rfl rfl Tryz.func40 (by kernel_rfl) rfl #[.string (rdOf ByteArray.empty t744 3)] rfl (by (try simp only [List.map_toArray, List.map_cons, List.map_nil]); first | done | rfl | (simp only [List.length_drop, List.length_take]; rfl)) ?_; (with_reducible refine (strconv_Atoi.calls (rdOf ByteArray.empty t744 3) t756 t757 _ A38.out).mono ?_); rintro e w41 ⟨rfl, hb⟩; refine ⟨_, rfl, ?_⟩; replace HO_6 := aS_ (Kd.S_below (Kd.S_st HO_6.out) hb); replace HO_7 := aS_ (Kd.R_below (Kd.R_st HO_7.out) hb); replace HO_12 := aS_ (Kd.R_below (Kd.R_st HO_12.out) hb); replace BK738 := aS_ (blk_below (g := gb738) (o := .cells #[.slice none 0 0, .int .i64 x739001_18, .int .i64 0, .int .i64 x739003_18, .int .i64 0] 67 (0, 0)) (blk_st BK738.out) hb); replace HB := aS_ (bt_ (by with_reducible repeat first | exact HB.out | apply bA_ | apply bN_ | apply bD_ | refine bS_ ?_ GE738.out) hb); (try simp only [errW_none, errW_some]); obtain ⟨hcz42_0, hcz42_1, hcz42_2, hcz42_3, hcz42_4, hfz42_0, hfz42_1, hfz42_2, hfz42_3, hfz42_4⟩ := blk5 BK738.out; have p758 : 0 ≤ (4 : Int) := (by omega); have q758 : 4 < (t744.length : Int) := of_decide_eq_true (by assumption); obtain ⟨ad758, e758, hx758_0⟩ := Kd.at_string (Kd.R_reads' HO_12.out).2.2 4 p758 q758; obtain rfl : ad747 = ad758 := (by injection e758); (try simp only [show (4 : Int).toNat = 4 from rfl, Nat.reduceMul, Nat.reduceEqDiff, Go.Addr.add, ↓reduceIte] at hx758_0); have qi758 : (4 < t744.length) = True := eq_true (by omega); (try rw [show ((4 : Int)).toNat = 4 from rfl] at hx758_0); have hn758_0 : ad747.block ≠ gb738 := Kd.own_blk (Kd.R_ne HO_12.out BK738.out (by decide)); replace hx758_0 := (cell_far (p := ⟨gb738, 2, none⟩) (by first | (rw [add_block]; exact hn758_0) | (show (Addr.add _ _).block ≠ _; rw [add_block]; exact hn758_0) | exact hn758_0) (.int .i64 t756)).trans hx758_0; clear hn758_0; replace p758 := eq_true p758; replace q758 := eq_true q758))
        (try simp only [Act.put, l1_, l2_, l3_])
        go_cut [] (fun wc => ∃ (kq : Nat) (x739002_39 : Int) (x739004_39 : Int), Aside0 (p_PatchFromText.j2 kq x6_1 t735 x8_1 x739001_18 x739002_39 x739003_18 x739004_39 = some (r1, r2)) ∧ Aside0 (kq ≤ kj18) ∧ Aside0 (Kd.S k67 67 wc w.heap.size (fun k_ => k_ ≠ gb738) u6 x6_1) ∧ Aside0 (Kd.R Kd.string 9 wc w.heap.size (fun _ => True) (.slice (some ad739) t735.length co20) t735) ∧ Aside0 (wc.heap[gb738]? = some (.cells #[(.slice none 0 0), .int .i64 x739001_18, .int .i64 x739002_39, .int .i64 x739003_18, .int .i64 x739004_39] 67 (0, 0))) ∧ Aside0 (Below w.heap.size w wc))
        case first =>
         have H := HC40.out
         clear HC40
         by_cases c43 : ((rdOf ByteArray.empty t744 4).size : Int) = 0
         ·rw [if_pos c43] at H
          have c43b0 := beq_iff_eq.mpr c43
          have c43b1 := bne_eq_false_iff_eq.mpr c43
          clear c43
          (first | rw [c43b0] | (simp only [i64_w]; rw [c43b0]) | skip)
          have H' := Aside0.mk H
          clear H
          obtain ⟨hcz44_0, hcz44_1, hcz44_2, hcz44_3, hcz44_4, hfz44_0, hfz44_1, hfz44_2, hfz44_3, hfz44_4⟩ := blk5 BK738.out
          go_wp2
          go_meet
          case rel => exact ⟨_, (wrap64 (t756 - 1)), (1), H', ⟨by have := HK1.out; have := HJ18.out; first | omega | exact Nat.le_refl _⟩, ⟨Kd.S_st (Kd.S_mono (Kd.S_far (p := ⟨gb738, 4, none⟩) (Kd.S_far (p := ⟨gb738, 2, none⟩) (Kd.S_far (p := ⟨gb738, 2, none⟩) (Kd.S_mono HO_6.out (fun k_ hk => (⟨hk, hk⟩ : _ ∧ k_ ≠ gb738))) (fun _ hk => hk.2) (.int .i64 t756)) (fun _ hk => hk.2) (.int .i64 (wrap64 (t756 - 1)))) (fun _ hk => hk.2) (.int .i64 1)) (fun _ hk => hk.1))⟩, ⟨Kd.R_st (Kd.R_mono (Kd.R_far (p := ⟨gb738, 4, none⟩) (Kd.R_far (p := ⟨gb738, 2, none⟩) (Kd.R_far (p := ⟨gb738, 2, none⟩) (Kd.R_types HO_7.out BK738.out (by decide)) (fun _ hk => hk.2) (.int .i64 t756)) (fun _ hk => hk.2) (.int .i64 (wrap64 (t756 - 1)))) (fun _ hk => hk.2) (.int .i64 1)) (fun _ hk => trivial))⟩, ⟨by (with_reducible repeat (first | refine kN_ ?_ _ | refine kD_ ?_ | refine kA_ ?_ _)); refine blk_put (cs := #[.slice none 0 0, .int .i64 x739001_18, .int .i64 (wrap64 (t756 - 1)), .int .i64 x739003_18, .int .i64 0]) ?_ 4 _ rfl; (with_reducible repeat (first | refine kN_ ?_ _ | refine kD_ ?_ | refine kA_ ?_ _)); refine blk_put (cs := #[.slice none 0 0, .int .i64 x739001_18, .int .i64 t756, .int .i64 x739003_18, .int .i64 0]) ?_ 2 _ rfl; (with_reducible repeat (first | refine kN_ ?_ _ | refine kD_ ?_ | refine kA_ ?_ _)); refine blk_put (cs := #[.slice none 0 0, .int .i64 x739001_18, .int .i64 0, .int .i64 x739003_18, .int .i64 0]) ?_ 2 _ rfl; (with_reducible repeat (first | refine kN_ ?_ _ | refine kD_ ?_ | refine kA_ ?_ _)); exact BK738.out⟩, ⟨by with_reducible repeat first | exact HB.out | apply bA_ | apply bN_ | apply bD_ | refine bS_ ?_ GE738.out⟩⟩
         ·rw [if_neg c43] at H
          have c43b0 := beq_eq_false_iff_ne.mpr c43
          have c43b1 := bne_iff_ne.mpr c43
          (first | rw [c43b0] | (simp only [i64_w]; rw [c43b0]) | skip)
          by_cases c45 : (rdOf ByteArray.empty t744 4).toList = ([48] : List UInt8)
          ·rw [if_pos c45] at H
           have c45b0 := beq_iff_eq.mpr c45
           have c45b1 := bne_eq_false_iff_eq.mpr c45
           clear c45
           have H' := Aside0.mk H
           clear H
           have p759 : 0 ≤ (4 : Int) := (by omega)
           have q759 : 4 < (t744.length : Int) := of_decide_eq_true (by assumption)
           obtain ⟨ad759, e759, hx759_0⟩ := Kd.at_string (Kd.R_reads' HO_12.out).2.2 4 p759 q759
           obtain rfl : ad747 = ad759 := (by injection e759)
           (try simp only [show (4 : Int).toNat = 4 from rfl, Nat.reduceMul, Nat.reduceEqDiff, Go.Addr.add, ↓reduceIte] at hx759_0)
           have qi759 : (4 < t744.length) = True := eq_true (by omega)
           (try rw [show ((4 : Int)).toNat = 4 from rfl] at hx759_0)
           have hn759_0 : ad747.block ≠ gb738 := Kd.own_blk (Kd.R_ne HO_12.out BK738.out (by decide))
           replace hx759_0 := (cell_far (p := ⟨gb738, 2, none⟩) (by first | (rw [add_block]; exact hn759_0) | (show (Addr.add _ _).block ≠ _; rw [add_block]; exact hn759_0) | exact hn759_0) (.int .i64 t756)).trans hx759_0
           clear hn759_0
           replace p759 := eq_true p759
           replace q759 := eq_true q759
           obtain ⟨hcz46_0, hcz46_1, hcz46_2, hcz46_3, hcz46_4, hfz46_0, hfz46_1, hfz46_2, hfz46_3, hfz46_4⟩ := blk5 BK738.out
           go_wp2
           go_meet
           case rel => exact ⟨_, (t756), (0), H', ⟨by have := HK1.out; have := HJ18.out; first | omega | exact Nat.le_refl _⟩, ⟨Kd.S_st (Kd.S_mono (Kd.S_far (p := ⟨gb738, 4, none⟩) (Kd.S_far (p := ⟨gb738, 2, none⟩) (Kd.S_mono HO_6.out (fun k_ hk => (⟨hk, hk⟩ : _ ∧ k_ ≠ gb738))) (fun _ hk => hk.2) (.int .i64 t756)) (fun _ hk => hk.2) (.int .i64 0)) (fun _ hk => hk.1))⟩, ⟨Kd.R_st (Kd.R_mono (Kd.R_far (p := ⟨gb738, 4, none⟩) (Kd.R_far (p := ⟨gb738, 2, none⟩) (Kd.R_types HO_7.out BK738.out (by decide)) (fun _ hk => hk.2) (.int .i64 t756)) (fun _ hk => hk.2) (.int .i64 0)) (fun _ hk => trivial))⟩, ⟨by (with_reducible repeat (first | refine kN_ ?_ _ | refine kD_ ?_ | refine kA_ ?_ _)); refine blk_put (cs := #[.slice none 0 0, .int .i64 x739001_18, .int .i64 t756, .int .i64 x739003_18, .int .i64 0]) ?_ 4 _ rfl; (with_reducible repeat (first | refine kN_ ?_ _ | refine kD_ ?_ | refine kA_ ?_ _)); refine blk_put (cs := #[.slice none 0 0, .int .i64 x739001_18, .int .i64 0, .int .i64 x739003_18, .int .i64 0]) ?_ 2 _ rfl; (with_reducible repeat (first | refine kN_ ?_ _ | refine kD_ ?_ | refine kA_ ?_ _)); exact BK738.out⟩, ⟨by with_reducible repeat first | exact HB.out | apply bA_ | apply bN_ | apply bD_ | refine bS_ ?_ GE738.out⟩⟩
          ·rw [if_neg c45] at H
           have c45b0 := beq_eq_false_iff_ne.mpr c45
           have c45b1 := bne_iff_ne.mpr c45
           replace H := Option.bind_eq_some_iff.mp H
           obtain ⟨⟨t761, t762⟩, A470, H⟩ := H
           try dsimp only at H
           have A47 := Aside0.mk A470
           clear A470
           have H' := Aside0.mk H
           clear H
           have p759 : 0 ≤ (4 : Int) := (by omega)
           have q759 : 4 < (t744.length : Int) := of_decide_eq_true (by assumption)
           obtain ⟨ad759, e759, hx759_0⟩ := Kd.at_string (Kd.R_reads' HO_12.out).2.2 4 p759 q759
           obtain rfl : ad747 = ad759 := (by injection e759)
           (try simp only [show (4 : Int).toNat = 4 from rfl, Nat.reduceMul, Nat.reduceEqDiff, Go.Addr.add, ↓reduceIte] at hx759_0)
           have qi759 : (4 < t744.length) = True := eq_true (by omega)
           (try rw [show ((4 : Int)).toNat = 4 from rfl] at hx759_0)
           have hn759_0 : ad747.block ≠ gb738 := Kd.own_blk (Kd.R_ne HO_12.out BK738.out (by decide))
           replace hx759_0 := (cell_far (p := ⟨gb738, 2, none⟩) (by first | (rw [add_block]; exact hn759_0) | (show (Addr.add _ _).block ≠ _; rw [add_block]; exact hn759_0) | exact hn759_0) (.int .i64 t756)).trans hx759_0
           clear hn759_0
           replace p759 := eq_true p759
           replace q759 := eq_true q759
           obtain ⟨hcz48_0, hcz48_1, hcz48_2, hcz48_3, hcz48_4, hfz48_0, hfz48_1, hfz48_2, hfz48_3, hfz48_4⟩ := blk5 BK738.out
           have p760 : 0 ≤ (4 : Int) := (by omega)
           have q760 : 4 < (t744.length : Int) := of_decide_eq_true (by assumption)
           obtain ⟨ad760, e760, hx760_0⟩ := Kd.at_string (Kd.R_reads' HO_12.out).2.2 4 p760 q760
           obtain rfl : ad747 = ad760 := (by injection e760)
           (try simp only [show (4 : Int).toNat = 4 from rfl, Nat.reduceMul, Nat.reduceEqDiff, Go.Addr.add, ↓reduceIte] at hx760_0)
           have qi760 : (4 < t744.length) = True := eq_true (by omega)
           (try rw [show ((4 : Int)).toNat = 4 from rfl] at hx760_0)
           have hn760_0 : ad747.block ≠ gb738 := Kd.own_blk (Kd.R_ne HO_12.out BK738.out (by decide))
           have hn760_1 : ad747.block ≠ gb738 := Kd.own_blk (Kd.R_ne HO_12.out BK738.out (by decide))
           replace hx760_0 := (cell_far (p := ⟨gb738, 2, none⟩) (by first | (rw [add_block]; exact hn760_0) | (show (Addr.add _ _).block ≠ _; rw [add_block]; exact hn760_0) | exact hn760_0) (.int .i64 t756)).trans hx760_0
           replace hx760_0 := (cell_far (p := ⟨gb738, 2, none⟩) (by first | (rw [add_block]; exact hn760_1) | (show (Addr.add _ _).block ≠ _; rw [add_block]; exact hn760_1) | exact hn760_1) (.int .i64 (wrap64 (t756 - 1)))).trans hx760_0
           clear hn760_0
           clear hn760_1
           replace p760 := eq_true p760
           replace q760 := eq_true q760
           go_wp2_with (first | ((with_reducible refine gate_callee (f := 40) rfl ?_); refine goesL_ (some 109) rfl rfl Tryz.func40 (by kernel_rfl) rfl #[.string (rdOf ByteArray.empty t744 4)] rfl (by (try simp only [List.map_toArray, List.map_cons, List.map_nil]); first | done | rfl | (simp only [List.length_drop, List.length_take]; rfl)) ?_; (with_reducible refine (strconv_Atoi.calls (rdOf ByteArray.empty t744 4) t761 t762 _ A47.out).mono ?_); rintro e w49 ⟨rfl, hb⟩; refine ⟨_, rfl, ?_⟩; replace HO_6 := aS_ (Kd.S_below (Kd.S_st ((Kd.S_mono (Kd.S_far (p := ⟨gb738, 2, none⟩) (Kd.S_far (p := ⟨gb738, 2, none⟩) (Kd.S_mono HO_6.out (fun k_ hk => (⟨hk, hk⟩ : _ ∧ k_ ≠ gb738))) (fun _ hk => hk.2) (.int .i64 t756)) (fun _ hk => hk.2) (.int .i64 (wrap64 (t756 - 1)))) (fun _ h_ => h_.1)))) hb); replace HO_7 := aS_ (Kd.R_below (Kd.R_st ((Kd.R_mono (Kd.R_far (p := ⟨gb738, 2, none⟩) (Kd.R_far (p := ⟨gb738, 2, none⟩) (Kd.R_types HO_7.out BK738.out (by decide)) (fun _ hk => hk.2) (.int .i64 t756)) (fun _ hk => hk.2) (.int .i64 (wrap64 (t756 - 1)))) (fun _ h_ => h_.1)))) hb); replace HO_12 := aS_ (Kd.R_below (Kd.R_st ((Kd.R_mono (Kd.R_far (p := ⟨gb738, 2, none⟩) (Kd.R_far (p := ⟨gb738, 2, none⟩) (Kd.R_types HO_12.out BK738.out (by decide)) (fun _ hk => hk.2) (.int .i64 t756)) (fun _ hk => hk.2) (.int .i64 (wrap64 (t756 - 1)))) (fun _ h_ => h_.1)))) hb); replace BK738 := aS_ (blk_below (g := gb738) (o := .cells #[.slice none 0 0, .int .i64 x739001_18, .int .i64 (wrap64 (t756 - 1)), .int .i64 x739003_18, .int .i64 0] 67 (0, 0)) (by (with_reducible repeat (first | refine kN_ ?_ _ | refine kD_ ?_ | refine kA_ ?_ _)); refine blk_put (cs := #[.slice none 0 0, .int .i64 x739001_18, .int .i64 t756, .int .i64 x739003_18, .int .i64 0]) ?_ 2 _ rfl; (with_reducible repeat (first | refine kN_ ?_ _ | refine kD_ ?_ | refine kA_ ?_ _)); refine blk_put (cs := #[.slice none 0 0, .int .i64 x739001_18, .int .i64 0, .int .i64 x739003_18, .int .i64 0]) ?_ 2 _ rfl; (with_reducible repeat (first | refine kN_ ?_ _ | refine kD_ ?_ | refine kA_ ?_ _)); exact BK738.out) hb); replace HB := aS_ (bt_ (by with_reducible repeat first | exact HB.out | apply bA_ | apply bN_ | apply bD_ | refine bS_ ?_ GE738.out) hb); (try simp only [errW_none, errW_some]); obtain ⟨hcz50_0, hcz50_1, hcz50_2, hcz50_3, hcz50_4, hfz50_0, hfz50_1, hfz50_2, hfz50_3, hfz50_4⟩ := blk5 BK738.out))
           go_meet
           case rel => exact ⟨_, (wrap64 (t756 - 1)), (t761), H', ⟨by have := HK1.out; have := HJ18.out; first | omega | exact Nat.le_refl _⟩, ⟨Kd.S_st (Kd.S_mono (Kd.S_far (p := ⟨gb738, 4, none⟩) (Kd.S_mono HO_6.out (fun k_ hk => (⟨hk, hk⟩ : _ ∧ k_ ≠ gb738))) (fun _ hk => hk.2) (.int .i64 t761)) (fun _ hk => hk.1))⟩, ⟨Kd.R_st (Kd.R_mono (Kd.R_far (p := ⟨gb738, 4, none⟩) (Kd.R_types HO_7.out BK738.out (by decide)) (fun _ hk => hk.2) (.int .i64 t761)) (fun _ hk => trivial))⟩, ⟨by (with_reducible repeat (first | refine kN_ ?_ _ | refine kD_ ?_ | refine kA_ ?_ _)); refine blk_put (cs := #[.slice none 0 0, .int .i64 x739001_18, .int .i64 (wrap64 (t756 - 1)), .int .i64 x739003_18, .int .i64 0]) ?_ 4 _ rfl; (with_reducible repeat (first | refine kN_ ?_ _ | refine kD_ ?_ | refine kA_ ?_ _)); exact BK738.out⟩, ⟨by with_reducible repeat first | exact HB.out | apply bA_ | apply bN_ | apply bD_ | refine bS_ ?_ GE738.out⟩⟩
        case rest =>
         clear HC40
         obtain ⟨kq, x739002_39, x739004_39, HA, HJ39, HO_6, HO_7, BK738, HB⟩ := hcut
         cases kq with
         | zero => exact absurd HA.out (by simp [p_PatchFromText.j2])
         | succ kj39 =>
          have H := HA.out; clear HA
          simp only [p_PatchFromText.j2] at H
          have H' := Aside0.mk H
          clear H
          go_wp2
          go_loopg [8] kj39 (fun kq v8 w' => ∃ (x8_4 : Int) (x739000_4 : List (S93)) (u739000 : Value), v8 = .int .i64 x8_4 ∧ Aside0 (p_PatchFromText.l1 kq x6_1 t735 x8_4 x739000_4 x739001_18 x739002_39 x739003_18 x739004_39 = some (r1, r2)) ∧ Aside0 (kq ≤ kj39) ∧ Aside0 (Kd.S k67 67 w' w.heap.size (fun k_ => some k_ ≠ (u739000 : Value).ownBlock ∧ k_ ≠ gb738) u6 x6_1) ∧ Aside0 (Kd.R Kd.string 9 w' w.heap.size (fun _ => True) (.slice (some ad739) t735.length co20) t735) ∧ Aside0 (Kd.R k93 93 w' w.heap.size (fun _ => True) u739000 x739000_4) ∧ Aside0 (w'.heap[gb738]? = some (.cells #[u739000, .int .i64 x739001_18, .int .i64 x739002_39, .int .i64 x739003_18, .int .i64 x739004_39] 67 (0, 0))) ∧ Aside0 (Below w.heap.size w w'))
          case atStart => exact ⟨(wrap64 (x8_1 + 1)), (([] : List (S93))), (.slice none 0 0), (by first | rfl | simp [*]), H', ⟨Nat.le_refl _⟩, ⟨Kd.S_st (Kd.S_mono HO_6.out (fun _ hk => ⟨(by simp [Value.ownBlock]), hk⟩))⟩, ⟨Kd.R_st HO_7.out⟩, ⟨by first | exact Kd.R_nil _ _ _ _ _ | exact Kd.S_nil _ _ _ _ _⟩, ⟨blk_st BK738.out⟩, ⟨by with_reducible repeat first | exact HB.out | apply bA_ | apply bN_ | apply bD_ | refine bS_ ?_ GE738.out⟩⟩
          case round =>
           clear H'
           obtain ⟨x8_4, x739000_4, u739000, rfl, HA, HK4, HO_6, HO_7, HO_739000, BK738, HB⟩ := hrel
           cases gk with
           | zero => exact absurd HA.out (by simp [p_PatchFromText.l1])
           | succ k4 =>
            have H := HA.out; clear HA
            simp only [p_PatchFromText.l1] at H
            by_cases c51 : x8_4 < (t735.length : Int)
            ·rw [if_pos c51] at H
             have c51b0 := decide_eq_true c51
             clear c51
             replace H := yes_ H; obtain ⟨c52, H⟩ := H
             have c52b0 := decide_eq_true c52
             clear c52
             by_cases c53 : ((rdOf ByteArray.empty t735 x8_4).size : Int) > 0
             ·rw [if_pos c53] at H
              have c53b0 : decide (0 < ((rdOf ByteArray.empty t735 x8_4).size : Int)) = true := decide_eq_true c53
              have c53b1 : decide (0 < (rdOf ByteArray.empty t735 x8_4).size) = true := decide_eq_true (by omega)
              clear c53
              replace H := yes_ H; obtain ⟨c54, H⟩ := H
              have c54b0 := decide_eq_true c54
              have c54b1 : decide (0 < (rdOf ByteArray.empty t735 x8_4).size) = true := decide_eq_true (by omega)
              clear c54
              replace H := yes_ H; obtain ⟨c56, H⟩ := H
              have c56b0 := eq_true c56
              have c56b1 := decide_eq_true c56
              clear c56
              replace H := Option.bind_eq_some_iff.mp H
              obtain ⟨t769, A570, H⟩ := H
              try dsimp only at H
              have A57 := Aside0.mk A570
              clear A570
              replace H := Option.bind_eq_some_iff.mp H
              obtain ⟨⟨t770, t771⟩, A580, H⟩ := H
              try dsimp only at H
              have A58 := Aside0.mk A580
              clear A580
              by_cases c59 : (bt (rdOf ByteArray.empty t735 x8_4) 0) = 45
              ·rw [if_pos c59] at H
               have c59b0 := beq_iff_eq.mpr c59
               have c59b1 := bne_eq_false_iff_eq.mpr c59
               clear c59
               replace H := yes_ H; obtain ⟨c60, H⟩ := H
               have LMc60 := Aside0.mk c60
               clear c60
               obtain ⟨y772, hy772⟩ : ∃ y_ : List (S93), y_ = (x739000_4 ++ [(⟨(-1), t770⟩ : S93)]) := ⟨_, rfl⟩
               replace H : (p_PatchFromText.l1 k4 x6_1 t735 (wrap64 (x8_4 + 1)) y772 x739001_18 x739002_39 x739003_18 x739004_39) = some (r1, r2) := by first | (rw [hy772]; with_reducible exact H) | (have H2_ := (Option.bind_some _ _).symm.trans H; rw [hy772]; with_reducible exact H2_) | (have H2_ := (Option.bind_some _ _).symm.trans H; with_reducible exact H2_) | with_reducible exact H | (rw [hy772]; exact H) | exact H
               have Ny772 := Aside0.mk hy772
               clear hy772
               have H' := Aside0.mk H
               clear H
               have p766 : 0 ≤ (x8_4 : Int) := of_decide_eq_true (by assumption)
               have q766 : x8_4 < (t735.length : Int) := of_decide_eq_true (by assumption)
               obtain ⟨ad766, e766, hx766_0⟩ := Kd.at_string (Kd.R_reads' HO_7.out).2.2 x8_4 p766 q766
               obtain rfl : ad739 = ad766 := (by injection e766)
               replace p766 := eq_true p766
               replace q766 := eq_true q766
               have p767 : 0 ≤ (x8_4 : Int) := of_decide_eq_true (by assumption)
               have q767 : x8_4 < (t735.length : Int) := of_decide_eq_true (by assumption)
               obtain ⟨ad767, e767, hx767_0⟩ := Kd.at_string (Kd.R_reads' HO_7.out).2.2 x8_4 p767 q767
               obtain rfl : ad739 = ad767 := (by injection e767)
               replace p767 := eq_true p767
               replace q767 := eq_true q767
               have p55 : 0 ≤ (0 : Int) := (by omega)
               have q55 : 0 < (rdOf ByteArray.empty t735 x8_4).size := (by have : (0 : Int) < ((rdOf ByteArray.empty t735 x8_4).size : Int) := of_decide_eq_true (by assumption); omega)
               have hx55 : ∀ h : 0 < (rdOf ByteArray.empty t735 x8_4).size, (((rdOf ByteArray.empty t735 x8_4)[0]'h).toNat : Int) = bt (rdOf ByteArray.empty t735 x8_4) 0 := bt_at (rdOf ByteArray.empty t735 x8_4) 0
               clear p55
               have qi55 : (0 < ((rdOf ByteArray.empty t735 x8_4).size : Int)) = True := eq_true (of_decide_eq_true (by assumption))
               replace q55 := eq_true q55
               have p768 : 0 ≤ (x8_4 : Int) := of_decide_eq_true (by assumption)
               have q768 : x8_4 < (t735.length : Int) := of_decide_eq_true (by assumption)
               obtain ⟨ad768, e768, hx768_0⟩ := Kd.at_string (Kd.R_reads' HO_7.out).2.2 x8_4 p768 q768
               obtain rfl : ad739 = ad768 := (by injection e768)
               replace p768 := eq_true p768
               replace q768 := eq_true q768
               go_wp2_with (first | ((with_reducible refine gate_callee (f := 41) rfl ?_); refine goesL_ (some 138) rfl rfl Tryz.func41 (by kernel_rfl) rfl #[.string ((rdOf ByteArray.empty t735 x8_4).extract 1 (rdOf ByteArray.empty t735 x8_4).size), .string (⟨#[43]⟩ : ByteArray), .string (⟨#[37, 50, 98]⟩ : ByteArray)] rfl (by (try simp only [List.map_toArray, List.map_cons, List.map_nil]); first | done | rfl | (simp only [List.length_drop, List.length_take]; rfl)) ?_; (with_reducible refine (q_zzReplace.calls k4 ((rdOf ByteArray.empty t735 x8_4).extract 1 (rdOf ByteArray.empty t735 x8_4).size) (⟨#[43]⟩ : ByteArray) (⟨#[37, 50, 98]⟩ : ByteArray) t769 _ A57.out).mono ?_); rintro e w' ⟨rfl, ⟨nd, rfl⟩⟩; refine ⟨_, rfl, ?_⟩; (try (rw [drewN_self wr]; generalize hq_ : World.drewN wr _ = wr; have n0_ : Aside0 (Kd.S k67 67 wr w.heap.size (fun k_ => some k_ ≠ (u739000 : Value).ownBlock ∧ k_ ≠ gb738) u6 x6_1) := ⟨by rw [← hq_]; exact (Kd.S_st HO_6.out)⟩; have n1_ : Aside0 (Kd.R Kd.string 9 wr w.heap.size (fun _ => True) (.slice (some ad739) t735.length co20) t735) := ⟨by rw [← hq_]; exact (Kd.R_st HO_7.out)⟩; have n2_ : Aside0 (Kd.R k93 93 wr w.heap.size (fun _ => True) u739000 x739000_4) := ⟨by rw [← hq_]; exact (Kd.R_st HO_739000.out)⟩; have n3_ : Aside0 (wr.heap[gb738]? = some (.cells #[u739000, .int .i64 x739001_18, .int .i64 x739002_39, .int .i64 x739003_18, .int .i64 x739004_39] 67 (0, 0))) := ⟨by rw [← hq_]; exact (blk_st BK738.out)⟩; have n4_ : Aside0 (Below w.heap.size w wr) := ⟨by rw [← hq_]; exact (by with_reducible repeat first | exact HB.out | apply bA_ | apply bN_ | apply bD_ | refine bS_ ?_ GE738.out)⟩; clear HO_6 HO_7 HO_739000 BK738 HB hq_; have HO_6 := n0_; have HO_7 := n1_; have HO_739000 := n2_; have BK738 := n3_; have HB := n4_; clear n0_ n1_ n2_ n3_ n4_))) | ((with_reducible refine gate_callee (f := 42) rfl ?_); refine goesL_ (some 141) rfl rfl Tryz.func42 (by kernel_rfl) rfl #[.string t769] rfl (by (try simp only [List.map_toArray, List.map_cons, List.map_nil]); first | done | rfl | (simp only [List.length_drop, List.length_take]; rfl)) ?_; (with_reducible refine (q_zzQueryUnescape.calls k4 t769 t770 t771 _ A58.out).mono ?_); rintro e w61 ⟨rfl, hb⟩; refine ⟨_, rfl, ?_⟩; replace HO_6 := aS_ (Kd.S_below (Kd.S_st HO_6.out) hb); replace HO_7 := aS_ (Kd.R_below (Kd.R_st HO_7.out) hb); replace HO_739000 := aS_ (Kd.R_below (Kd.R_st HO_739000.out) hb); replace BK738 := aS_ (blk_below (g := gb738) (o := .cells #[u739000, .int .i64 x739001_18, .int .i64 x739002_39, .int .i64 x739003_18, .int .i64 x739004_39] 67 (0, 0)) (blk_st BK738.out) hb); replace HB := aS_ (bt_ (by with_reducible repeat first | exact HB.out | apply bA_ | apply bN_ | apply bD_ | refine bS_ ?_ GE738.out) hb); (try simp only [errW_none, errW_some]); obtain ⟨hcz62_0, hcz62_1, hcz62_2, hcz62_3, hcz62_4, hfz62_0, hfz62_1, hfz62_2, hfz62_3, hfz62_4⟩ := blk5 BK738.out) | ((with_reducible refine gate_builtin (b := .append) (xs := #[.tmp 147, .tmp 150]) rfl ?_); at_builtin; refine Kd.R_append k93 (w0 := w) w.heap.size rfl (.tmp 147) (.tmp 150) 65 93 (.agg #[(.int .i8 0), (.string ⟨#[]⟩)]) 24 rfl Tryz.underlying65 info93 rfl (by decide) (by omega) u739000 x739000_4 (⟨(-1), t770⟩ : S93) [.int .i8 (-1), .string t770] (fun _ => True) (fun _ => False) rfl rfl ?aP (fun _ hk => hk.elim) ?aF ?aO ?aB ?aS ?aL ?_; (case aP => exact k93_mkM _ _ _ (⟨(-1), t770⟩ : S93)); (case aB => exact (by with_reducible repeat first | exact HB.out | apply bA_ | apply bN_ | apply bD_ | refine bS_ ?_ GE738.out)); (case aF => exact (fun _ _ => trivial)); (case aO => exact (Kd.R_st HO_739000.out)); (case aS => exact (bz_ (by with_reducible repeat first | exact HB.out | apply bA_ | apply bN_ | apply bD_ | refine bS_ ?_ GE738.out))); (case aL => have := LMc60.out; omega); intro v773 w63 ho hb hg hat; rw [← Ny772.out] at ho; replace HO_6 := aS_ (Kd.S_after (ok := (fun k_ => k_ ≠ gb738)) (Kd.S_st (Kd.S_mono HO_6.out (fun _ hk => ⟨hk.2, hk.1⟩))) hg hat); replace HO_7 := aS_ (Kd.R_over' (Kd.R_st HO_7.out) (Kd.R_typed (Kd.R_st HO_739000.out)) (by decide) hg); replace BK738 := aS_ (blk_grown (g := gb738) (o := .cells #[u739000, .int .i64 x739001_18, .int .i64 x739002_39, .int .i64 x739003_18, .int .i64 x739004_39] 67 (0, 0)) (blk_st BK738.out) hg (Kd.R_ne HO_739000.out BK738.out (by decide))); replace HB := aS_ (hb); have HO774 := aS_ (ho); clear HO_739000; clear ho hb hg hat; obtain ⟨Ao64, co64, eo64⟩ := Kd.R_slice HO774.out; subst eo64; obtain ⟨hcz65_0, hcz65_1, hcz65_2, hcz65_3, hcz65_4, hfz65_0, hfz65_1, hfz65_2, hfz65_3, hfz65_4⟩ := blk5 BK738.out))
               go_roundg k4
               case measure => have := HK1.out; have := HJ18.out; have := HJ39.out; have := HK4.out; omega
               case rel => exact ⟨(wrap64 (x8_4 + 1)), (y772), (.slice Ao64 y772.length co64), (by first | rfl | simp [*]), H', ⟨by have := HK1.out; have := HJ18.out; have := HJ39.out; have := HK4.out; omega⟩, ⟨Kd.S_st (Kd.S_mono (Kd.S_far (p := ⟨gb738, 0, none⟩) (Kd.S_mono HO_6.out (fun k_ hk => (⟨hk, hk.1⟩ : _ ∧ k_ ≠ gb738))) (fun _ hk => hk.2) (.slice Ao64 y772.length co64)) (fun _ hk => ⟨hk.1.2, hk.1.1⟩))⟩, ⟨Kd.R_st (Kd.R_mono (Kd.R_far (p := ⟨gb738, 0, none⟩) (Kd.R_types HO_7.out BK738.out (by decide)) (fun _ hk => hk.2) (.slice Ao64 y772.length co64)) (fun _ hk => trivial))⟩, ⟨Kd.R_st (Kd.R_mono (Kd.R_far (p := ⟨gb738, 0, none⟩) (Kd.R_types HO774.out BK738.out (by decide)) (fun _ hk => hk.2) (.slice Ao64 y772.length co64)) (fun _ hk => trivial))⟩, ⟨by (with_reducible repeat (first | refine kN_ ?_ _ | refine kD_ ?_ | refine kA_ ?_ _)); refine blk_put (cs := #[u739000, .int .i64 x739001_18, .int .i64 x739002_39, .int .i64 x739003_18, .int .i64 x739004_39]) ?_ 0 _ rfl; (with_reducible repeat (first | refine kN_ ?_ _ | refine kD_ ?_ | refine kA_ ?_ _)); exact BK738.out⟩, ⟨by with_reducible repeat first | exact HB.out | apply bA_ | apply bN_ | apply bD_ | refine bS_ ?_ GE738.out⟩⟩
              ·rw [if_neg c59] at H
               have c59b0 := beq_eq_false_iff_ne.mpr c59
               have c59b1 := bne_iff_ne.mpr c59
               by_cases c66 : (bt (rdOf ByteArray.empty t735 x8_4) 0) = 43
               ·rw [if_pos c66] at H
                have c66b0 := beq_iff_eq.mpr c66
                have c66b1 := bne_eq_false_iff_eq.mpr c66
                clear c66
                replace H := yes_ H; obtain ⟨c67, H⟩ := H
                have LMc67 := Aside0.mk c67
                clear c67
                obtain ⟨y775, hy775⟩ : ∃ y_ : List (S93), y_ = (x739000_4 ++ [(⟨1, t770⟩ : S93)]) := ⟨_, rfl⟩
                replace H : (p_PatchFromText.l1 k4 x6_1 t735 (wrap64 (x8_4 + 1)) y775 x739001_18 x739002_39 x739003_18 x739004_39) = some (r1, r2) := by first | (rw [hy775]; with_reducible exact H) | (have H2_ := (Option.bind_some _ _).symm.trans H; rw [hy775]; with_reducible exact H2_) | (have H2_ := (Option.bind_some _ _).symm.trans H; with_reducible exact H2_) | with_reducible exact H | (rw [hy775]; exact H) | exact H
                have Ny775 := Aside0.mk hy775
                clear hy775
                have H' := Aside0.mk H
                clear H
                have p766 : 0 ≤ (x8_4 : Int) := of_decide_eq_true (by assumption)
                have q766 : x8_4 < (t735.length : Int) := of_decide_eq_true (by assumption)
                obtain ⟨ad766, e766, hx766_0⟩ := Kd.at_string (Kd.R_reads' HO_7.out).2.2 x8_4 p766 q766
                obtain rfl : ad739 = ad766 := (by injection e766)
                replace p766 := eq_true p766
                replace q766 := eq_true q766
                have p767 : 0 ≤ (x8_4 : Int) := of_decide_eq_true (by assumption)
                have q767 : x8_4 < (t735.length : Int) := of_decide_eq_true (by assumption)
                obtain ⟨ad767, e767, hx767_0⟩ := Kd.at_string (Kd.R_reads' HO_7.out).2.2 x8_4 p767 q767
                obtain rfl : ad739 = ad767 := (by injection e767)
                replace p767 := eq_true p767
                replace q767 := eq_true q767
                have p55 : 0 ≤ (0 : Int) := (by omega)
                have q55 : 0 < (rdOf ByteArray.empty t735 x8_4).size := (by have : (0 : Int) < ((rdOf ByteArray.empty t735 x8_4).size : Int) := of_decide_eq_true (by assumption); omega)
                have hx55 : ∀ h : 0 < (rdOf ByteArray.empty t735 x8_4).size, (((rdOf ByteArray.empty t735 x8_4)[0]'h).toNat : Int) = bt (rdOf ByteArray.empty t735 x8_4) 0 := bt_at (rdOf ByteArray.empty t735 x8_4) 0
                clear p55
                have qi55 : (0 < ((rdOf ByteArray.empty t735 x8_4).size : Int)) = True := eq_true (of_decide_eq_true (by assumption))
                replace q55 := eq_true q55
                have p768 : 0 ≤ (x8_4 : Int) := of_decide_eq_true (by assumption)
                have q768 : x8_4 < (t735.length : Int) := of_decide_eq_true (by assumption)
                obtain ⟨ad768, e768, hx768_0⟩ := Kd.at_string (Kd.R_reads' HO_7.out).2.2 x8_4 p768 q768
                obtain rfl : ad739 = ad768 := (by injection e768)
                replace p768 := eq_true p768
                replace q768 := eq_true q768
                go_wp2_with (first | ((with_reducible refine gate_callee (f := 41) rfl ?_); refine goesL_ (some 138) rfl rfl Tryz.func41 (by kernel_rfl) rfl #[.string ((rdOf ByteArray.empty t735 x8_4).extract 1 (rdOf ByteArray.empty t735 x8_4).size), .string (⟨#[43]⟩ : ByteArray), .string (⟨#[37, 50, 98]⟩ : ByteArray)] rfl (by (try simp only [List.map_toArray, List.map_cons, List.map_nil]); first | done | rfl | (simp only [List.length_drop, List.length_take]; rfl)) ?_; (with_reducible refine (q_zzReplace.calls k4 ((rdOf ByteArray.empty t735 x8_4).extract 1 (rdOf ByteArray.empty t735 x8_4).size) (⟨#[43]⟩ : ByteArray) (⟨#[37, 50, 98]⟩ : ByteArray) t769 _ A57.out).mono ?_); rintro e w' ⟨rfl, ⟨nd, rfl⟩⟩; refine ⟨_, rfl, ?_⟩; (try (rw [drewN_self wr]; generalize hq_ : World.drewN wr _ = wr; have n0_ : Aside0 (Kd.S k67 67 wr w.heap.size (fun k_ => some k_ ≠ (u739000 : Value).ownBlock ∧ k_ ≠ gb738) u6 x6_1) := ⟨by rw [← hq_]; exact (Kd.S_st HO_6.out)⟩; have n1_ : Aside0 (Kd.R Kd.string 9 wr w.heap.size (fun _ => True) (.slice (some ad739) t735.length co20) t735) := ⟨by rw [← hq_]; exact (Kd.R_st HO_7.out)⟩; have n2_ : Aside0 (Kd.R k93 93 wr w.heap.size (fun _ => True) u739000 x739000_4) := ⟨by rw [← hq_]; exact (Kd.R_st HO_739000.out)⟩; have n3_ : Aside0 (wr.heap[gb738]? = some (.cells #[u739000, .int .i64 x739001_18, .int .i64 x739002_39, .int .i64 x739003_18, .int .i64 x739004_39] 67 (0, 0))) := ⟨by rw [← hq_]; exact (blk_st BK738.out)⟩; have n4_ : Aside0 (Below w.heap.size w wr) := ⟨by rw [← hq_]; exact (by with_reducible repeat first | exact HB.out | apply bA_ | apply bN_ | apply bD_ | refine bS_ ?_ GE738.out)⟩; clear HO_6 HO_7 HO_739000 BK738 HB hq_; have HO_6 := n0_; have HO_7 := n1_; have HO_739000 := n2_; have BK738 := n3_; have HB := n4_; clear n0_ n1_ n2_ n3_ n4_))) | ((with_reducible refine gate_callee (f := 42) rfl ?_); refine goesL_ (some 141) rfl rfl Tryz.func42 (by kernel_rfl) rfl #[.string t769] rfl (by (try simp only [List.map_toArray, List.map_cons, List.map_nil]); first | done | rfl | (simp only [List.length_drop, List.length_take]; rfl)) ?_; (with_reducible refine (q_zzQueryUnescape.calls k4 t769 t770 t771 _ A58.out).mono ?_); rintro e w68 ⟨rfl, hb⟩; refine ⟨_, rfl, ?_⟩; replace HO_6 := aS_ (Kd.S_below (Kd.S_st HO_6.out) hb); replace HO_7 := aS_ (Kd.R_below (Kd.R_st HO_7.out) hb); replace HO_739000 := aS_ (Kd.R_below (Kd.R_st HO_739000.out) hb); replace BK738 := aS_ (blk_below (g := gb738) (o := .cells #[u739000, .int .i64 x739001_18, .int .i64 x739002_39, .int .i64 x739003_18, .int .i64 x739004_39] 67 (0, 0)) (blk_st BK738.out) hb); replace HB := aS_ (bt_ (by with_reducible repeat first | exact HB.out | apply bA_ | apply bN_ | apply bD_ | refine bS_ ?_ GE738.out) hb); (try simp only [errW_none, errW_some]); obtain ⟨hcz69_0, hcz69_1, hcz69_2, hcz69_3, hcz69_4, hfz69_0, hfz69_1, hfz69_2, hfz69_3, hfz69_4⟩ := blk5 BK738.out) | ((with_reducible refine gate_builtin (b := .append) (xs := #[.tmp 156, .tmp 159]) rfl ?_); at_builtin; refine Kd.R_append k93 (w0 := w) w.heap.size rfl (.tmp 156) (.tmp 159) 65 93 (.agg #[(.int .i8 0), (.string ⟨#[]⟩)]) 24 rfl Tryz.underlying65 info93 rfl (by decide) (by omega) u739000 x739000_4 (⟨1, t770⟩ : S93) [.int .i8 1, .string t770] (fun _ => True) (fun _ => False) rfl rfl ?aP (fun _ hk => hk.elim) ?aF ?aO ?aB ?aS ?aL ?_; (case aP => exact k93_mkM _ _ _ (⟨1, t770⟩ : S93)); (case aB => exact (by with_reducible repeat first | exact HB.out | apply bA_ | apply bN_ | apply bD_ | refine bS_ ?_ GE738.out)); (case aF => exact (fun _ _ => trivial)); (case aO => exact (Kd.R_st HO_739000.out)); (case aS => exact (bz_ (by with_reducible repeat first | exact HB.out | apply bA_ | apply bN_ | apply bD_ | refine bS_ ?_ GE738.out))); (case aL => have := LMc67.out; omega); intro v776 w70 ho hb hg hat; rw [← Ny775.out] at ho; replace HO_6 := aS_ (Kd.S_after (ok := (fun k_ => k_ ≠ gb738)) (Kd.S_st (Kd.S_mono HO_6.out (fun _ hk => ⟨hk.2, hk.1⟩))) hg hat); replace HO_7 := aS_ (Kd.R_over' (Kd.R_st HO_7.out) (Kd.R_typed (Kd.R_st HO_739000.out)) (by decide) hg); replace BK738 := aS_ (blk_grown (g := gb738) (o := .cells #[u739000, .int .i64 x739001_18, .int .i64 x739002_39, .int .i64 x739003_18, .int .i64 x739004_39] 67 (0, 0)) (blk_st BK738.out) hg (Kd.R_ne HO_739000.out BK738.out (by decide))); replace HB := aS_ (hb); have HO777 := aS_ (ho); clear HO_739000; clear ho hb hg hat; obtain ⟨Ao71, co71, eo71⟩ := Kd.R_slice HO777.out; subst eo71; obtain ⟨hcz72_0, hcz72_1, hcz72_2, hcz72_3, hcz72_4, hfz72_0, hfz72_1, hfz72_2, hfz72_3, hfz72_4⟩ := blk5 BK738.out))
                go_roundg k4
                case measure => have := HK1.out; have := HJ18.out; have := HJ39.out; have := HK4.out; omega
                case rel => exact ⟨(wrap64 (x8_4 + 1)), (y775), (.slice Ao71 y775.length co71), (by first | rfl | simp [*]), H', ⟨by have := HK1.out; have := HJ18.out; have := HJ39.out; have := HK4.out; omega⟩, ⟨Kd.S_st (Kd.S_mono (Kd.S_far (p := ⟨gb738, 0, none⟩) (Kd.S_mono HO_6.out (fun k_ hk => (⟨hk, hk.1⟩ : _ ∧ k_ ≠ gb738))) (fun _ hk => hk.2) (.slice Ao71 y775.length co71)) (fun _ hk => ⟨hk.1.2, hk.1.1⟩))⟩, ⟨Kd.R_st (Kd.R_mono (Kd.R_far (p := ⟨gb738, 0, none⟩) (Kd.R_types HO_7.out BK738.out (by decide)) (fun _ hk => hk.2) (.slice Ao71 y775.length co71)) (fun _ hk => trivial))⟩, ⟨Kd.R_st (Kd.R_mono (Kd.R_far (p := ⟨gb738, 0, none⟩) (Kd.R_types HO777.out BK738.out (by decide)) (fun _ hk => hk.2) (.slice Ao71 y775.length co71)) (fun _ hk => trivial))⟩, ⟨by (with_reducible repeat (first | refine kN_ ?_ _ | refine kD_ ?_ | refine kA_ ?_ _)); refine blk_put (cs := #[u739000, .int .i64 x739001_18, .int .i64 x739002_39, .int .i64 x739003_18, .int .i64 x739004_39]) ?_ 0 _ rfl; (with_reducible repeat (first | refine kN_ ?_ _ | refine kD_ ?_ | refine kA_ ?_ _)); exact BK738.out⟩, ⟨by with_reducible repeat first | exact HB.out | apply bA_ | apply bN_ | apply bD_ | refine bS_ ?_ GE738.out⟩⟩
               ·rw [if_neg c66] at H
                have c66b0 := beq_eq_false_iff_ne.mpr c66
                have c66b1 := bne_iff_ne.mpr c66
                by_cases c73 : (bt (rdOf ByteArray.empty t735 x8_4) 0) = 32
                ·rw [if_pos c73] at H
                 have c73b0 := beq_iff_eq.mpr c73
                 have c73b1 := bne_eq_false_iff_eq.mpr c73
                 clear c73
                 replace H := yes_ H; obtain ⟨c74, H⟩ := H
                 have LMc74 := Aside0.mk c74
                 clear c74
                 obtain ⟨y778, hy778⟩ : ∃ y_ : List (S93), y_ = (x739000_4 ++ [(⟨0, t770⟩ : S93)]) := ⟨_, rfl⟩
                 replace H : (p_PatchFromText.l1 k4 x6_1 t735 (wrap64 (x8_4 + 1)) y778 x739001_18 x739002_39 x739003_18 x739004_39) = some (r1, r2) := by first | (rw [hy778]; with_reducible exact H) | (have H2_ := (Option.bind_some _ _).symm.trans H; rw [hy778]; with_reducible exact H2_) | (have H2_ := (Option.bind_some _ _).symm.trans H; with_reducible exact H2_) | with_reducible exact H | (rw [hy778]; exact H) | exact H
                 have Ny778 := Aside0.mk hy778
                 clear hy778
                 have H' := Aside0.mk H
                 clear H
                 have p766 : 0 ≤ (x8_4 : Int) := of_decide_eq_true (by assumption)
                 have q766 : x8_4 < (t735.length : Int) := of_decide_eq_true (by assumption)
                 obtain ⟨ad766, e766, hx766_0⟩ := Kd.at_string (Kd.R_reads' HO_7.out).2.2 x8_4 p766 q766
                 obtain rfl : ad739 = ad766 := (by injection e766)
                 replace p766 := eq_true p766
                 replace q766 := eq_true q766
                 have p767 : 0 ≤ (x8_4 : Int) := of_decide_eq_true (by assumption)
                 have q767 : x8_4 < (t735.length : Int) := of_decide_eq_true (by assumption)
                 obtain ⟨ad767, e767, hx767_0⟩ := Kd.at_string (Kd.R_reads' HO_7.out).2.2 x8_4 p767 q767
                 obtain rfl : ad739 = ad767 := (by injection e767)
                 replace p767 := eq_true p767
                 replace q767 := eq_true q767
                 have p55 : 0 ≤ (0 : Int) := (by omega)
                 have q55 : 0 < (rdOf ByteArray.empty t735 x8_4).size := (by have : (0 : Int) < ((rdOf ByteArray.empty t735 x8_4).size : Int) := of_decide_eq_true (by assumption); omega)
                 have hx55 : ∀ h : 0 < (rdOf ByteArray.empty t735 x8_4).size, (((rdOf ByteArray.empty t735 x8_4)[0]'h).toNat : Int) = bt (rdOf ByteArray.empty t735 x8_4) 0 := bt_at (rdOf ByteArray.empty t735 x8_4) 0
                 clear p55
                 have qi55 : (0 < ((rdOf ByteArray.empty t735 x8_4).size : Int)) = True := eq_true (of_decide_eq_true (by assumption))
                 replace q55 := eq_true q55
                 have p768 : 0 ≤ (x8_4 : Int) := of_decide_eq_true (by assumption)
                 have q768 : x8_4 < (t735.length : Int) := of_decide_eq_true (by assumption)
                 obtain ⟨ad768, e768, hx768_0⟩ := Kd.at_string (Kd.R_reads' HO_7.out).2.2 x8_4 p768 q768
                 obtain rfl : ad739 = ad768 := (by injection e768)
                 replace p768 := eq_true p768
                 replace q768 := eq_true q768
                 go_wp2_with (first | ((with_reducible refine gate_callee (f := 41) rfl ?_); refine goesL_ (some 138) rfl rfl Tryz.func41 (by kernel_rfl) rfl #[.string ((rdOf ByteArray.empty t735 x8_4).extract 1 (rdOf ByteArray.empty t735 x8_4).size), .string (⟨#[43]⟩ : ByteArray), .string (⟨#[37, 50, 98]⟩ : ByteArray)] rfl (by (try simp only [List.map_toArray, List.map_cons, List.map_nil]); first | done | rfl | (simp only [List.length_drop, List.length_take]; rfl)) ?_; (with_reducible refine (q_zzReplace.calls k4 ((rdOf ByteArray.empty t735 x8_4).extract 1 (rdOf ByteArray.empty t735 x8_4).size) (⟨#[43]⟩ : ByteArray) (⟨#[37, 50, 98]⟩ : ByteArray) t769 _ A57.out).mono ?_); rintro e w' ⟨rfl, ⟨nd, rfl⟩⟩; refine ⟨_, rfl, ?_⟩; (try (rw [drewN_self wr]; generalize hq_ : World.drewN wr _ = wr; have n0_ : Aside0 (Kd.S k67 67 wr w.heap.size (fun k_ => some k_ ≠ (u739000 : Value).ownBlock ∧ k_ ≠ gb738) u6 x6_1) := ⟨by rw [← hq_]; exact (Kd.S_st HO_6.out)⟩; have n1_ : Aside0 (Kd.R Kd.string 9 wr w.heap.size (fun _ => True) (.slice (some ad739) t735.length co20) t735) := ⟨by rw [← hq_]; exact (Kd.R_st HO_7.out)⟩; have n2_ : Aside0 (Kd.R k93 93 wr w.heap.size (fun _ => True) u739000 x739000_4) := ⟨by rw [← hq_]; exact (Kd.R_st HO_739000.out)⟩; have n3_ : Aside0 (wr.heap[gb738]? = some (.cells #[u739000, .int .i64 x739001_18, .int .i64 x739002_39, .int .i64 x739003_18, .int .i64 x739004_39] 67 (0, 0))) := ⟨by rw [← hq_]; exact (blk_st BK738.out)⟩; have n4_ : Aside0 (Below w.heap.size w wr) := ⟨by rw [← hq_]; exact (by with_reducible repeat first | exact HB.out | apply bA_ | apply bN_ | apply bD_ | refine bS_ ?_ GE738.out)⟩; clear HO_6 HO_7 HO_739000 BK738 HB hq_; have HO_6 := n0_; have HO_7 := n1_; have HO_739000 := n2_; have BK738 := n3_; have HB := n4_; clear n0_ n1_ n2_ n3_ n4_))) | ((with_reducible refine gate_callee (f := 42) rfl ?_); refine goesL_ (some 141) rfl rfl Tryz.func42 (by kernel_rfl) rfl #[.string t769] rfl (by (try simp only [List.map_toArray, List.map_cons, List.map_nil]); first | done | rfl | (simp only [List.length_drop, List.length_take]; rfl)) ?_; (with_reducible refine (q_zzQueryUnescape.calls k4 t769 t770 t771 _ A58.out).mono ?_); rintro e w75 ⟨rfl, hb⟩; refine ⟨_, rfl, ?_⟩; replace HO_6 := aS_ (Kd.S_below (Kd.S_st HO_6.out) hb); replace HO_7 := aS_ (Kd.R_below (Kd.R_st HO_7.out) hb); replace HO_739000 := aS_ (Kd.R_below (Kd.R_st HO_739000.out) hb); replace BK738 := aS_ (blk_below (g := gb738) (o := .cells #[u739000, .int .i64 x739001_18, .int .i64 x739002_39, .int .i64 x739003_18, .int .i64 x739004_39] 67 (0, 0)) (blk_st BK738.out) hb); replace HB := aS_ (bt_ (by with_reducible repeat first | exact HB.out | apply bA_ | apply bN_ | apply bD_ | refine bS_ ?_ GE738.out) hb); (try simp only [errW_none, errW_some]); obtain ⟨hcz76_0, hcz76_1, hcz76_2, hcz76_3, hcz76_4, hfz76_0, hfz76_1, hfz76_2, hfz76_3, hfz76_4⟩ := blk5 BK738.out) | ((with_reducible refine gate_builtin (b := .append) (xs := #[.tmp 165, .tmp 168]) rfl ?_); at_builtin; refine Kd.R_append k93 (w0 := w) w.heap.size rfl (.tmp 165) (.tmp 168) 65 93 (.agg #[(.int .i8 0), (.string ⟨#[]⟩)]) 24 rfl Tryz.underlying65 info93 rfl (by decide) (by omega) u739000 x739000_4 (⟨0, t770⟩ : S93) [.int .i8 0, .string t770] (fun _ => True) (fun _ => False) rfl rfl ?aP (fun _ hk => hk.elim) ?aF ?aO ?aB ?aS ?aL ?_; (case aP => exact k93_mkM _ _ _ (⟨0, t770⟩ : S93)); (case aB => exact (by with_reducible repeat first | exact HB.out | apply bA_ | apply bN_ | apply bD_ | refine bS_ ?_ GE738.out)); (case aF => exact (fun _ _ => trivial)); (case aO => exact (Kd.R_st HO_739000.out)); (case aS => exact (bz_ (by with_reducible repeat first | exact HB.out | apply bA_ | apply bN_ | apply bD_ | refine bS_ ?_ GE738.out))); (case aL => have := LMc74.out; omega); intro v779 w77 ho hb hg hat; rw [← Ny778.out] at ho; replace HO_6 := aS_ (Kd.S_after (ok := (fun k_ => k_ ≠ gb738)) (Kd.S_st (Kd.S_mono HO_6.out (fun _ hk => ⟨hk.2, hk.1⟩))) hg hat); replace HO_7 := aS_ (Kd.R_over' (Kd.R_st HO_7.out) (Kd.R_typed (Kd.R_st HO_739000.out)) (by decide) hg); replace BK738 := aS_ (blk_grown (g := gb738) (o := .cells #[u739000, .int .i64 x739001_18, .int .i64 x739002_39, .int .i64 x739003_18, .int .i64 x739004_39] 67 (0, 0)) (blk_st BK738.out) hg (Kd.R_ne HO_739000.out BK738.out (by decide))); replace HB := aS_ (hb); have HO780 := aS_ (ho); clear HO_739000; clear ho hb hg hat; obtain ⟨Ao78, co78, eo78⟩ := Kd.R_slice HO780.out; subst eo78; obtain ⟨hcz79_0, hcz79_1, hcz79_2, hcz79_3, hcz79_4, hfz79_0, hfz79_1, hfz79_2, hfz79_3, hfz79_4⟩ := blk5 BK738.out))
                 go_roundg k4
                 case measure => have := HK1.out; have := HJ18.out; have := HJ39.out; have := HK4.out; omega
                 case rel => exact ⟨(wrap64 (x8_4 + 1)), (y778), (.slice Ao78 y778.length co78), (by first | rfl | simp [*]), H', ⟨by have := HK1.out; have := HJ18.out; have := HJ39.out; have := HK4.out; omega⟩, ⟨Kd.S_st (Kd.S_mono (Kd.S_far (p := ⟨gb738, 0, none⟩) (Kd.S_mono HO_6.out (fun k_ hk => (⟨hk, hk.1⟩ : _ ∧ k_ ≠ gb738))) (fun _ hk => hk.2) (.slice Ao78 y778.length co78)) (fun _ hk => ⟨hk.1.2, hk.1.1⟩))⟩, ⟨Kd.R_st (Kd.R_mono (Kd.R_far (p := ⟨gb738, 0, none⟩) (Kd.R_types HO_7.out BK738.out (by decide)) (fun _ hk => hk.2) (.slice Ao78 y778.length co78)) (fun _ hk => trivial))⟩, ⟨Kd.R_st (Kd.R_mono (Kd.R_far (p := ⟨gb738, 0, none⟩) (Kd.R_types HO780.out BK738.out (by decide)) (fun _ hk => hk.2) (.slice Ao78 y778.length co78)) (fun _ hk => trivial))⟩, ⟨by (with_reducible repeat (first | refine kN_ ?_ _ | refine kD_ ?_ | refine kA_ ?_ _)); refine blk_put (cs := #[u739000, .int .i64 x739001_18, .int .i64 x739002_39, .int .i64 x739003_18, .int .i64 x739004_39]) ?_ 0 _ rfl; (with_reducible repeat (first | refine kN_ ?_ _ | refine kD_ ?_ | refine kA_ ?_ _)); exact BK738.out⟩, ⟨by with_reducible repeat first | exact HB.out | apply bA_ | apply bN_ | apply bD_ | refine bS_ ?_ GE738.out⟩⟩
                ·rw [if_neg c73] at H
                 have c73b0 := beq_eq_false_iff_ne.mpr c73
                 have c73b1 := bne_iff_ne.mpr c73
                 by_cases c80 : (bt (rdOf ByteArray.empty t735 x8_4) 0) = 64
                 ·rw [if_pos c80] at H
                  have c80b0 := beq_iff_eq.mpr c80
                  have c80b1 := bne_eq_false_iff_eq.mpr c80
                  clear c80
                  replace H := yes_ H; obtain ⟨c81, H⟩ := H
                  have LMc81 := Aside0.mk c81
                  clear c81
                  obtain ⟨y781, hy781⟩ : ∃ y_ : List (S67), y_ = (x6_1 ++ [(⟨x739000_4, x739001_18, x739002_39, x739003_18, x739004_39⟩ : S67)]) := ⟨_, rfl⟩
                  replace H : (p_PatchFromText.l0 k4 y781 t735 x8_4) = some (r1, r2) := by first | (rw [hy781]; with_reducible exact H) | (have H2_ := (Option.bind_some _ _).symm.trans H; rw [hy781]; with_reducible exact H2_) | (have H2_ := (Option.bind_some _ _).symm.trans H; with_reducible exact H2_) | with_reducible exact H | (rw [hy781]; exact H) | exact H
                  have Ny781 := Aside0.mk hy781
                  clear hy781
                  have H' := Aside0.mk H
                  clear H
                  have p766 : 0 ≤ (x8_4 : Int) := of_decide_eq_true (by assumption)
                  have q766 : x8_4 < (t735.length : Int) := of_decide_eq_true (by assumption)
                  obtain ⟨ad766, e766, hx766_0⟩ := Kd.at_string (Kd.R_reads' HO_7.out).2.2 x8_4 p766 q766
                  obtain rfl : ad739 = ad766 := (by injection e766)
                  replace p766 := eq_true p766
                  replace q766 := eq_true q766
                  have p767 : 0 ≤ (x8_4 : Int) := of_decide_eq_true (by assumption)
                  have q767 : x8_4 < (t735.length : Int) := of_decide_eq_true (by assumption)
                  obtain ⟨ad767, e767, hx767_0⟩ := Kd.at_string (Kd.R_reads' HO_7.out).2.2 x8_4 p767 q767
                  obtain rfl : ad739 = ad767 := (by injection e767)
                  replace p767 := eq_true p767
                  replace q767 := eq_true q767
                  have p55 : 0 ≤ (0 : Int) := (by omega)
                  have q55 : 0 < (rdOf ByteArray.empty t735 x8_4).size := (by have : (0 : Int) < ((rdOf ByteArray.empty t735 x8_4).size : Int) := of_decide_eq_true (by assumption); omega)
                  have hx55 : ∀ h : 0 < (rdOf ByteArray.empty t735 x8_4).size, (((rdOf ByteArray.empty t735 x8_4)[0]'h).toNat : Int) = bt (rdOf ByteArray.empty t735 x8_4) 0 := bt_at (rdOf ByteArray.empty t735 x8_4) 0
                  clear p55
                  have qi55 : (0 < ((rdOf ByteArray.empty t735 x8_4).size : Int)) = True := eq_true (of_decide_eq_true (by assumption))
                  replace q55 := eq_true q55
                  have p768 : 0 ≤ (x8_4 : Int) := of_decide_eq_true (by assumption)
                  have q768 : x8_4 < (t735.length : Int) := of_decide_eq_true (by assumption)
                  obtain ⟨ad768, e768, hx768_0⟩ := Kd.at_string (Kd.R_reads' HO_7.out).2.2 x8_4 p768 q768
                  obtain rfl : ad739 = ad768 := (by injection e768)
                  replace p768 := eq_true p768
                  replace q768 := eq_true q768
                  go_wp2_with (first | ((with_reducible refine gate_callee (f := 41) rfl ?_); refine goesL_ (some 138) rfl rfl Tryz.func41 (by kernel_rfl) rfl #[.string ((rdOf ByteArray.empty t735 x8_4).extract 1 (rdOf ByteArray.empty t735 x8_4).size), .string (⟨#[43]⟩ : ByteArray), .string (⟨#[37, 50, 98]⟩ : ByteArray)] rfl (by (try simp only [List.map_toArray, List.map_cons, List.map_nil]); first | done | rfl | (simp only [List.length_drop, List.length_take]; rfl)) ?_; (with_reducible refine (q_zzReplace.calls k4 ((rdOf ByteArray.empty t735 x8_4).extract 1 (rdOf ByteArray.empty t735 x8_4).size) (⟨#[43]⟩ : ByteArray) (⟨#[37, 50, 98]⟩ : ByteArray) t769 _ A57.out).mono ?_); rintro e w' ⟨rfl, ⟨nd, rfl⟩⟩; refine ⟨_, rfl, ?_⟩) | ((with_reducible refine gate_callee (f := 42) rfl ?_); refine goesL_ (some 141) rfl rfl Tryz.func42 (by kernel_rfl) rfl #[.string t769] rfl (by (try simp only [List.map_toArray, List.map_cons, List.map_nil]); first | done | rfl | (simp only [List.length_drop, List.length_take]; rfl)) ?_; (with_reducible refine (q_zzQueryUnescape.calls k4 t769 t770 t771 _ A58.out).mono ?_); rintro e w82 ⟨rfl, hb⟩; refine ⟨_, rfl, ?_⟩; replace HO_6 := aS_ (Kd.S_below (Kd.S_st HO_6.out) hb); replace HO_7 := aS_ (Kd.R_below (Kd.R_st HO_7.out) hb); replace HO_739000 := aS_ (Kd.R_below (Kd.R_st HO_739000.out) hb); replace BK738 := aS_ (blk_below (g := gb738) (o := .cells #[u739000, .int .i64 x739001_18, .int .i64 x739002_39, .int .i64 x739003_18, .int .i64 x739004_39] 67 (0, 0)) (blk_st BK738.out) hb); replace HB := aS_ (bt_ (by with_reducible repeat first | exact HB.out | apply bA_ | apply bN_ | apply bD_ | refine bS_ ?_ GE738.out) hb); (try simp only [errW_none, errW_some]); obtain ⟨hcz83_0, hcz83_1, hcz83_2, hcz83_3, hcz83_4, hfz83_0, hfz83_1, hfz83_2, hfz83_3, hfz83_4⟩ := blk5 BK738.out; obtain ⟨Ao85, co85, eo85⟩ := Kd.R_slice HO_739000.out; subst eo85) | ((with_reducible refine gate_builtin (b := .append) (xs := #[.tmp 183, .tmp 185]) rfl ?_); at_builtin; refine Kd.S_append k67 (w0 := w) w.heap.size rfl (.tmp 183) (.tmp 185) 52 67 (.agg #[(.slice none 0 0), (.int .i64 0), (.int .i64 0), (.int .i64 0), (.int .i64 0)]) 56 rfl Tryz.underlying52 info67 rfl (by decide) (by omega) u6 x6_1 (⟨x739000_4, x739001_18, x739002_39, x739003_18, x739004_39⟩ : S67) [.slice Ao85 x739000_4.length co85, .int .i64 x739001_18, .int .i64 x739002_39, .int .i64 x739003_18, .int .i64 x739004_39] (fun k_ => k_ ≠ gb738) (fun k_ => some k_ = (.slice Ao85 x739000_4.length co85 : Value).ownBlock) rfl rfl ?aP (fun k_ hk_ => ((Kd.R_mono (ok' := fun k_ => ((fun k_ => k_ ≠ gb738)) k_ ∧ some k_ ≠ (u6 : Value).ownBlock) (Kd.R_types (Kd.R_apart' (HO_739000.out) (Kd.S_typed HO_6.out) (by decide)) BK738.out (by decide)) (fun k_ hk => ⟨hk.2, hk.1.2⟩))).1 k_ hk_.symm) ?aF ?aO ?aB ?aS ?aL ?_; (case aP => exact k67_mkM _ _ _ (⟨x739000_4, x739001_18, x739002_39, x739003_18, x739004_39⟩ : S67) (Kd.R_mono (Kd.R_tight rfl (Kd.R_mono (ok' := fun k_ => ((fun k_ => k_ ≠ gb738)) k_ ∧ some k_ ≠ (u6 : Value).ownBlock) (Kd.R_types (Kd.R_apart' (HO_739000.out) (Kd.S_typed HO_6.out) (by decide)) BK738.out (by decide)) (fun k_ hk => ⟨hk.2, hk.1.2⟩))) (fun _ h_ => h_))); (case aB => exact (by with_reducible repeat first | exact HB.out | apply bA_ | apply bN_ | apply bD_ | refine bS_ ?_ GE738.out)); (case aF => exact (fun k_ hk => Kd.freshB (g := gb738) (o := .cells #[.slice Ao85 x739000_4.length co85, .int .i64 x739001_18, .int .i64 x739002_39, .int .i64 x739003_18, .int .i64 x739004_39] 67 (0, 0)) (blk_st BK738.out) k_ hk)); (case aO => exact (Kd.S_st (Kd.S_mono HO_6.out (fun k_ hk => ⟨hk.2, fun e_ => hk.1 e_⟩)))); (case aS => exact (bz_ (by with_reducible repeat first | exact HB.out | apply bA_ | apply bN_ | apply bD_ | refine bS_ ?_ GE738.out))); (case aL => have := LMc81.out; omega); intro v782 w84 ho hb hg hat; rw [← Ny781.out] at ho; replace HO_7 := aS_ (Kd.R_over' (Kd.R_st HO_7.out) (Kd.S_typed (Kd.S_st HO_6.out)) (by decide) hg); replace BK738 := aS_ (blk_grown (g := gb738) (o := .cells #[.slice Ao85 x739000_4.length co85, .int .i64 x739001_18, .int .i64 x739002_39, .int .i64 x739003_18, .int .i64 x739004_39] 67 (0, 0)) (blk_st BK738.out) hg (Kd.S_away HO_6.out (fun _ hk => hk.2))); replace HB := aS_ (hb); have HO783 := aS_ (ho); clear HO_6 HO_739000; clear ho hb hg hat))
                  go_roundg k4
                  case measure => have := HK1.out; have := HJ18.out; have := HJ39.out; have := HK4.out; omega
                  case rel => exact ⟨(y781), (x8_4), ([]), (x739001_18), (x739002_39), (x739003_18), (x739004_39), (.slice Ao85 x739000_4.length co85), (by first | rfl | simp [*]), H', ⟨by have := HK1.out; have := HJ18.out; have := HJ39.out; have := HK4.out; omega⟩, ⟨Kd.S_st (Kd.S_mono HO783.out (fun _ hk => ⟨(by simp [Value.ownBlock]), hk⟩))⟩, ⟨Kd.R_st HO_7.out⟩, ⟨Kd.R_nil _ _ _ _ _⟩, ⟨blk_st BK738.out⟩, ⟨by with_reducible repeat first | exact HB.out | apply bA_ | apply bN_ | apply bD_ | refine bS_ ?_ GE738.out⟩⟩
                 ·rw [if_neg c80] at H
                  have c80b0 := beq_eq_false_iff_ne.mpr c80
                  replace H := yes_ H; obtain ⟨c80s, H⟩ := H
                  simp only [Option.some.injEq, Prod.mk.injEq] at H
                  obtain ⟨rfl, rfl⟩ := H
                  have c80x : (9223372036854775807 < 20 + (Utf8.encode (bt (rdOf ByteArray.empty t735 x8_4) 0)).size) = False := eq_false (by omega)
                  have c80y : (9223372036854775807 < 20 + (Utf8.encode (bt (rdOf ByteArray.empty t735 x8_4) 0)).size + 6) = False := eq_false (by omega)
                  have c80z : (9223372036854775807 < 20 + (Utf8.encode (bt (rdOf ByteArray.empty t735 x8_4) 0)).size + 6 + t770.size) = False := eq_false (by omega)
                  have hcv_ : ∀ (W : World) (n : Int), (convert 5 9 (.int .u8 n)).run Tryz.prog W = .ok (.string (Utf8.encode n)) W := fun W n => run_convert_int_string W 5 9 .u8 n (by rw [Tryz.underlying5]; rfl) Tryz.underlying9
                  have p766 : 0 ≤ (x8_4 : Int) := of_decide_eq_true (by assumption)
                  have q766 : x8_4 < (t735.length : Int) := of_decide_eq_true (by assumption)
                  obtain ⟨ad766, e766, hx766_0⟩ := Kd.at_string (Kd.R_reads' HO_7.out).2.2 x8_4 p766 q766
                  obtain rfl : ad739 = ad766 := (by injection e766)
                  replace p766 := eq_true p766
                  replace q766 := eq_true q766
                  have q55 : 0 < (rdOf ByteArray.empty t735 x8_4).size := (by have : (0 : Int) < ((rdOf ByteArray.empty t735 x8_4).size : Int) := of_decide_eq_true (by assumption); omega)
                  have hx55 : ∀ h : 0 < (rdOf ByteArray.empty t735 x8_4).size, (((rdOf ByteArray.empty t735 x8_4)[0]'h).toNat : Int) = bt (rdOf ByteArray.empty t735 x8_4) 0 := bt_at (rdOf ByteArray.empty t735 x8_4) 0
                  have qi55 : (0 < ((rdOf ByteArray.empty t735 x8_4).size : Int)) = True := eq_true (of_decide_eq_true (by assumption))
                  replace q55 := eq_true q55
                  go_wp2_with (first | ((with_reducible refine gate_callee (f := 41) rfl ?_); refine goesL_ (some 138) rfl rfl Tryz.func41 (by kernel_rfl) rfl #[.string ((rdOf ByteArray.empty t735 x8_4).extract 1 (rdOf ByteArray.empty t735 x8_4).size), .string (⟨#[43]⟩ : ByteArray), .string (⟨#[37, 50, 98]⟩ : ByteArray)] rfl (by (try simp only [List.map_toArray, List.map_cons, List.map_nil]); first | done | rfl | (simp only [List.length_drop, List.length_take]; rfl)) ?_; (with_reducible refine (q_zzReplace.calls k4 ((rdOf ByteArray.empty t735 x8_4).extract 1 (rdOf ByteArray.empty t735 x8_4).size) (⟨#[43]⟩ : ByteArray) (⟨#[37, 50, 98]⟩ : ByteArray) t769 _ A57.out).mono ?_); rintro e w' ⟨rfl, ⟨nd, rfl⟩⟩; refine ⟨_, rfl, ?_⟩) | ((with_reducible refine gate_callee (f := 42) rfl ?_); refine goesL_ (some 141) rfl rfl Tryz.func42 (by kernel_rfl) rfl #[.string t769] rfl (by (try simp only [List.map_toArray, List.map_cons, List.map_nil]); first | done | rfl | (simp only [List.length_drop, List.length_take]; rfl)) ?_; (with_reducible refine (q_zzQueryUnescape.calls k4 t769 t770 t771 _ A58.out).mono ?_); rintro e w82 ⟨rfl, hb⟩; refine ⟨_, rfl, ?_⟩; replace HO_6 := aS_ (Kd.S_below (Kd.S_st HO_6.out) hb); replace HO_7 := aS_ (Kd.R_below (Kd.R_st HO_7.out) hb); replace HO_739000 := aS_ (Kd.R_below (Kd.R_st HO_739000.out) hb); replace BK738 := aS_ (blk_below (g := gb738) (o := .cells #[u739000, .int .i64 x739001_18, .int .i64 x739002_39, .int .i64 x739003_18, .int .i64 x739004_39] 67 (0, 0)) (blk_st BK738.out) hb); replace HB := aS_ (bt_ (by with_reducible repeat first | exact HB.out | apply bA_ | apply bN_ | apply bD_ | refine bS_ ?_ GE738.out) hb); (try simp only [errW_none, errW_some]); obtain ⟨hcz83_0, hcz83_1, hcz83_2, hcz83_3, hcz83_4, hfz83_0, hfz83_1, hfz83_2, hfz83_3, hfz83_4⟩ := blk5 BK738.out; obtain ⟨Ao85, co85, eo85⟩ := Kd.R_slice HO_739000.out; subst eo85) | (go_at_call 39; refine (new_err _ _).mono ?_; rintro e w92 ⟨g_, rfl, hg_, hb92_⟩))
                  go_ret2
                  exact ⟨_, _, rfl, Kd.S_mono (Kd.S_below HO_6.out hb92_) (fun _ _ => trivial), ⟨g_, rfl, hg_⟩, bt_ HB.out hb92_⟩
             ·rw [if_neg c53] at H
              have c53b0 : decide (0 < ((rdOf ByteArray.empty t735 x8_4).size : Int)) = false := decide_eq_false c53
              have c53b1 : decide (0 < (rdOf ByteArray.empty t735 x8_4).size) = false := decide_eq_false (by omega)
              clear c53
              have H' := Aside0.mk H
              clear H
              have p766 : 0 ≤ (x8_4 : Int) := of_decide_eq_true (by assumption)
              have q766 : x8_4 < (t735.length : Int) := of_decide_eq_true (by assumption)
              obtain ⟨ad766, e766, hx766_0⟩ := Kd.at_string (Kd.R_reads' HO_7.out).2.2 x8_4 p766 q766
              obtain rfl : ad739 = ad766 := (by injection e766)
              replace p766 := eq_true p766
              replace q766 := eq_true q766
              go_wp2
              go_roundg k4
              case measure => have := HK1.out; have := HJ18.out; have := HJ39.out; have := HK4.out; omega
              case rel => exact ⟨(wrap64 (x8_4 + 1)), (x739000_4), (u739000), (by first | rfl | simp [*]), H', ⟨by have := HK1.out; have := HJ18.out; have := HJ39.out; have := HK4.out; omega⟩, ⟨Kd.S_st HO_6.out⟩, ⟨Kd.R_st HO_7.out⟩, ⟨Kd.R_st HO_739000.out⟩, ⟨blk_st BK738.out⟩, ⟨by with_reducible repeat first | exact HB.out | apply bA_ | apply bN_ | apply bD_ | refine bS_ ?_ GE738.out⟩⟩
            ·rw [if_neg c51] at H
             have c51b0 := decide_eq_false c51
             clear c51
             replace H := yes_ H; obtain ⟨c86, H⟩ := H
             have LMc86 := Aside0.mk c86
             clear c86
             obtain ⟨y763, hy763⟩ : ∃ y_ : List (S67), y_ = (x6_1 ++ [(⟨x739000_4, x739001_18, x739002_39, x739003_18, x739004_39⟩ : S67)]) := ⟨_, rfl⟩
             replace H : (p_PatchFromText.l0 k4 y763 t735 x8_4) = some (r1, r2) := by first | (rw [hy763]; with_reducible exact H) | (have H2_ := (Option.bind_some _ _).symm.trans H; rw [hy763]; with_reducible exact H2_) | (have H2_ := (Option.bind_some _ _).symm.trans H; with_reducible exact H2_) | with_reducible exact H | (rw [hy763]; exact H) | exact H
             have Ny763 := Aside0.mk hy763
             clear hy763
             have H' := Aside0.mk H
             clear H
             obtain ⟨hcz87_0, hcz87_1, hcz87_2, hcz87_3, hcz87_4, hfz87_0, hfz87_1, hfz87_2, hfz87_3, hfz87_4⟩ := blk5 BK738.out
             obtain ⟨Ao89, co89, eo89⟩ := Kd.R_slice HO_739000.out
             subst eo89
             go_wp2_with (first | ((with_reducible refine gate_builtin (b := .append) (xs := #[.tmp 183, .tmp 185]) rfl ?_); at_builtin; refine Kd.S_append k67 (w0 := w) w.heap.size rfl (.tmp 183) (.tmp 185) 52 67 (.agg #[(.slice none 0 0), (.int .i64 0), (.int .i64 0), (.int .i64 0), (.int .i64 0)]) 56 rfl Tryz.underlying52 info67 rfl (by decide) (by omega) u6 x6_1 (⟨x739000_4, x739001_18, x739002_39, x739003_18, x739004_39⟩ : S67) [.slice Ao89 x739000_4.length co89, .int .i64 x739001_18, .int .i64 x739002_39, .int .i64 x739003_18, .int .i64 x739004_39] (fun k_ => k_ ≠ gb738) (fun k_ => some k_ = (.slice Ao89 x739000_4.length co89 : Value).ownBlock) rfl rfl ?aP (fun k_ hk_ => ((Kd.R_mono (ok' := fun k_ => ((fun k_ => k_ ≠ gb738)) k_ ∧ some k_ ≠ (u6 : Value).ownBlock) (Kd.R_types (Kd.R_apart' (HO_739000.out) (Kd.S_typed HO_6.out) (by decide)) BK738.out (by decide)) (fun k_ hk => ⟨hk.2, hk.1.2⟩))).1 k_ hk_.symm) ?aF ?aO ?aB ?aS ?aL ?_; (case aP => exact k67_mkM _ _ _ (⟨x739000_4, x739001_18, x739002_39, x739003_18, x739004_39⟩ : S67) (Kd.R_mono (Kd.R_tight rfl (Kd.R_mono (ok' := fun k_ => ((fun k_ => k_ ≠ gb738)) k_ ∧ some k_ ≠ (u6 : Value).ownBlock) (Kd.R_types (Kd.R_apart' (HO_739000.out) (Kd.S_typed HO_6.out) (by decide)) BK738.out (by decide)) (fun k_ hk => ⟨hk.2, hk.1.2⟩))) (fun _ h_ => h_))); (case aB => exact (by with_reducible repeat first | exact HB.out | apply bA_ | apply bN_ | apply bD_ | refine bS_ ?_ GE738.out)); (case aF => exact (fun k_ hk => Kd.freshB (g := gb738) (o := .cells #[.slice Ao89 x739000_4.length co89, .int .i64 x739001_18, .int .i64 x739002_39, .int .i64 x739003_18, .int .i64 x739004_39] 67 (0, 0)) (blk_st BK738.out) k_ hk)); (case aO => exact (Kd.S_st (Kd.S_mono HO_6.out (fun k_ hk => ⟨hk.2, fun e_ => hk.1 e_⟩)))); (case aS => exact (bz_ (by with_reducible repeat first | exact HB.out | apply bA_ | apply bN_ | apply bD_ | refine bS_ ?_ GE738.out))); (case aL => have := LMc86.out; omega); intro v764 w88 ho hb hg hat; rw [← Ny763.out] at ho; replace HO_7 := aS_ (Kd.R_over' (Kd.R_st HO_7.out) (Kd.S_typed (Kd.S_st HO_6.out)) (by decide) hg); replace BK738 := aS_ (blk_grown (g := gb738) (o := .cells #[.slice Ao89 x739000_4.length co89, .int .i64 x739001_18, .int .i64 x739002_39, .int .i64 x739003_18, .int .i64 x739004_39] 67 (0, 0)) (blk_st BK738.out) hg (Kd.S_away HO_6.out (fun _ hk => hk.2))); replace HB := aS_ (hb); have HO765 := aS_ (ho); clear HO_6 HO_739000; clear ho hb hg hat))
             go_roundg k4
             case measure => have := HK1.out; have := HJ18.out; have := HJ39.out; have := HK4.out; omega
             case rel => exact ⟨(y763), (x8_4), ([]), (x739001_18), (x739002_39), (x739003_18), (x739004_39), (.slice Ao89 x739000_4.length co89), (by first | rfl | simp [*]), H', ⟨by have := HK1.out; have := HJ18.out; have := HJ39.out; have := HK4.out; omega⟩, ⟨Kd.S_st (Kd.S_mono HO765.out (fun _ hk => ⟨(by simp [Value.ownBlock]), hk⟩))⟩, ⟨Kd.R_st HO_7.out⟩, ⟨Kd.R_nil _ _ _ _ _⟩, ⟨blk_st BK738.out⟩, ⟨by with_reducible repeat first | exact HB.out | apply bA_ | apply bN_ | apply bD_ | refine bS_ ?_ GE738.out⟩⟩
    ·rw [if_neg c11] at H
     have c11b0 := decide_eq_false c11
     clear c11
     simp only [Option.some.injEq, Prod.mk.injEq] at H
     obtain ⟨rfl, rfl⟩ := H
     obtain ⟨Ao90, co90, eo90⟩ := Kd.R_slice HO_7.out
     subst eo90
     go_wp2
     go_ret2
     exact ⟨_, _, by first | rfl | (simp [*, errW_none, errW_some] <;> rfl), Kd.S_st (Kd.S_mono HO_6.out (fun _ hk => trivial)), by exact rfl, by with_reducible repeat first | exact HB.out | apply bA_ | apply bN_ | apply bD_ | refine bS_ ?_ GE738.out⟩
def impl_back.l0 : Nat → List (S70) → List (S93) → Int → Int → Option ((List (S70)))
 | 0, _, _, _, _ => none
 | k + 1, x3, x6, x7, x8 => if x8 < x7 then (if 0 ≤ x8 then (if x8 < (x6.length : Int) then (if x3.length < 5864062014805 then (impl_back.l0 k (x3 ++ [(⟨wrap64 ((rd_T93 x6 x8).f0), (rd_T93 x6 x8).f1⟩ : S70)]) x6 x7 (wrap64 (x8 + 1))) else (none)) else (none)) else (none)) else (some x3)
def impl_back.f (k : Nat) (l0 : List (S93)) : Option ((List (S70))) := impl_back.l0 k ([] : List (S70)) l0 (l0.length : Int) 0
theorem impl_back.calls (k : Nat) (A0 : Option Addr) (c0 : Nat) (l0 : List (S93)) (r : List (S70)) (w : World) (hr0 : Kd.C k93 w A0 l0.length l0) (hc0 : l0.length ≤ c0) (h : impl_back.f k l0 = some r) :
  Calls Tryz.prog 74 #[.slice A0 l0.length c0] w fun e w' => ∃ v0_ : Value, e = .returned (v0_) ∧ Kd.R k70 70 w' w.heap.size (fun _ => True) v0_ r ∧ Below w.heap.size w w' := by
 have hu93 := Tryz.underlying93
 have hu70 := Tryz.underlying70
 have HR0 := Aside0.mk hr0
 have HC0 := Aside0.mk hc0
 clear hr0 hc0
 have HB := aS_ (Below.refl w.heap.size w)
 have H : (impl_back.l0 k ([] : List (S70)) l0 (l0.length : Int) 0) = some r := h
 clear h
 have H' := Aside0.mk H
 clear H
 go_enter Tryz.func74, Tryz.ntmps74
 go_wp2
 go_loopg [3, 8] k (fun kq v3 v8 w' => ∃ (x3_1 : List (S70)) (x8_1 : Int), v8 = .int .i64 x8_1 ∧ Aside0 (impl_back.l0 kq x3_1 l0 (l0.length : Int) x8_1 = some r) ∧ Aside0 (kq ≤ k) ∧ Aside0 (Kd.R k70 70 w' w.heap.size (fun _ => True) v3 x3_1) ∧ Aside0 (Below w.heap.size w w'))
 case atStart => exact ⟨(([] : List (S70))), (0), (by first | rfl | simp [*]), H', ⟨Nat.le_refl _⟩, ⟨by first | exact Kd.R_nil _ _ _ _ _ | exact Kd.S_nil _ _ _ _ _⟩, ⟨bel_ HB.out⟩⟩
 case round =>
  clear H'
  obtain ⟨x3_1, x8_1, rfl, HA, HK1, HO_3, HB⟩ := hrel
  cases gk with
  | zero => exact absurd HA.out (by simp [impl_back.l0])
  | succ k1 =>
   have H := HA.out; clear HA
   simp only [impl_back.l0] at H
   by_cases c2 : x8_1 < (l0.length : Int)
   ·rw [if_pos c2] at H
    have c2b0 := decide_eq_true c2
    clear c2
    replace H := yes_ H; obtain ⟨c3, H⟩ := H
    have c3b0 := decide_eq_true c3
    clear c3
    replace H := yes_ H; obtain ⟨c4, H⟩ := H
    have c4b0 := decide_eq_true c4
    clear c4
    replace H := yes_ H; obtain ⟨c5, H⟩ := H
    have LMc5 := Aside0.mk c5
    clear c5
    obtain ⟨y786, hy786⟩ : ∃ y_ : List (S70), y_ = (x3_1 ++ [(⟨wrap64 ((rd_T93 l0 x8_1).f0), (rd_T93 l0 x8_1).f1⟩ : S70)]) := ⟨_, rfl⟩
    replace H : (impl_back.l0 k1 y786 l0 (l0.length : Int) (wrap64 (x8_1 + 1))) = some r := by first | (rw [hy786]; with_reducible exact H) | (have H2_ := (Option.bind_some _ _).symm.trans H; rw [hy786]; with_reducible exact H2_) | (have H2_ := (Option.bind_some _ _).symm.trans H; with_reducible exact H2_) | with_reducible exact H | (rw [hy786]; exact H) | exact H
    have Ny786 := Aside0.mk hy786
    clear hy786
    have H' := Aside0.mk H
    clear H
    have p784 : 0 ≤ (x8_1 : Int) := of_decide_eq_true (by assumption)
    have q784 : x8_1 < (l0.length : Int) := of_decide_eq_true (by assumption)
    obtain ⟨ad784, e784, hx784_0, hx784_1⟩ := at_T93 HR0.out x8_1 p784 q784
    cases e784
    replace hx784_0 := (HB.out.cell (World.block_lt_of_cell? w _ hx784_0)).trans hx784_0
    replace hx784_1 := (HB.out.cell (World.block_lt_of_cell? w _ hx784_1)).trans hx784_1
    replace p784 := eq_true p784
    replace q784 := eq_true q784
    go_wp2_with (first | ((with_reducible refine gate_dst (N := 5) rfl ?_); refine box_event ?hg (N := 5) ?hd (cs := #[.int .i8 0, .string (⟨#[]⟩ : ByteArray)]) (t := 93) ?hr ?_; (case hd => rfl); (case hg => rfl); (case hr => first | (go_simp; done) | (go_simp; rfl)); intro gb785 hg w6 hbox hb; replace HO_3 := aS_ (Kd.R_below (Kd.R_st HO_3.out) hb); have BK785 := aS_ (hbox); have GW785 := aS_ ((by rw [hg]; exact (bz_ (bel_ HB.out)) : w.heap.size ≤ gb785)); have GE785 := aS_ ((by rw [hg]; exact (bz_ (bel_ HB.out)) : w.heap.size ≤ gb785)); replace HB := aS_ (bt_ (bel_ HB.out) hb); clear hb hbox hg; obtain ⟨hcz7_0, hcz7_1, hfz7_0, hfz7_1⟩ := blk2 BK785.out) | ((with_reducible refine gate_builtin (b := .append) (xs := #[.tmp 12, .tmp 19]) rfl ?_); at_builtin; refine Kd.R_append k70 (w0 := w) w.heap.size rfl (.tmp 12) (.tmp 19) 31 70 (.agg #[(.int .i64 0), (.string ⟨#[]⟩)]) 24 rfl Tryz.underlying31 info70 rfl (by decide) (by omega) u3 x3_1 (⟨wrap64 ((rd_T93 l0 x8_1).f0), (rd_T93 l0 x8_1).f1⟩ : S70) [.int .i64 (wrap64 ((rd_T93 l0 x8_1).f0)), .string ((rd_T93 l0 x8_1).f1)] (fun _ => True) (fun _ => False) rfl (by first | (go_simp; done) | (go_simp; rfl)) ?aP (fun _ hk => hk.elim) ?aF ?aO ?aB ?aS ?aL ?_; (case aP => exact k70_mkM _ _ _ (⟨wrap64 ((rd_T93 l0 x8_1).f0), (rd_T93 l0 x8_1).f1⟩ : S70)); (case aB => exact (by with_reducible repeat first | exact HB.out | apply bA_ | apply bN_ | apply bD_ | refine bS_ ?_ GE785.out)); (case aF => exact (fun _ _ => trivial)); (case aO => exact (Kd.R_st (Kd.R_mono (Kd.R_far (p := ⟨gb785, 1, none⟩) (Kd.R_far (p := ⟨gb785, 0, none⟩) (Kd.R_types HO_3.out BK785.out (by decide)) (fun _ hk => hk.2) (.int .i8 ((rd_T93 l0 x8_1).f0))) (fun _ hk => hk.2) (.string ((rd_T93 l0 x8_1).f1))) (fun _ hk => trivial)))); (case aS => exact (bz_ (by with_reducible repeat first | exact HB.out | apply bA_ | apply bN_ | apply bD_ | refine bS_ ?_ GE785.out))); (case aL => have := LMc5.out; omega); intro v787 w8 ho hb hg hat; rw [← Ny786.out] at ho; replace BK785 := aS_ (blk_grown (g := gb785) (o := .cells #[.int .i8 ((rd_T93 l0 x8_1).f0), .string ((rd_T93 l0 x8_1).f1)] 93 (0, 0)) (by (with_reducible repeat (first | refine kN_ ?_ _ | refine kD_ ?_ | refine kA_ ?_ _)); refine blk_put (cs := #[.int .i8 ((rd_T93 l0 x8_1).f0), .string (⟨#[]⟩ : ByteArray)]) ?_ 1 _ rfl; (with_reducible repeat (first | refine kN_ ?_ _ | refine kD_ ?_ | refine kA_ ?_ _)); refine blk_put (cs := #[.int .i8 0, .string (⟨#[]⟩ : ByteArray)]) ?_ 0 _ rfl; (with_reducible repeat (first | refine kN_ ?_ _ | refine kD_ ?_ | refine kA_ ?_ _)); exact BK785.out) hg (Kd.R_ne HO_3.out BK785.out (by decide))); replace HB := aS_ (hb); have HO788 := aS_ (ho); clear HO_3; clear ho hb hg hat))
    go_roundg k1
    case measure => have := HK1.out; omega
    case rel => exact ⟨(y786), (wrap64 (x8_1 + 1)), (by first | rfl | simp [*]), H', ⟨by have := HK1.out; omega⟩, ⟨Kd.R_st HO788.out⟩, ⟨by with_reducible repeat first | exact HB.out | apply bA_ | apply bN_ | apply bD_ | refine bS_ ?_ GE785.out⟩⟩
   ·rw [if_neg c2] at H
    have c2b0 := decide_eq_false c2
    clear c2
    obtain rfl := Option.some.inj H
    go_wp2
    go_ret
    exact ⟨_, by first | rfl | (simp [*, errW_none, errW_some] <;> rfl), Kd.R_st HO_3.out, bel_ HB.out⟩
theorem enc1 : Utf8.encode 1 = ⟨#[1]⟩ := by rfl
theorem enc2 : Utf8.encode 2 = ⟨#[2]⟩ := by rfl
theorem enc3 : Utf8.encode 3 = ⟨#[3]⟩ := by rfl
theorem enc4 : Utf8.encode 4 = ⟨#[4]⟩ := by rfl
theorem wp_at {P : Program} {c : Code} {Q : Exit → Act → World → Prop} {a : Act} {W : World} (Φ : World → Prop) (h : Φ W) (k : ∀ W', Φ W' → Code.wp P c Q a W') : Code.wp P c Q a W := k W h
theorem cell_of {w : World} {g t i : Nat} {cs : Array Value} {v : Value} (h : w.heap[g]? = some (.cells cs t (0, 0))) (e : cs[i]? = some v) : w.cell? ⟨g, i, none⟩ = some v := (bc_ h i).trans e
theorem set_same {cs : Array Value} {i : Nat} {u v : Value} (h : cs[i]? = some v) : (cs.setIfInBounds i u)[i]? = some u := by
 have hi : i < cs.size := (Array.getElem?_eq_some_iff.1 h).1
 simp [hi]
theorem set_other {cs : Array Value} {i j : Nat} {u v : Value} (hij : i ≠ j) (h : cs[j]? = some v) : (cs.setIfInBounds i u)[j]? = some v := by
 rw [Array.getElem?_setIfInBounds_ne hij]; exact h
def padC1 (C1 : Array Value) : Array Value := ((((((((C1.setIfInBounds 1 (.int .i64 4)).setIfInBounds 2 (.int .i64 4)).setIfInBounds 1 (.int .i64 2)).setIfInBounds 2 (.int .i64 2)).setIfInBounds 3 (.int .i64 5)).setIfInBounds 4 (.int .i64 6)).setIfInBounds 3 (.int .i64 8)).setIfInBounds 4 (.int .i64 9))
def padC2 (C2 : Array Value) : Array Value := (C2.setIfInBounds 1 (.string (((⟨#[]⟩ : ByteArray) ++ ⟨#[1]⟩ ++ ⟨#[2]⟩ ++ ⟨#[3]⟩ ++ ⟨#[4]⟩).extract 2 4 ++ ⟨#[97, 98]⟩))).setIfInBounds 5 (.string (⟨#[99]⟩ ++ ((⟨#[]⟩ : ByteArray) ++ ⟨#[1]⟩ ++ ⟨#[2]⟩ ++ ⟨#[3]⟩ ++ ⟨#[4]⟩).extract 0 3))
def pad.T21 : Bool × List (List Nat × List Nat) := (true, [([], []), ([0], [0]), ([1], [1]), ([2], [2]), ([], []), ([], []), ([5], [5]), ([6], [6]), ([7], [7]), ([8], [8]), ([9], [9]), ([10], [10]), ([11], [11]), ([4, 12], [4, 12]), ([], []), ([14], [14]), ([15], [15]), ([16], [16]), ([17], [17]), ([18], [18]), ([19], [19]), ([13, 20], [13, 20]), ([3, 0, 1, 2, 3, 4, 5, 6, 7, 8, 9, 10, 11, 12, 13, 14, 15, 16, 17, 18, 19, 20, 21], [3]), ([22, 0, 1, 2, 3, 4, 5, 6, 7, 8, 9, 10, 11, 12, 13, 14, 15, 16, 17, 18, 19, 20, 21], [22]), ([23, 21, 0, 1, 2, 3, 4, 5, 6, 7, 8, 9, 10, 11, 12, 13, 14, 15, 16, 17, 18, 19, 20, 21], [21, 23])])
def pad.B21 : List Nat := [0, 1, 3, 7, 0, 0, 32, 96, 224, 480, 992, 2016, 4064, 8176, 0, 16384, 49152, 114688, 245760, 507904, 1032192, 2097136, 4194303, 8388607, 16777215]
theorem pad.tab21 : rtab .any (opsOf Tryz.f55 21) = pad.T21 := by kernel_rfl
theorem pad.bits21 : waitsOk pad.T21.2 pad.B21 = true := by kernel_rfl
def pad.T32 : Bool × List (List Nat × List Nat) := (true, [([], []), ([], []), ([0, 1], [0, 1]), ([2], [2]), ([3], [3]), ([], []), ([], []), ([5, 6], [5, 6]), ([7], [7]), ([8], [8]), ([9], [9]), ([10], [10]), ([4, 11], [4, 11]), ([12], [12]), ([], []), ([14, 13, 0, 1, 2, 3, 4, 5, 6, 7, 8, 9, 10, 11, 12, 13, 14], [13, 14])])
def pad.B32 : List Nat := [0, 0, 3, 7, 15, 0, 0, 96, 224, 480, 992, 2016, 4095, 8191, 0, 32767]
theorem pad.tab32 : rtab .any (opsOf Tryz.f55 32) = pad.T32 := by kernel_rfl
theorem pad.bits32 : waitsOk pad.T32.2 pad.B32 = true := by kernel_rfl
def pad.T34 : Bool × List (List Nat × List Nat) := (true, [([], []), ([], []), ([0, 1], [0, 1]), ([2], [2]), ([3], [3]), ([], []), ([], []), ([5, 6], [5, 6]), ([7], [7]), ([8], [8]), ([9], [9]), ([10], [10]), ([4, 11], [4, 11]), ([12], [12]), ([13], [13]), ([], []), ([], []), ([15, 16], [15, 16]), ([14, 17], [14, 17]), ([4, 11, 0, 1, 2, 3, 4, 5, 6, 7, 8, 9, 10, 11, 12, 13, 14, 15, 16, 17, 18], [4, 11]), ([19, 0, 1, 2, 3, 4, 5, 6, 7, 8, 9, 10, 11, 12, 13, 14, 15, 16, 17, 18], [19]), ([20, 18, 0, 1, 2, 3, 4, 5, 6, 7, 8, 9, 10, 11, 12, 13, 14, 15, 16, 17, 18], [18, 20])])
def pad.B34 : List Nat := [0, 0, 3, 7, 15, 0, 0, 96, 224, 480, 992, 2016, 4095, 8191, 16383, 0, 0, 98304, 262143, 524287, 1048575, 2097151]
theorem pad.tab34 : rtab .any (opsOf Tryz.f55 34) = pad.T34 := by kernel_rfl
theorem pad.bits34 : waitsOk pad.T34.2 pad.B34 = true := by kernel_rfl
theorem pad_calls (a0 g1 g2 c1 c2 : Nat) (C1 C2 : Array Value) (w : World) (hd0 : DmpAt w a0)
  (B1 : w.heap[g1]? = some (.cells C1 67 (0, 0)))
  (B2 : w.heap[g2]? = some (.cells C2 93 (0, 0)))
  (e0 : C1[0]? = some (.slice (some ⟨g2, 0, none⟩) 3 c2)) (e1 : C1[1]? = some (.int .i64 0)) (e2 : C1[2]? = some (.int .i64 0)) (e3 : C1[3]? = some (.int .i64 3)) (e4 : C1[4]? = some (.int .i64 4))
  (d0 : C2[0]? = some (.int .i8 0)) (d1 : C2[1]? = some (.string ⟨#[97, 98]⟩)) (d4 : C2[4]? = some (.int .i8 0)) (d5 : C2[5]? = some (.string ⟨#[99]⟩)) :
  Calls Tryz.prog 55 #[.pointer (some ⟨a0, 0, none⟩), .slice (some ⟨g1, 0, none⟩) 1 c1] w fun e w' => e = .returned (.string ⟨#[1, 2, 3, 4]⟩) ∧ w'.heap[g1]? = some (.cells (padC1 C1) 67 (0, 0)) ∧ w'.heap[g2]? = some (.cells (padC2 C2) 93 (0, 0)) ∧ (∀ B w0, Below B w0 w → B ≤ g1 → B ≤ g2 → Below B w0 w') := by
 have hu93 := Tryz.underlying93
 have HD0 := Aside0.mk hd0
 clear hd0
 have hdm3 := dmp_cell4 HD0.out
 have hc0 := cell_of B1 e0
 have hc1 := cell_of B1 e1
 have hc2 := cell_of B1 e2
 have hc3 := cell_of B1 e3
 have hc4 := cell_of B1 e4
 have hf1 := bf_ B1 1
 have hf2 := bf_ B1 2
 have hf3 := bf_ B1 3
 have hf4 := bf_ B1 4
 have hd0 := cell_of B2 d0
 have hd1 := cell_of B2 d1
 have hd4 := cell_of B2 d4
 have hd5 := cell_of B2 d5
 have hg1 := bf_ B2 1
 have hg5 := bf_ B2 5
 have u1 := enc1
 have u2 := enc2
 have u3 := enc3
 have u4 := enc4
 have hne : g1 ≠ g2 := blk_ne B1 B2 (by decide)
 have hne2 : g2 ≠ g1 := hne.symm
 have B1' := Aside0.mk B1
 have B2' := Aside0.mk B2
 have E0 := Aside0.mk e0
 have E1 := Aside0.mk e1
 have E2 := Aside0.mk e2
 have E3 := Aside0.mk e3
 have E4 := Aside0.mk e4
 have D0 := Aside0.mk d0
 have D1 := Aside0.mk d1
 have D4 := Aside0.mk d4
 have D5 := Aside0.mk d5
 clear B1 B2 e0 e1 e2 e3 e4 d0 d1 d4 d5
 go_enter Tryz.func55, Tryz.ntmps55
 go_wp2
 go_rounds 5
 go_rounds 2
 refine sA_ (fun w' => w'.cell? ⟨g1, 0, none⟩ = some (.slice (some ⟨g2, 0, none⟩) 3 c2) ∧ w'.cell? ⟨g2, 1, none⟩ = some (.string ⟨#[97, 98]⟩)) [24] pad.tab21 pad.bits21 ⟨(by go_cell), (by go_cell)⟩ (fun hHeld HT_ HW_ => ?_)
 refine pA_ 0 (h:=pA_ 1 (h:=pA_ 2 (h:=pA_ 4 (h:=pA_ 5 (h:=pA_ 6 (h:=pA_ 7 (h:=pA_ 14 (h:=pA_ 15 (h:=pA_ 16 (h:=tA_ 3 (h:=tA_ 8 (h:=pA_ 9 (h:=pA_ 10 (h:=tA_ 11 (h:=pA_ 12 (h:=pA_ 13 (h:=tA_ 17 (h:=pA_ 18 (h:=pA_ 19 (h:=tA_ 20 (h:=pA_ 21 (h:=pA_ 22 (h:=pA_ 23 (h:=?_))))))))))))))))))))))))
 refine lA_ 24 none (h:=fun K hK => ?_)
 refine skip_ (w1 := ?_) (by rfl) rfl ?_ ?_
 rotate_left
 ·go_simp
  rfl
 refine hK.out _ _ ?_
 clear hK K
 refine done_ (done_of HT_.out (by kernel_rfl)) ?_
 go_wp2
 refine wp_at (fun W => W.heap[g1]? = some (.cells (((((((C1.setIfInBounds 1 (.int .i64 4)).setIfInBounds 2 (.int .i64 4)).setIfInBounds 1 (.int .i64 2)).setIfInBounds 2 (.int .i64 2)).setIfInBounds 3 (.int .i64 5)).setIfInBounds 4 (.int .i64 6))) 67 (0, 0)) ∧ W.heap[g2]? = some (.cells (C2.setIfInBounds 1 (.string (((⟨#[]⟩ : ByteArray) ++ ⟨#[1]⟩ ++ ⟨#[2]⟩ ++ ⟨#[3]⟩ ++ ⟨#[4]⟩).extract 2 4 ++ ⟨#[97, 98]⟩))) 93 (0, 0)) ∧ (∀ B w0, Below B w0 w → B ≤ g1 → B ≤ g2 → Below B w0 W)) ⟨kD_ (blk_set (blk_set (blk_set (blk_set (blk_far (blk_set (blk_set B1'.out 1 _) 2 _) hne _) 1 _) 2 _) 3 _) 4 _), kD_ (blk_far (blk_far (blk_far (blk_far (blk_set (blk_far (blk_far B2'.out hne2 _) hne2 _) 1 _) hne2 _) hne2 _) hne2 _) hne2 _), fun B w0 h0 h1 h2 => below_drew (Below.setCell (Below.setCell (Below.setCell (Below.setCell (Below.setCell (Below.setCell (Below.setCell h0 h1 _) h1 _) h2 _) h1 _) h1 _) h1 _) h1 _)⟩ ?_
 clear hc0 hc1 hc2 hc3 hc4 hf1 hf2 hf3 hf4 hd0 hd1 hd4 hd5 hg1 hg5
 intro W
 rintro ⟨T1, T2, T3⟩
 have hc0 := cell_of T1 (i := 0) (set_other (by decide) (set_other (by decide) (set_other (by decide) (set_other (by decide) (set_other (by decide) (set_other (by decide) E0.out))))))
 have hc3 := cell_of T1 (i := 3) (set_other (by decide) (set_same (set_other (by decide) (set_other (by decide) (set_other (by decide) (set_other (by decide) E3.out))))))
 have hc4 := cell_of T1 (i := 4) (set_same (set_other (by decide) (set_other (by decide) (set_other (by decide) (set_other (by decide) (set_other (by decide) E4.out))))))
 have hd4 := cell_of T2 (i := 4) (set_other (by decide) D4.out)
 have hd5 := cell_of T2 (i := 5) (set_other (by decide) D5.out)
 have hf3 := bf_ T1 3
 have hf4 := bf_ T1 4
 have hg5 := bf_ T2 5
 have hw2 : wrap64 2 = 2 := by simp [wrap64]
 have hl1 := blk_lt T1
 have hl2 := blk_lt T2
 have hs1 : g1 ≠ W.heap.size := Nat.ne_of_lt hl1
 have hs2 : g2 ≠ W.heap.size := Nat.ne_of_lt hl2
 have hs3 : W.heap.size ≠ g1 := Ne.symm hs1
 have hs4 : W.heap.size ≠ g2 := Ne.symm hs2
 have T1' := Aside0.mk T1
 have T2' := Aside0.mk T2
 have T3' := Aside0.mk T3
 clear T1 T2 T3
 go_quiet (fail)
 go_wp2
 go_quiet (fail)
 go_wp2
 refine wp_at (fun W => W.heap[g1]? = some (.cells (((((((C1.setIfInBounds 1 (.int .i64 4)).setIfInBounds 2 (.int .i64 4)).setIfInBounds 1 (.int .i64 2)).setIfInBounds 2 (.int .i64 2)).setIfInBounds 3 (.int .i64 5)).setIfInBounds 4 (.int .i64 6))) 67 (0, 0)) ∧ W.heap[g2]? = some (.cells (C2.setIfInBounds 1 (.string (((⟨#[]⟩ : ByteArray) ++ ⟨#[1]⟩ ++ ⟨#[2]⟩ ++ ⟨#[3]⟩ ++ ⟨#[4]⟩).extract 2 4 ++ ⟨#[97, 98]⟩))) 93 (0, 0)) ∧ (∀ B w0, Below B w0 w → B ≤ g1 → B ≤ g2 → Below B w0 W)) ⟨kN_ (kN_ T1'.out _) _, kN_ (kN_ T2'.out _) _, fun B w0 h0 h1 h2 => bN_ (bN_ (T3'.out B w0 h0 h1 h2) _) _⟩ ?_
 clear hc0 hc3 hc4 hd4 hd5 hf3 hf4 hg5 hl1 hl2 hs1 hs2 hs3 hs4 T1' T2' T3' W
 intro W0
 rintro ⟨T1, T2, T3⟩
 have T1 := kD_ T1
 have T2 := kD_ T2
 have T3 : ∀ B w0, Below B w0 w → B ≤ g1 → B ≤ g2 → Below B w0 W0.drew := fun B w0 h0 h1 h2 => below_drew (T3 B w0 h0 h1 h2)
 have hc0 := cell_of T1 (i := 0) (set_other (by decide) (set_other (by decide) (set_other (by decide) (set_other (by decide) (set_other (by decide) (set_other (by decide) E0.out))))))
 have hc3 := cell_of T1 (i := 3) (set_other (by decide) (set_same (set_other (by decide) (set_other (by decide) (set_other (by decide) (set_other (by decide) E3.out))))))
 have hc4 := cell_of T1 (i := 4) (set_same (set_other (by decide) (set_other (by decide) (set_other (by decide) (set_other (by decide) (set_other (by decide) E4.out))))))
 have hd4 := cell_of T2 (i := 4) (set_other (by decide) D4.out)
 have hd5 := cell_of T2 (i := 5) (set_other (by decide) D5.out)
 have hf3 := bf_ T1 3
 have hf4 := bf_ T1 4
 have hg5 := bf_ T2 5
 have hl1 := blk_lt T1
 have hl2 := blk_lt T2
 have hs1 : g1 ≠ W0.drew.heap.size := Nat.ne_of_lt hl1
 have hs2 : g2 ≠ W0.drew.heap.size := Nat.ne_of_lt hl2
 have hs3 : W0.drew.heap.size ≠ g1 := Ne.symm hs1
 have hs4 : W0.drew.heap.size ≠ g2 := Ne.symm hs2
 have T1' := Aside0.mk T1
 have T2' := Aside0.mk T2
 have T3' := Aside0.mk T3
 clear T1 T2 T3
 refine sA_ (fun w' => w'.cell? ⟨g1, 0, none⟩ = some (.slice (some ⟨g2, 0, none⟩) 3 c2) ∧ w'.cell? ⟨g2, 4, none⟩ = some (.int .i8 0) ∧ w'.cell? ⟨g2, 5, none⟩ = some (.string ⟨#[99]⟩)) [15] pad.tab32 pad.bits32 ⟨(by go_cell), (by go_cell), (by go_cell)⟩ (fun hHeld HT_ HW_ => ?_)
 generalize W0.drew = W at hc0 hc3 hc4 hd4 hd5 hf3 hf4 hg5 hl1 hl2 hs1 hs2 hs3 hs4 T1' T2' T3' hHeld ⊢
 refine pA_ 0 (h:=pA_ 1 (h:=pA_ 2 (h:=pA_ 3 (h:=pA_ 5 (h:=pA_ 6 (h:=pA_ 7 (h:=pA_ 8 (h:=tA_ 4 (h:=tA_ 9 (h:=pA_ 10 (h:=pA_ 11 (h:=pA_ 12 (h:=tA_ 13 (h:=?_))))))))))))))
 refine oA_ 14 (some 11) (h:=fun K hK => ?_)
 refine value_ (w1 := ?_) (v := ?_) (by rfl) rfl ?_ ?_
 rotate_left 2
 ·go_simp
  constructor
  ·rfl
  ·rfl
 refine hK.out _ _ ⟨(World.cell?_alloc_lt _ _ _ (World.block_lt_of_cell? _ _ (hHeld.1))).trans (hHeld.1), (World.cell?_alloc_lt _ _ _ (World.block_lt_of_cell? _ _ (hHeld.2.1))).trans (hHeld.2.1), (World.cell?_alloc_lt _ _ _ (World.block_lt_of_cell? _ _ (hHeld.2.2))).trans (hHeld.2.2)⟩ (fun hHeld => ?_)
 clear hK K
 refine nA_ (h:=?_)
 refine lA_ 15 none (h:=fun K hK => ?_)
 refine skip_ (w1 := ?_) (by rfl) rfl ?_ ?_
 rotate_left
 ·go_simp
  rfl
 refine hK.out _ _ ?_
 clear hK K
 refine done_ (done_of HT_.out (by kernel_rfl)) ?_
 go_wp2
 refine wp_at (fun W => W.heap[g1]? = some (.cells (((((((C1.setIfInBounds 1 (.int .i64 4)).setIfInBounds 2 (.int .i64 4)).setIfInBounds 1 (.int .i64 2)).setIfInBounds 2 (.int .i64 2)).setIfInBounds 3 (.int .i64 5)).setIfInBounds 4 (.int .i64 6))) 67 (0, 0)) ∧ W.heap[g2]? = some (.cells (C2.setIfInBounds 1 (.string (((⟨#[]⟩ : ByteArray) ++ ⟨#[1]⟩ ++ ⟨#[2]⟩ ++ ⟨#[3]⟩ ++ ⟨#[4]⟩).extract 2 4 ++ ⟨#[97, 98]⟩))) 93 (0, 0)) ∧ (∀ B w0, Below B w0 w → B ≤ g1 → B ≤ g2 → Below B w0 W)) ⟨kA_ T1'.out _, kA_ T2'.out _, fun B w0 h0 h1 h2 => Below.alloc (T3'.out B w0 h0 h1 h2) (Nat.le_trans h1 (Nat.le_of_lt (blk_lt T1'.out))) _⟩ ?_
 clear hc0 hc3 hc4 hd4 hd5 hf3 hf4 hg5 hl1 hl2 hs1 hs2 hs3 hs4 T1' T2' T3'
 intro W0
 rintro ⟨T1, T2, T3⟩
 have T1 := kD_ T1
 have T2 := kD_ T2
 have T3 : ∀ B w0, Below B w0 w → B ≤ g1 → B ≤ g2 → Below B w0 W0.drew := fun B w0 h0 h1 h2 => below_drew (T3 B w0 h0 h1 h2)
 have hc0 := cell_of T1 (i := 0) (set_other (by decide) (set_other (by decide) (set_other (by decide) (set_other (by decide) (set_other (by decide) (set_other (by decide) E0.out))))))
 have hc3 := cell_of T1 (i := 3) (set_other (by decide) (set_same (set_other (by decide) (set_other (by decide) (set_other (by decide) (set_other (by decide) E3.out))))))
 have hc4 := cell_of T1 (i := 4) (set_same (set_other (by decide) (set_other (by decide) (set_other (by decide) (set_other (by decide) (set_other (by decide) E4.out))))))
 have hd4 := cell_of T2 (i := 4) (set_other (by decide) D4.out)
 have hd5 := cell_of T2 (i := 5) (set_other (by decide) D5.out)
 have hf3 := bf_ T1 3
 have hf4 := bf_ T1 4
 have hg5 := bf_ T2 5
 have hl1 := blk_lt T1
 have hl2 := blk_lt T2
 have hs1 : g1 ≠ W0.drew.heap.size := Nat.ne_of_lt hl1
 have hs2 : g2 ≠ W0.drew.heap.size := Nat.ne_of_lt hl2
 have hs3 : W0.drew.heap.size ≠ g1 := Ne.symm hs1
 have hs4 : W0.drew.heap.size ≠ g2 := Ne.symm hs2
 have T1' := Aside0.mk T1
 have T2' := Aside0.mk T2
 have T3' := Aside0.mk T3
 clear T1 T2 T3
 refine sA_ (fun w' => w'.cell? ⟨g1, 0, none⟩ = some (.slice (some ⟨g2, 0, none⟩) 3 c2) ∧ w'.cell? ⟨g2, 5, none⟩ = some (.string ⟨#[99]⟩)) [21] pad.tab34 pad.bits34 ⟨(by go_cell), (by go_cell)⟩ (fun hHeld HT_ HW_ => ?_)
 generalize W0.drew = W at hc0 hc3 hc4 hd4 hd5 hf3 hf4 hg5 hl1 hl2 hs1 hs2 hs3 hs4 T1' T2' T3' hHeld ⊢
 refine pA_ 0 (h:=pA_ 1 (h:=pA_ 2 (h:=pA_ 3 (h:=pA_ 5 (h:=pA_ 6 (h:=pA_ 7 (h:=pA_ 8 (h:=pA_ 15 (h:=pA_ 16 (h:=pA_ 17 (h:=tA_ 4 (h:=tA_ 9 (h:=pA_ 10 (h:=pA_ 11 (h:=pA_ 12 (h:=pA_ 13 (h:=tA_ 14 (h:=pA_ 18 (h:=pA_ 19 (h:=pA_ 20 (h:=?_)))))))))))))))))))))
 refine lA_ 21 none (h:=fun K hK => ?_)
 refine skip_ (w1 := ?_) (by rfl) rfl ?_ ?_
 rotate_left
 ·go_simp
  rfl
 refine hK.out _ _ ?_
 clear hK K
 refine done_ (done_of HT_.out (by kernel_rfl)) ?_
 go_wp2
 go_ret
 exact ⟨by rfl, blk_set (blk_set (blk_far T1'.out hne _) 3 _) 4 _, blk_far (blk_far (blk_set T2'.out 5 _) hne2 _) hne2 _, fun B w0 h0 h1 h2 => Below.setCell (Below.setCell (Below.setCell (T3'.out B w0 h0 h1 h2) h2 _) h1 _) h1 _⟩
def bpr.T1 : Bool × List (List Nat × List Nat) := (true, [([], []), ([0], [0]), ([], []), ([2], [2]), ([], []), ([4], [4]), ([], []), ([6], [6]), ([], []), ([8], [8]), ([9, 9], [9]), ([1, 3, 5, 7, 10], [1, 3, 5, 7, 10]), ([11, 10, 0, 1, 2, 3, 4, 5, 6, 7, 8, 9, 10, 11], [11])])
def bpr.B1 : List Nat := [0, 1, 0, 4, 0, 16, 0, 64, 0, 256, 768, 2047, 4095]
theorem bpr.tab1 : rtab .any (opsOf Tryz.f43 1) = bpr.T1 := by kernel_rfl
theorem bpr.bits1 : waitsOk bpr.T1.2 bpr.B1 = true := by kernel_rfl
theorem diffsOf_r (v : Value) (a1 a2 a3 a4 : Int) (w : World) : Calls Tryz.prog 75 #[.agg #[v, .int .i64 a1, .int .i64 a2, .int .i64 a3, .int .i64 a4]] w fun e w' => e = .returned v ∧ Below w.heap.size w w' := by
 have hu := Tryz.underlying67
 go_enter Tryz.func75, Tryz.ntmps75
 go_wp2
 go_ret
 exact ⟨rfl, Below.alloc (Below.refl _ _) (Nat.le_refl _) _⟩
theorem backPatch_r (k : Nat) (A : Option Addr) (c : Nat) (l : List S93) (a1 a2 a3 a4 : Int) (r : List S70) (w : World) (hr : Kd.C k93 w A l.length l) (hc : l.length ≤ c) (h : impl_back.f k l = some r) :
  Calls Tryz.prog 43 #[.agg #[.slice A l.length c, .int .i64 a1, .int .i64 a2, .int .i64 a3, .int .i64 a4]] w fun e w' => ∃ v4_ : Value, e = .returned (.agg #[.int .i64 a1, .int .i64 a2, .int .i64 a3, .int .i64 a4, v4_]) ∧ Kd.R k70 70 w' w.heap.size (fun _ => True) v4_ r ∧ Below w.heap.size w w' := by
 have hu := Tryz.underlying67
 have hu33 := Tryz.underlying33
 have HR := Aside0.mk hr
 clear hr
 go_enter Tryz.func43, Tryz.ntmps43
 go_wp2
 refine wp_at (fun W => W.heap[w.heap.size]? = some (.cells #[.slice A l.length c, .int .i64 a1, .int .i64 a2, .int .i64 a3, .int .i64 a4] 67 (0, 0)) ∧ W.heap[w.heap.size + 1]? = some (.cells #[.int .i64 0, .int .i64 0, .int .i64 0, .int .i64 0, .slice none 0 0] 33 (0, 0)) ∧ Below w.heap.size w W) ⟨kA_ (heap_alloc_new w _) _, by (have h_ := heap_alloc_new (w.alloc (.cells #[.slice A l.length c, .int .i64 a1, .int .i64 a2, .int .i64 a3, .int .i64 a4] 67)) (.cells #[.int .i64 0, .int .i64 0, .int .i64 0, .int .i64 0, .slice none 0 0] 33); rw [World.size_alloc] at h_; exact h_), Below.alloc (Below.alloc (Below.refl _ _) (Nat.le_refl _) _) (by simp) _⟩ ?_
 intro W0
 rintro ⟨T1, T2, T3⟩
 have T1 := kD_ T1
 have T2 := kD_ T2
 have T3 := below_drew T3
 have hc0 := cell_of T1 (i := 0) rfl
 have hc1 := cell_of T1 (i := 1) rfl
 have hc2 := cell_of T1 (i := 2) rfl
 have hc3 := cell_of T1 (i := 3) rfl
 have hc4 := cell_of T1 (i := 4) rfl
 have T1' := Aside0.mk T1
 have T2' := Aside0.mk T2
 have T3' := Aside0.mk T3
 clear T1 T2 T3
 refine sA_ (fun w' => w'.cell? ⟨w.heap.size, 0, none⟩ = some (.slice A l.length c) ∧ w'.cell? ⟨w.heap.size, 1, none⟩ = some (.int .i64 a1) ∧ w'.cell? ⟨w.heap.size, 2, none⟩ = some (.int .i64 a2) ∧ w'.cell? ⟨w.heap.size, 3, none⟩ = some (.int .i64 a3) ∧ w'.cell? ⟨w.heap.size, 4, none⟩ = some (.int .i64 a4)) [12] bpr.tab1 bpr.bits1 ⟨hc0, hc1, hc2, hc3, hc4⟩ (fun hHeld HT_ HW_ => ?_)
 generalize W0.drew = W at hc0 hc1 hc2 hc3 hc4 T1' T2' T3' hHeld ⊢
 refine pA_ 0 (h:=pA_ 2 (h:=pA_ 4 (h:=pA_ 6 (h:=tA_ 1 (h:=tA_ 3 (h:=tA_ 5 (h:=tA_ 7 (h:=tA_ 8 (h:=?_)))))))))
 refine oA_ 9 (some 12) (h:=fun K hK => ?_)
 refine goes_ Tryz.func75 (by kernel_rfl) rfl #[.agg #[.slice A l.length c, .int .i64 a1, .int .i64 a2, .int .i64 a3, .int .i64 a4]] (by rfl) rfl rfl (by (try simp only [List.map_toArray, List.map_cons, List.map_nil]); first | done | rfl | (simp only [List.length_drop, List.length_take]; rfl)) ?_
 with_reducible refine (diffsOf_r _ _ _ _ _ _).mono ?_
 rintro e w8 ⟨rfl, hb8⟩
 refine ⟨_, rfl, ?_⟩
 have T1a := blk_below T1'.out hb8
 have T2a := blk_below T2'.out hb8
 have T3a := bh_ T3'.out T3'.out.size hb8
 refine hK.out _ _ ⟨cell_of T1a (i := 0) rfl, cell_of T1a (i := 1) rfl, cell_of T1a (i := 2) rfl, cell_of T1a (i := 3) rfl, cell_of T1a (i := 4) rfl⟩ (fun hHeld => ?_)
 clear hK K
 refine nA_ (h:=?_)
 refine oA_ 10 (some 13) (h:=fun K hK => ?_)
 refine goes_ Tryz.func74 (by kernel_rfl) rfl #[.slice A l.length c] (by rfl) rfl rfl (by (try simp only [List.map_toArray, List.map_cons, List.map_nil]); first | done | rfl | (simp only [List.length_drop, List.length_take]; rfl)) ?_
 with_reducible refine (impl_back.calls k A c l r w8 (Kd.C_below HR.out T3a) hc h).mono ?_
 rintro e w10 ⟨v10, rfl, ho10, hb10⟩
 refine ⟨_, rfl, ?_⟩
 obtain ⟨A10, c10, e10⟩ := Kd.R_slice ho10
 subst e10
 have T1b := blk_below T1a hb10
 have T2b := blk_below T2a hb10
 have T3b := bh_ T3a T3a.size hb10
 have hd0 := cell_of T2b (i := 0) rfl
 have hd1 := cell_of T2b (i := 1) rfl
 have hd2 := cell_of T2b (i := 2) rfl
 have hd3 := cell_of T2b (i := 3) rfl
 have hd4 := cell_of T2b (i := 4) rfl
 have hfd0 := bf_ T2b 0
 have hfd1 := bf_ T2b 1
 have hfd2 := bf_ T2b 2
 have hfd3 := bf_ T2b 3
 have hfd4 := bf_ T2b 4
 have hne_ : w.heap.size ≠ w.heap.size + 1 := by omega
 have hne2_ : w.heap.size + 1 ≠ w.heap.size := by omega
 refine hK.out _ _ ⟨cell_of T1b (i := 0) rfl, cell_of T1b (i := 1) rfl, cell_of T1b (i := 2) rfl, cell_of T1b (i := 3) rfl, cell_of T1b (i := 4) rfl⟩ (fun hHeld => ?_)
 clear hK K
 refine nA_ (h:=?_)
 refine pA_ 11 (h:=?_)
 refine lA_ 12 none (h:=fun K hK => ?_)
 refine skip_ (w1 := ?_) (by rfl) rfl ?_ ?_
 rotate_left
 ·go_simp
  rfl
 refine hK.out _ _ ?_
 clear hK K
 refine done_ (done_of HT_.out (by kernel_rfl)) ?_
 go_wp2
 refine bodyPost_ret (results_cell_row rfl _ _ (w.heap.size + 1) 33 #[.int .i64 a1, .int .i64 a2, .int .i64 a3, .int .i64 a4, .slice A10 r.length c10] (0, 0) _ rfl (by simpa using blk_set (blk_set (blk_set (blk_set (blk_set T2b 0 (.int .i64 a1)) 1 (.int .i64 a2)) 2 (.int .i64 a3)) 3 (.int .i64 a4)) 4 (.slice A10 r.length c10)) hu33 rfl (by kernel_rfl)) rfl ?_
 refine ⟨_, rfl, ?_, ?_⟩
 ·exact Kd.R_mono (Kd.R_far (p := ⟨w.heap.size + 1, 4, none⟩) (Kd.R_far (p := ⟨w.heap.size + 1, 3, none⟩) (Kd.R_far (p := ⟨w.heap.size + 1, 2, none⟩) (Kd.R_far (p := ⟨w.heap.size + 1, 1, none⟩) (Kd.R_far (p := ⟨w.heap.size + 1, 0, none⟩) (Kd.R_types (Kd.R_lower ho10 T3a.size) T2b (by decide)) (fun _ hk => hk.2) (.int .i64 a1)) (fun _ hk => hk.2) (.int .i64 a2)) (fun _ hk => hk.2) (.int .i64 a3)) (fun _ hk => hk.2) (.int .i64 a4)) (fun _ hk => hk.2) (.slice A10 r.length c10)) (fun _ _ => trivial)
 ·exact Below.setCell (Below.setCell (Below.setCell (Below.setCell (Below.setCell T3b (by simp) _) (by simp) _) (by simp) _) (by simp) _) (by simp) _
theorem info33 : (Tryz.prog.info? 33).map (fun i => (i.zero, i.size, i.bytes)) = some (some (.agg #[(.int .i64 0), (.int .i64 0), (.int .i64 0), (.int .i64 0), (.slice none 0 0)]), 5, 56) := by kernel_rfl
def bp.f (k : Nat) (d : List (S93)) (a1 a2 a3 a4 : Int) : Option (Int × Int × Int × Int × List (S70)) := (impl_back.f k d).bind fun r => some (a1, a2, a3, a4, r)
theorem bp.calls (k : Nat) (A : Option Addr) (c : Nat) (l : List S93) (a1 a2 a3 a4 r1 r2 r3 r4 : Int) (r5 : List S70) (w : World) (hr : Kd.C k93 w A l.length l) (hc : l.length ≤ c) (h : bp.f k l a1 a2 a3 a4 = some (r1, r2, r3, r4, r5)) :
  Calls Tryz.prog 43 #[.agg #[.slice A l.length c, .int .i64 a1, .int .i64 a2, .int .i64 a3, .int .i64 a4]] w fun e w' => ∃ v4_ : Value, e = .returned (.agg #[.int .i64 r1, .int .i64 r2, .int .i64 r3, .int .i64 r4, v4_]) ∧ Kd.R k70 70 w' w.heap.size (fun _ => True) v4_ r5 ∧ Below w.heap.size w w' := by
 obtain ⟨r, h1, h2⟩ := Option.bind_eq_some_iff.mp h
 simp only [Option.some.injEq, Prod.mk.injEq] at h2
 obtain ⟨rfl, rfl, rfl, rfl, rfl⟩ := h2
 exact backPatch_r k A c l a1 a2 a3 a4 r w hr hc h1
def bps.l0 : Nat → List (S33) → List (S67) → Int → Int → Option ((List (S33)))
 | 0, _, _, _, _ => none
 | k + 1, x3, x6, x7, x8 => if x8 < x7 then (if 0 ≤ x8 then (if x8 < (x6.length : Int) then ((bp.f k ((rd_T67 x6 x8).f0) ((rd_T67 x6 x8).f1) ((rd_T67 x6 x8).f2) ((rd_T67 x6 x8).f3) ((rd_T67 x6 x8).f4)).bind fun bt122 => (if x3.length < 2513169434916 then (bps.l0 k (x3 ++ [(⟨bt122.1, bt122.2.1, bt122.2.2.1, bt122.2.2.2.1, bt122.2.2.2.2⟩ : S33)]) x6 x7 (wrap64 (x8 + 1))) else (none))) else (none)) else (none)) else (some x3)
def bps.f (k : Nat) (l0 : List (S67)) : Option ((List (S33))) := bps.l0 k ([] : List (S33)) l0 (l0.length : Int) 0
theorem bps.calls (k : Nat) (A0 : Option Addr) (c0 : Nat) (l0 : List (S67)) (r : List (S33)) (w : World) (hr0 : Kd.C k67 w A0 l0.length l0) (hc0 : l0.length ≤ c0) (h : bps.f k l0 = some r) :
  Calls Tryz.prog 23 #[.slice A0 l0.length c0] w fun e w' => ∃ v0_ : Value, e = .returned (v0_) ∧ Kd.S k33 33 w' w.heap.size (fun _ => True) v0_ r ∧ Below w.heap.size w w' := by
 have hu33 := Tryz.underlying67
 have HR0 := Aside0.mk hr0
 have HC0 := Aside0.mk hc0
 clear hr0 hc0
 have HB := aS_ (Below.refl w.heap.size w)
 have H : (bps.l0 k ([] : List (S33)) l0 (l0.length : Int) 0) = some r := h
 clear h
 have H' := Aside0.mk H
 clear H
 go_enter Tryz.func23, Tryz.ntmps23
 go_wp2
 go_loopg [3, 8] k (fun kq v3 v8 w' => ∃ (x3_1 : List (S33)) (x8_1 : Int), v8 = .int .i64 x8_1 ∧ Aside0 (bps.l0 kq x3_1 l0 (l0.length : Int) x8_1 = some r) ∧ Aside0 (kq ≤ k) ∧ Aside0 (Kd.S k33 33 w' w.heap.size (fun _ => True) v3 x3_1) ∧ Aside0 (Below w.heap.size w w'))
 case atStart => exact ⟨(([] : List (S33))), (0), (by first | rfl | simp [*]), H', ⟨Nat.le_refl _⟩, ⟨by first | exact Kd.S_nil _ _ _ _ _ | exact Kd.R_nil _ _ _ _ _⟩, ⟨bel_ HB.out⟩⟩
 case round =>
  clear H'
  obtain ⟨x3_1, x8_1, rfl, HA, HK1, HO_3, HB⟩ := hrel
  cases gk with
  | zero => exact absurd HA.out (by simp [bps.l0])
  | succ k1 =>
   have H := HA.out; clear HA
   simp only [bps.l0] at H
   by_cases c2 : x8_1 < (l0.length : Int)
   ·rw [if_pos c2] at H
    have c2b0 := decide_eq_true c2
    clear c2
    replace H := yes_ H; obtain ⟨c3, H⟩ := H
    have c3b0 := decide_eq_true c3
    clear c3
    replace H := yes_ H; obtain ⟨c4, H⟩ := H
    have c4b0 := decide_eq_true c4
    clear c4
    replace H := Option.bind_eq_some_iff.mp H
    obtain ⟨⟨t122, t123, t124, t125, t126⟩, A50, H⟩ := H
    try dsimp only at H
    have A5 := Aside0.mk A50
    clear A50
    replace H := yes_ H; obtain ⟨c6, H⟩ := H
    have LMc6 := Aside0.mk c6
    clear c6
    obtain ⟨y129, hy129⟩ : ∃ y_ : List (S33), y_ = (x3_1 ++ [(⟨t122, t123, t124, t125, t126⟩ : S33)]) := ⟨_, rfl⟩
    replace H : (bps.l0 k1 y129 l0 (l0.length : Int) (wrap64 (x8_1 + 1))) = some r := by first | (rw [hy129]; with_reducible exact H) | (have H2_ := (Option.bind_some _ _).symm.trans H; rw [hy129]; with_reducible exact H2_) | (have H2_ := (Option.bind_some _ _).symm.trans H; with_reducible exact H2_) | with_reducible exact H | (rw [hy129]; exact H) | exact H
    have Ny129 := Aside0.mk hy129
    clear hy129
    have H' := Aside0.mk H
    clear H
    have p120 : 0 ≤ (x8_1 : Int) := of_decide_eq_true (by assumption)
    have q120 : x8_1 < (l0.length : Int) := of_decide_eq_true (by assumption)
    obtain ⟨ad120, A120_4, c120_4, e120, hx120_0, hx120_1, hx120_2, hx120_3, hx120_4, hl120_4, hi120_4⟩ := at_T67 HR0.out x8_1 p120 q120
    cases e120
    replace hx120_0 := (HB.out.cell (World.block_lt_of_cell? w _ hx120_0)).trans hx120_0
    replace hx120_1 := (HB.out.cell (World.block_lt_of_cell? w _ hx120_1)).trans hx120_1
    replace hx120_2 := (HB.out.cell (World.block_lt_of_cell? w _ hx120_2)).trans hx120_2
    replace hx120_3 := (HB.out.cell (World.block_lt_of_cell? w _ hx120_3)).trans hx120_3
    replace hx120_4 := (HB.out.cell (World.block_lt_of_cell? w _ hx120_4)).trans hx120_4
    have HR120_4 := Aside0.mk hi120_4
    have HC120_4 := Aside0.mk hl120_4
    clear hi120_4 hl120_4
    replace p120 := eq_true p120
    replace q120 := eq_true q120
    go_wp2_with (first | ((with_reducible refine gate_dst (N := 5) rfl ?_); refine box_event ?hg (N := 5) ?hd (cs := #[.slice none 0 0, .int .i64 0, .int .i64 0, .int .i64 0, .int .i64 0]) (t := 67) ?hr ?_; (case hd => rfl); (case hg => rfl); (case hr => first | (go_simp; done) | (go_simp; rfl)); intro gb121 hg w7 hbox hb; replace HO_3 := aS_ (Kd.S_below (Kd.S_st HO_3.out) hb); have BK121 := aS_ (hbox); have GW121 := aS_ ((by rw [hg]; exact (bz_ (bel_ HB.out)) : w.heap.size ≤ gb121)); have GE121 := aS_ ((by rw [hg]; exact (bz_ (bel_ HB.out)) : w.heap.size ≤ gb121)); replace HB := aS_ (bt_ (bel_ HB.out) hb); clear hb hbox hg; obtain ⟨hcz8_0, hcz8_1, hcz8_2, hcz8_3, hcz8_4, hfz8_0, hfz8_1, hfz8_2, hfz8_3, hfz8_4⟩ := blk5 BK121.out) | (go_at_call 43; (with_reducible refine (bp.calls k1 _ _ ((rd_T67 l0 x8_1).f0) ((rd_T67 l0 x8_1).f1) ((rd_T67 l0 x8_1).f2) ((rd_T67 l0 x8_1).f3) ((rd_T67 l0 x8_1).f4) t122 t123 t124 t125 t126 _ ?side1 ?side2 A5.out).mono ?_); (case side1 => exact Kd.C_below HR120_4.out (by with_reducible repeat first | exact HB.out | apply bA_ | apply bN_ | apply bD_ | refine bS_ ?_ GE121.out)); (case side2 => exact HC120_4.out); rintro e w9 ⟨v127, rfl, ho0, hb⟩; replace HO_3 := aS_ (Kd.S_elder' (Kd.S_st ((Kd.S_mono (Kd.S_far (p := ⟨gb121, 4, none⟩) (Kd.S_far (p := ⟨gb121, 3, none⟩) (Kd.S_far (p := ⟨gb121, 2, none⟩) (Kd.S_far (p := ⟨gb121, 1, none⟩) (Kd.S_far (p := ⟨gb121, 0, none⟩) (Kd.S_types HO_3.out BK121.out (by decide)) (fun _ hk => hk.2) (.slice A120_4 ((rd_T67 l0 x8_1).f0).length c120_4)) (fun _ hk => hk.2) (.int .i64 ((rd_T67 l0 x8_1).f1))) (fun _ hk => hk.2) (.int .i64 ((rd_T67 l0 x8_1).f2))) (fun _ hk => hk.2) (.int .i64 ((rd_T67 l0 x8_1).f3))) (fun _ hk => hk.2) (.int .i64 ((rd_T67 l0 x8_1).f4))) (fun _ h_ => h_.1)))) (Kd.R_base ho0) hb); have HO128 := aS_ (Kd.R_lower ho0 (bz_ (by with_reducible repeat first | exact HB.out | apply bA_ | apply bN_ | apply bD_ | refine bS_ ?_ GE121.out))); replace BK121 := aS_ (blk_below (g := gb121) (o := .cells #[.slice A120_4 ((rd_T67 l0 x8_1).f0).length c120_4, .int .i64 ((rd_T67 l0 x8_1).f1), .int .i64 ((rd_T67 l0 x8_1).f2), .int .i64 ((rd_T67 l0 x8_1).f3), .int .i64 ((rd_T67 l0 x8_1).f4)] 67 (0, 0)) (by (with_reducible repeat (first | refine kN_ ?_ _ | refine kD_ ?_ | refine kA_ ?_ _)); refine blk_put (cs := #[.slice A120_4 ((rd_T67 l0 x8_1).f0).length c120_4, .int .i64 ((rd_T67 l0 x8_1).f1), .int .i64 ((rd_T67 l0 x8_1).f2), .int .i64 ((rd_T67 l0 x8_1).f3), .int .i64 0]) ?_ 4 _ rfl; (with_reducible repeat (first | refine kN_ ?_ _ | refine kD_ ?_ | refine kA_ ?_ _)); refine blk_put (cs := #[.slice A120_4 ((rd_T67 l0 x8_1).f0).length c120_4, .int .i64 ((rd_T67 l0 x8_1).f1), .int .i64 ((rd_T67 l0 x8_1).f2), .int .i64 0, .int .i64 0]) ?_ 3 _ rfl; (with_reducible repeat (first | refine kN_ ?_ _ | refine kD_ ?_ | refine kA_ ?_ _)); refine blk_put (cs := #[.slice A120_4 ((rd_T67 l0 x8_1).f0).length c120_4, .int .i64 ((rd_T67 l0 x8_1).f1), .int .i64 0, .int .i64 0, .int .i64 0]) ?_ 2 _ rfl; (with_reducible repeat (first | refine kN_ ?_ _ | refine kD_ ?_ | refine kA_ ?_ _)); refine blk_put (cs := #[.slice A120_4 ((rd_T67 l0 x8_1).f0).length c120_4, .int .i64 0, .int .i64 0, .int .i64 0, .int .i64 0]) ?_ 1 _ rfl; (with_reducible repeat (first | refine kN_ ?_ _ | refine kD_ ?_ | refine kA_ ?_ _)); refine blk_put (cs := #[.slice none 0 0, .int .i64 0, .int .i64 0, .int .i64 0, .int .i64 0]) ?_ 0 _ rfl; (with_reducible repeat (first | refine kN_ ?_ _ | refine kD_ ?_ | refine kA_ ?_ _)); exact BK121.out) hb); replace HB := aS_ (bt_ (by with_reducible repeat first | exact HB.out | apply bA_ | apply bN_ | apply bD_ | refine bS_ ?_ GE121.out) hb); obtain ⟨Ao11, co11, eo11⟩ := Kd.R_slice HO128.out; subst eo11) | ((with_reducible refine gate_builtin (b := .append) (xs := #[.tmp 12, .tmp 15]) rfl ?_); at_builtin; refine Kd.S_append k33 (w0 := w) w.heap.size rfl (.tmp 12) (.tmp 15) 22 33 (.agg #[(.int .i64 0), (.int .i64 0), (.int .i64 0), (.int .i64 0), (.slice none 0 0)]) 56 rfl Tryz.underlying22 info33 rfl (by decide) (by omega) u3 x3_1 (⟨t122, t123, t124, t125, t126⟩ : S33) [.int .i64 t122, .int .i64 t123, .int .i64 t124, .int .i64 t125, .slice Ao11 t126.length co11] (fun _ => True) (fun k_ => some k_ = (.slice Ao11 t126.length co11 : Value).ownBlock) rfl rfl ?aP (fun k_ hk_ => ((Kd.R_mono (ok' := fun k_ => ((fun _ => True)) k_ ∧ some k_ ≠ (u3 : Value).ownBlock) (Kd.R_apart' (HO128.out) (Kd.S_typed HO_3.out) (by decide)) (fun k_ hk => ⟨trivial, hk.2⟩))).1 k_ hk_.symm) ?aF ?aO ?aB ?aS ?aL ?_; (case aP => exact k33_mkM _ _ _ (⟨t122, t123, t124, t125, t126⟩ : S33) (Kd.R_mono (Kd.R_tight rfl (Kd.R_mono (ok' := fun k_ => ((fun _ => True)) k_ ∧ some k_ ≠ (u3 : Value).ownBlock) (Kd.R_apart' (HO128.out) (Kd.S_typed HO_3.out) (by decide)) (fun k_ hk => ⟨trivial, hk.2⟩))) (fun _ h_ => h_))); (case aB => exact (by with_reducible repeat first | exact HB.out | apply bA_ | apply bN_ | apply bD_ | refine bS_ ?_ GE121.out)); (case aF => exact (fun _ _ => trivial)); (case aO => exact (Kd.S_st (Kd.S_mono HO_3.out (fun k_ hk => ⟨trivial, fun e_ => hk.2 e_⟩)))); (case aS => exact (bz_ (by with_reducible repeat first | exact HB.out | apply bA_ | apply bN_ | apply bD_ | refine bS_ ?_ GE121.out))); (case aL => have := LMc6.out; omega); intro v130 w10 ho hb hg hat; rw [← Ny129.out] at ho; replace BK121 := aS_ (blk_grown (g := gb121) (o := .cells #[.slice A120_4 ((rd_T67 l0 x8_1).f0).length c120_4, .int .i64 ((rd_T67 l0 x8_1).f1), .int .i64 ((rd_T67 l0 x8_1).f2), .int .i64 ((rd_T67 l0 x8_1).f3), .int .i64 ((rd_T67 l0 x8_1).f4)] 67 (0, 0)) (blk_st BK121.out) hg (Kd.S_ne HO_3.out BK121.out (by decide))); replace HB := aS_ (hb); have HO131 := aS_ (ho); clear HO_3 HO128; clear ho hb hg hat))
    go_roundg k1
    case measure => have := HK1.out; omega
    case rel => exact ⟨(y129), (wrap64 (x8_1 + 1)), (by first | rfl | simp [*]), H', ⟨by have := HK1.out; omega⟩, ⟨Kd.S_st HO131.out⟩, ⟨by with_reducible repeat first | exact HB.out | apply bA_ | apply bN_ | apply bD_ | refine bS_ ?_ GE121.out⟩⟩
   ·rw [if_neg c2] at H
    have c2b0 := decide_eq_false c2
    clear c2
    obtain rfl := Option.some.inj H
    go_wp2
    go_ret
    exact ⟨_, by first | rfl | (simp [*, errW_none, errW_some] <;> rfl), Kd.S_st HO_3.out, bel_ HB.out⟩
theorem new_calls (w : World) : Calls Tryz.prog 36 #[] w fun e w' => e = .returned (.pointer (some ⟨w.heap.size, 0, none⟩)) ∧ w' = w.alloc (.cells #[.int .i64 1000000000, .int .i64 4, .int .i64 1000, .float .f64 4602678819172646912, .int .i64 4, .int .i64 32, .float .f64 4602678819172646912] 81) := by
 have hu81 := Tryz.underlying81
 go_enter Tryz.func36, Tryz.ntmps36
 go_wp2
 go_ret
 exact ⟨rfl, rfl⟩
theorem plain_calls (w : World) : Calls Tryz.prog 21 #[] w fun e w' => ∃ g, e = .returned (.pointer (some ⟨g, 0, none⟩)) ∧ DmpAt w' g ∧ w.heap.size ≤ g ∧ Below w.heap.size w w' := by
 have hu81 := Tryz.underlying81
 go_enter Tryz.func21, Tryz.ntmps21
 go_wp2_with (first | (go_at_call 36; refine (new_calls _).mono ?_; rintro e w' ⟨rfl, rfl⟩))
 go_ret
 exact ⟨_, rfl, heap_alloc_new w _, Nat.le_refl _, Below.alloc (Below.refl _ _) (Nat.le_refl _) _⟩
def setv : Value := .agg #[.int .i64 4, .int .i64 1000, .int .i64 4, .int .i64 32, .float .f64 4602678819172646912, .float .f64 4602678819172646912]
def newCells : Array Value := #[.int .i64 1000000000, .int .i64 4, .int .i64 1000, .float .f64 4602678819172646912, .int .i64 4, .int .i64 32, .float .f64 4602678819172646912]
theorem run_store_flt (P : Program) (w : World) (a : Addr) (m : Mode) (x : Nat) : (store a (.float .f64 x) m).run P w = stored P w a (.float .f64 x) m := run_store P w a _ m rfl
attribute [local go_sem] run_store_flt
def dfl.T2 : Bool × List (List Nat × List Nat) := (true, [([], []), ([0], [0]), ([1], [1]), ([2], [2]), ([], []), ([4], [4]), ([5], [5]), ([6], [6]), ([], []), ([8], [8]), ([9], [9]), ([10], [10]), ([], []), ([12], [12]), ([13], [13]), ([14], [14]), ([], []), ([16], [16]), ([17], [17]), ([18], [18]), ([], []), ([20], [20]), ([21], [21]), ([22], [22]), ([3, 7, 11, 15, 19, 23], [3, 7, 11, 15, 19, 23]), ([24, 0, 1, 2, 3, 4, 5, 6, 7, 8, 9, 10, 11, 12, 13, 14, 15, 16, 17, 18, 19, 20, 21, 22, 23, 24], [24])])
def dfl.B2 : List Nat := [0, 1, 3, 7, 0, 16, 48, 112, 0, 256, 768, 1792, 0, 4096, 12288, 28672, 0, 65536, 196608, 458752, 0, 1048576, 3145728, 7340032, 16777215, 33554431]
theorem dfl.tab2 : rtab .any (opsOf Tryz.f20 2) = dfl.T2 := by kernel_rfl
theorem dfl.bits2 : waitsOk dfl.T2.2 dfl.B2 = true := by kernel_rfl
def stt.T2 : Bool × List (List Nat × List Nat) := (true, [([], []), ([], []), ([], []), ([], []), ([], []), ([4], [4]), ([], []), ([6], [6]), ([], []), ([8], [8]), ([], []), ([10], [10]), ([0, 0, 4, 5], [0]), ([12, 0, 4, 5], [12]), ([13, 5, 0, 4, 5], [5, 13]), ([1, 0, 1, 4, 5, 6, 7, 12, 13, 14], [1]), ([15, 0, 1, 4, 5, 6, 7, 12, 13, 14], [15]), ([16, 7, 14, 0, 1, 4, 5, 6, 7, 12, 13, 14], [7, 16]), ([2, 0, 1, 2, 4, 5, 6, 7, 8, 9, 12, 13, 14, 15, 16, 17], [2]), ([18, 0, 1, 2, 4, 5, 6, 7, 8, 9, 12, 13, 14, 15, 16, 17], [18]), ([19, 9, 17, 0, 1, 2, 4, 5, 6, 7, 8, 9, 12, 13, 14, 15, 16, 17], [9, 19]), ([3, 0, 1, 2, 3, 4, 5, 6, 7, 8, 9, 10, 11, 12, 13, 14, 15, 16, 17, 18, 19, 20], [3]), ([21, 0, 1, 2, 3, 4, 5, 6, 7, 8, 9, 10, 11, 12, 13, 14, 15, 16, 17, 18, 19, 20], [21]), ([22, 11, 20, 0, 1, 2, 3, 4, 5, 6, 7, 8, 9, 10, 11, 12, 13, 14, 15, 16, 17, 18, 19, 20], [11, 22])])
def stt.B2 : List Nat := [0, 0, 0, 0, 0, 16, 0, 64, 0, 256, 0, 1024, 49, 4145, 12337, 28915, 61683, 127219, 259063, 521207, 1045495, 2097151, 4194303, 8388607]
theorem stt.tab2 : rtab .any (opsOf Tryz.f33 2) = stt.T2 := by kernel_rfl
theorem stt.bits2 : waitsOk stt.T2.2 stt.B2 = true := by kernel_rfl
def stt.T3 : Bool × List (List Nat × List Nat) := (true, [([], []), ([], []), ([], []), ([2], [2]), ([], []), ([4], [4]), ([0, 0, 2, 3], [0]), ([6, 0, 2, 3], [6]), ([7, 3, 0, 2, 3], [3, 7]), ([1, 0, 1, 2, 3, 4, 5, 6, 7, 8], [1]), ([9, 0, 1, 2, 3, 4, 5, 6, 7, 8], [9]), ([10, 5, 8, 0, 1, 2, 3, 4, 5, 6, 7, 8], [5, 10])])
def stt.B3 : List Nat := [0, 0, 0, 4, 0, 16, 13, 77, 205, 511, 1023, 2047]
theorem stt.tab3 : rtab .any (opsOf Tryz.f33 3) = stt.T3 := by kernel_rfl
theorem stt.bits3 : waitsOk stt.T3.2 stt.B3 = true := by kernel_rfl
theorem defaults_calls (w : World) : Calls Tryz.prog 20 #[] w fun e w' => e = .returned setv ∧ Below w.heap.size w w' := by
 have hu81 := Tryz.underlying81
 have hu50 := Tryz.underlying50
 go_enter Tryz.func20, Tryz.ntmps20
 go_wp2_with (first | (go_at_call 36; refine (new_calls _).mono ?_; rintro e w' ⟨rfl, rfl⟩))
 refine wp_at (fun W => W.heap[w.heap.size]? = some (.cells #[.int .i64 0, .int .i64 0, .int .i64 0, .int .i64 0, .float .f64 0, .float .f64 0] 50 (0, 0)) ∧ W.heap[w.heap.size + 1]? = some (.cells newCells 81 (0, 0)) ∧ Below w.heap.size w W) ⟨kA_ (heap_alloc_new w _) _, by (have h_ := heap_alloc_new (w.alloc (.cells #[.int .i64 0, .int .i64 0, .int .i64 0, .int .i64 0, .float .f64 0, .float .f64 0] 50)) (.cells newCells 81); rw [World.size_alloc] at h_; exact h_), Below.alloc (Below.alloc (Below.refl _ _) (Nat.le_refl _) _) (by simp) _⟩ ?_
 intro W0
 rintro ⟨T1, T2, T3⟩
 have T1 := kD_ T1
 have T2 := kD_ T2
 have T3 := below_drew T3
 have hd0 := cell_of T2 (i := 0) rfl
 have hd1 := cell_of T2 (i := 1) rfl
 have hd2 := cell_of T2 (i := 2) rfl
 have hd3 := cell_of T2 (i := 3) rfl
 have hd4 := cell_of T2 (i := 4) rfl
 have hd5 := cell_of T2 (i := 5) rfl
 have hd6 := cell_of T2 (i := 6) rfl
 have hc0 := cell_of T1 (i := 0) rfl
 have hf0 := bf_ T1 0
 have hc1 := cell_of T1 (i := 1) rfl
 have hf1 := bf_ T1 1
 have hc2 := cell_of T1 (i := 2) rfl
 have hf2 := bf_ T1 2
 have hc3 := cell_of T1 (i := 3) rfl
 have hf3 := bf_ T1 3
 have hc4 := cell_of T1 (i := 4) rfl
 have hf4 := bf_ T1 4
 have hc5 := cell_of T1 (i := 5) rfl
 have hf5 := bf_ T1 5
 have T1' := Aside0.mk T1
 have T3' := Aside0.mk T3
 clear T1 T2 T3
 refine sA_ (fun w' => w'.cell? ⟨w.heap.size + 1, 1, none⟩ = some (.int .i64 4) ∧ w'.cell? ⟨w.heap.size + 1, 2, none⟩ = some (.int .i64 1000) ∧ w'.cell? ⟨w.heap.size + 1, 4, none⟩ = some (.int .i64 4) ∧ w'.cell? ⟨w.heap.size + 1, 5, none⟩ = some (.int .i64 32) ∧ w'.cell? ⟨w.heap.size + 1, 3, none⟩ = some (.float .f64 4602678819172646912) ∧ w'.cell? ⟨w.heap.size + 1, 6, none⟩ = some (.float .f64 4602678819172646912)) [25] dfl.tab2 dfl.bits2 ⟨hd1, hd2, hd4, hd5, hd3, hd6⟩ (fun hHeld HT_ HW_ => ?_)
 generalize W0.drew = W at hc0 hf0 hc1 hf1 hc2 hf2 hc3 hf3 hc4 hf4 hc5 hf5 hd0 hd1 hd2 hd3 hd4 hd5 hd6 T1' T3' hHeld ⊢
 refine pA_ 0 (h:=pA_ 1 (h:=pA_ 2 (h:=pA_ 4 (h:=pA_ 5 (h:=pA_ 6 (h:=pA_ 8 (h:=pA_ 9 (h:=pA_ 10 (h:=pA_ 12 (h:=pA_ 13 (h:=pA_ 14 (h:=pA_ 16 (h:=pA_ 17 (h:=pA_ 18 (h:=pA_ 20 (h:=pA_ 21 (h:=pA_ 22 (h:=tA_ 3 (h:=tA_ 7 (h:=tA_ 11 (h:=tA_ 15 (h:=tA_ 19 (h:=tA_ 23 (h:=pA_ 24 (h:=?_)))))))))))))))))))))))))
 refine lA_ 25 none (h:=fun K hK => ?_)
 refine skip_ (w1 := ?_) (by rfl) rfl ?_ ?_
 rotate_left
 ·go_simp
  rfl
 refine hK.out _ _ ?_
 clear hK K
 refine done_ (done_of HT_.out (by kernel_rfl)) ?_
 go_wp2
 refine bodyPost_ret (results_cell_row rfl _ _ w.heap.size 50 #[.int .i64 4, .int .i64 1000, .int .i64 4, .int .i64 32, .float .f64 4602678819172646912, .float .f64 4602678819172646912] (0, 0) _ rfl (blk_set (blk_set (blk_set (blk_set (blk_set (blk_set T1'.out 0 _) 1 _) 2 _) 3 _) 4 _) 5 _) hu50 rfl (by kernel_rfl)) rfl ?_
 exact ⟨rfl, Below.setCell (Below.setCell (Below.setCell (Below.setCell (Below.setCell (Below.setCell T3'.out (Nat.le_refl _) _) (Nat.le_refl _) _) (Nat.le_refl _) _) (Nat.le_refl _) _) (Nat.le_refl _) _) (Nat.le_refl _) _⟩
theorem set_calls (w : World) : Calls Tryz.prog 33 #[setv] w fun e w' => ∃ g, e = .returned (.pointer (some ⟨g, 0, none⟩)) ∧ DmpAt w' g ∧ w.heap.size ≤ g ∧ Below w.heap.size w w' := by
 have hu81 := Tryz.underlying81
 have hu50 := Tryz.underlying50
 unfold setv
 go_enter Tryz.func33, Tryz.ntmps33
 go_wp2_with (first | (go_at_call 21; refine (plain_calls _).mono ?_; rintro e w' ⟨g, rfl, hd, hg, hb⟩))
 refine wp_at (fun W => W.heap[w.heap.size]? = some (.cells #[.int .i64 4, .int .i64 1000, .int .i64 4, .int .i64 32, .float .f64 4602678819172646912, .float .f64 4602678819172646912] 50 (0, 0)) ∧ W.heap[g]? = some (.cells dmpCells 81 (0, 0)) ∧ Below w.heap.size w W) ⟨blk_below (heap_alloc_new w _) hb, hd, bh_ (Below.alloc (Below.refl _ _) (Nat.le_refl _) _) (by simp) hb⟩ ?_
 have hg : w.heap.size < g := by (have h_ := hg; rw [World.size_alloc] at h_; omega)
 have hg' : w.heap.size ≤ g := Nat.le_of_lt hg
 have hne : g ≠ w.heap.size := Nat.ne_of_gt hg
 have hne' : w.heap.size ≠ g := Nat.ne_of_lt hg
 clear hb hd
 intro W0
 rintro ⟨T1, T2, T3⟩
 have T1 := kD_ T1
 have T2 := kD_ T2
 have T3 := below_drew T3
 have hd0 := cell_of T2 (i := 0) rfl
 have hg0 := bf_ T2 0
 have hd1 := cell_of T2 (i := 1) rfl
 have hg1 := bf_ T2 1
 have hd2 := cell_of T2 (i := 2) rfl
 have hg2 := bf_ T2 2
 have hd3 := cell_of T2 (i := 3) rfl
 have hg3 := bf_ T2 3
 have hd4 := cell_of T2 (i := 4) rfl
 have hg4 := bf_ T2 4
 have hd5 := cell_of T2 (i := 5) rfl
 have hg5 := bf_ T2 5
 have hd6 := cell_of T2 (i := 6) rfl
 have hg6 := bf_ T2 6
 have hc0 := cell_of T1 (i := 0) rfl
 have hc1 := cell_of T1 (i := 1) rfl
 have hc2 := cell_of T1 (i := 2) rfl
 have hc3 := cell_of T1 (i := 3) rfl
 have hc4 := cell_of T1 (i := 4) rfl
 have hc5 := cell_of T1 (i := 5) rfl
 have T1' := Aside0.mk T1
 have T2' := Aside0.mk T2
 have T3' := Aside0.mk T3
 clear T1 T2 T3
 refine sA_ (fun w' => w'.cell? ⟨w.heap.size, 0, none⟩ = some (.int .i64 4) ∧ w'.cell? ⟨w.heap.size, 1, none⟩ = some (.int .i64 1000) ∧ w'.cell? ⟨w.heap.size, 2, none⟩ = some (.int .i64 4) ∧ w'.cell? ⟨w.heap.size, 3, none⟩ = some (.int .i64 32)) [] stt.tab2 stt.bits2 ⟨hc0, hc1, hc2, hc3⟩ (fun hHeld HT_ HW_ => ?_)
 generalize W0.drew = W at hc0 hc1 hc2 hc3 hc4 hc5 hd0 hg0 hd1 hg1 hd2 hg2 hd3 hg3 hd4 hg4 hd5 hg5 hd6 hg6 T1' T2' T3' hHeld ⊢
 refine pA_ 0 (h:=pA_ 1 (h:=pA_ 2 (h:=pA_ 3 (h:=pA_ 4 (h:=pA_ 6 (h:=pA_ 8 (h:=pA_ 10 (h:=tA_ 5 (h:=pA_ 12 (h:=pA_ 13 (h:=tA_ 7 (h:=tA_ 9 (h:=tA_ 11 (h:=?_))))))))))))))
 refine oA_ 14 none (h:=fun K hK => ?_)
 refine skip_ (w1 := ?_) (by rfl) rfl ?_ ?_
 rotate_left
 ·go_simp
  rfl
 refine hK.out _ _ ⟨(by go_cell), (by go_cell), (by go_cell), (by go_cell)⟩ (fun hHeld => ?_)
 clear hK K
 refine pA_ 15 (h:=pA_ 16 (h:=?_))
 refine oA_ 17 none (h:=fun K hK => ?_)
 refine skip_ (w1 := ?_) (by rfl) rfl ?_ ?_
 rotate_left
 ·go_simp
  rfl
 refine hK.out _ _ ⟨(by go_cell), (by go_cell), (by go_cell), (by go_cell)⟩ (fun hHeld => ?_)
 clear hK K
 refine pA_ 18 (h:=pA_ 19 (h:=?_))
 refine oA_ 20 none (h:=fun K hK => ?_)
 refine skip_ (w1 := ?_) (by rfl) rfl ?_ ?_
 rotate_left
 ·go_simp
  rfl
 refine hK.out _ _ ⟨(by go_cell), (by go_cell), (by go_cell), (by go_cell)⟩ (fun hHeld => ?_)
 clear hK K
 refine pA_ 21 (h:=pA_ 22 (h:=?_))
 refine oA_ 23 none (h:=fun K hK => ?_)
 refine skip_ (w1 := ?_) (by rfl) rfl ?_ ?_
 rotate_left
 ·go_simp
  rfl
 refine hK.out _ _ ⟨(by go_cell), (by go_cell), (by go_cell), (by go_cell)⟩ (fun hHeld => ?_)
 clear hK K
 refine done_ (done_of HT_.out (by kernel_rfl)) ?_
 go_wp2
 refine wp_at (fun W => W.heap[w.heap.size]? = some (.cells #[.int .i64 4, .int .i64 1000, .int .i64 4, .int .i64 32, .float .f64 4602678819172646912, .float .f64 4602678819172646912] 50 (0, 0)) ∧ W.heap[g]? = some (.cells dmpCells 81 (0, 0)) ∧ Below w.heap.size w W) ⟨blk_far (blk_far (blk_far (blk_far T1'.out hne' _) hne' _) hne' _) hne' _, blk_set (blk_set (blk_set (blk_set T2'.out 1 _) 2 _) 4 _) 5 _, Below.setCell (Below.setCell (Below.setCell (Below.setCell T3'.out hg' _) hg' _) hg' _) hg' _⟩ ?_
 clear hc0 hc1 hc2 hc3 hc4 hc5 hd0 hg0 hd1 hg1 hd2 hg2 hd3 hg3 hd4 hg4 hd5 hg5 hd6 hg6 T1' T2' T3'
 intro W0
 rintro ⟨T1, T2, T3⟩
 have T1 := kD_ T1
 have T2 := kD_ T2
 have T3 := below_drew T3
 have hd0 := cell_of T2 (i := 0) rfl
 have hg0 := bf_ T2 0
 have hd1 := cell_of T2 (i := 1) rfl
 have hg1 := bf_ T2 1
 have hd2 := cell_of T2 (i := 2) rfl
 have hg2 := bf_ T2 2
 have hd3 := cell_of T2 (i := 3) rfl
 have hg3 := bf_ T2 3
 have hd4 := cell_of T2 (i := 4) rfl
 have hg4 := bf_ T2 4
 have hd5 := cell_of T2 (i := 5) rfl
 have hg5 := bf_ T2 5
 have hd6 := cell_of T2 (i := 6) rfl
 have hg6 := bf_ T2 6
 have hc0 := cell_of T1 (i := 0) rfl
 have hc1 := cell_of T1 (i := 1) rfl
 have hc2 := cell_of T1 (i := 2) rfl
 have hc3 := cell_of T1 (i := 3) rfl
 have hc4 := cell_of T1 (i := 4) rfl
 have hc5 := cell_of T1 (i := 5) rfl
 have T1' := Aside0.mk T1
 have T2' := Aside0.mk T2
 have T3' := Aside0.mk T3
 clear T1 T2 T3
 refine sA_ (fun w' => w'.cell? ⟨w.heap.size, 4, none⟩ = some (.float .f64 4602678819172646912) ∧ w'.cell? ⟨w.heap.size, 5, none⟩ = some (.float .f64 4602678819172646912)) [] stt.tab3 stt.bits3 ⟨hc4, hc5⟩ (fun hHeld HT_ HW_ => ?_)
 generalize W0.drew = W at hc0 hc1 hc2 hc3 hc4 hc5 hd0 hg0 hd1 hg1 hd2 hg2 hd3 hg3 hd4 hg4 hd5 hg5 hd6 hg6 T1' T2' T3' hHeld ⊢
 refine pA_ 0 (h:=pA_ 1 (h:=pA_ 2 (h:=pA_ 4 (h:=tA_ 3 (h:=pA_ 6 (h:=pA_ 7 (h:=tA_ 5 (h:=?_))))))))
 refine oA_ 8 none (h:=fun K hK => ?_)
 refine skip_ (w1 := ?_) (by rfl) rfl ?_ ?_
 rotate_left
 ·go_simp
  rfl
 refine hK.out _ _ ⟨(by go_cell), (by go_cell)⟩ (fun hHeld => ?_)
 clear hK K
 refine pA_ 9 (h:=pA_ 10 (h:=?_))
 refine oA_ 11 none (h:=fun K hK => ?_)
 refine skip_ (w1 := ?_) (by rfl) rfl ?_ ?_
 rotate_left
 ·go_simp
  rfl
 refine hK.out _ _ ⟨(by go_cell), (by go_cell)⟩ (fun hHeld => ?_)
 clear hK K
 refine done_ (done_of HT_.out (by kernel_rfl)) ?_
 go_wp2
 go_ret
 exact ⟨g, rfl, blk_set (blk_set T2'.out 3 _) 6 _, hg', Below.setCell (Below.setCell T3'.out hg' _) hg' _⟩
def pread.f (k : Nat) (a : ByteArray) : Option (List S33 × ByteArray) := (p_PatchFromText.f k 0 a).bind fun x => (bps.f k x.1).bind fun b => some (b, x.2.getD ⟨#[]⟩)
theorem pread.calls (k : Nat) (a : ByteArray) (r1 : List S33) (r2 : ByteArray) (w : World) (h : pread.f k a = some (r1, r2)) :
  Calls Tryz.prog 8 #[.string a] w fun e w' => ∃ v0_ : Value, e = .returned (.tuple #[v0_, .string r2]) ∧ Kd.S k33 33 w' w.heap.size (fun _ => True) v0_ r1 ∧ Below w.heap.size w w' := by
 obtain ⟨⟨ps, er⟩, h1, h⟩ := Option.bind_eq_some_iff.mp h
 obtain ⟨bs, h2, h⟩ := Option.bind_eq_some_iff.mp h
 simp only [Option.some.injEq, Prod.mk.injEq] at h
 obtain ⟨rfl, rfl⟩ := h
 replace h2 : bps.f k ps = some bs := h2
 cases er with
 | none =>
  go_enter Tryz.func8, Tryz.ntmps8
  go_wp2_with (first
   | (go_at_call 21; refine (plain_calls _).mono ?_; rintro e w1 ⟨g, rfl, hd1, hg1, hb1⟩)
   | (go_at_call 22; refine (p_PatchFromText.calls k g a ps none w1 hd1 h1).mono ?_; rintro e w2 ⟨v2, ev2, rfl, hs2, he2, hb2⟩; obtain ⟨A2, c2, e2⟩ := Kd.S_slice hs2; subst e2; obtain rfl := he2)
   | (go_at_call 23; refine (bps.calls k A2 c2 ps bs _ (Kd.S_reads' hs2).2.2 (Kd.S_reads' hs2).2.1 h2).mono ?_; rintro e w3 ⟨v3, rfl, hs3, hb3⟩))
  go_ret2
  exact ⟨v3, rfl, Kd.S_lower hs3 (bh_ hb1 hb1.size hb2).size, bh_ (bh_ hb1 hb1.size hb2) (bh_ hb1 hb1.size hb2).size hb3⟩
 | some m =>
  go_enter Tryz.func8, Tryz.ntmps8
  go_wp2_with (first
   | (go_at_call 21; refine (plain_calls _).mono ?_; rintro e w1 ⟨g, rfl, hd1, hg1, hb1⟩)
   | (go_at_call 22; refine (p_PatchFromText.calls k g a ps (some m) w1 hd1 h1).mono ?_; rintro e w2 ⟨v2, ev2, rfl, hs2, he2, hb2⟩; obtain ⟨A2, c2, e2⟩ := Kd.S_slice hs2; subst e2; obtain ⟨ge, rfl, hge⟩ := he2)
   | (go_at_call 23; refine (bps.calls k A2 c2 ps bs _ (Kd.S_reads' hs2).2.2 (Kd.S_reads' hs2).2.1 h2).mono ?_; rintro e w3 ⟨v3, rfl, hs3, hb3⟩)
   | (go_at_call 188; refine (error_text ge m _ (blk_below hge hb3)).mono ?_; rintro e w4 ⟨rfl, rfl⟩))
  go_ret2
  exact ⟨v3, rfl, Kd.S_lower hs3 (bh_ hb1 hb1.size hb2).size, bh_ (bh_ hb1 hb1.size hb2) (bh_ hb1 hb1.size hb2).size hb3⟩
theorem cut_yes (p t : Bs) : q_zzCut.f (B (p ++ t)) (B p) = some (B t, true) := by
 unfold q_zzCut.f
 simp only [B_size]
 have hl : (p ++ t).length = p.length + t.length := List.length_append
 have e : ((B (p ++ t)).extract 0 p.length).toList = (B p).toList := by rw [B_extract]; simp
 have e2 : (B (p ++ t)).extract p.length (p ++ t).length = B t := by rw [B_extract]; simp
 rw [if_neg (by omega), if_pos (by omega), if_pos (by omega), if_pos e, e2]
theorem cut_no (l p : Bs) (h : l.take p.length ≠ p) : q_zzCut.f (B l) (B p) = some (B l, false) := by
 unfold q_zzCut.f
 simp only [B_size]
 by_cases hl : (l.length : Int) < (p.length : Int)
 ·rw [if_pos hl]
 ·have e : ¬ ((B l).extract 0 p.length).toList = (B p).toList := by
   rw [B_extract, B_toList, B_toList]
   simpa using h
  rw [if_neg hl, if_pos (by omega), if_pos (by omega), if_neg e]
def isDig (c : UInt8) : Prop := 48 ≤ c.toNat ∧ c.toNat ≤ 57
theorem ev_digits (ds t : Bs) (hd : ∀ c ∈ ds, isDig c) (ht : ∀ c t', t = c :: t' → ¬ isDig c) (hl : (ds ++ t).length ≤ 1000) : Ev (fun k => q_zzDigits.f k (B (ds ++ t))) (ds.length : Int) := by
 have hla : (ds ++ t).length = ds.length + t.length := List.length_append
 simp only [q_zzDigits.f]
 have key := go_loop (fun k (_ : Unit) i => q_zzDigits.l0 k (B (ds ++ t)) i) ds (fun _ _ => ()) (fun _ _ => True) (ds.length : Int) (fun _ _ _ _ => trivial) ?_ ds.length 0 () (by omega) trivial ?_
 ·exact key
 ·intro i hi _ _ hr
  refine Ev.succ ?_
  simp only [q_zzDigits.l0, B_size]
  have hb : bt (B (ds ++ t)) (i : Int) = (ds[i].toNat : Int) := by
   rw [B_bt _ i (by omega), List.getElem_append_left hi]
  obtain ⟨h1, h2⟩ := hd _ (List.getElem_mem hi)
  rw [hb, w64s i (by omega)]
  exact Ev.if_pos (by omega) (Ev.if_pos (by omega) (Ev.if_pos (by omega) (Ev.if_pos (by omega) hr)))
 ·intro _ _ _
  refine Ev.succ ?_
  simp only [q_zzDigits.l0, B_size]
  cases t with
  | nil => exact Ev.if_neg (by simp) (Ev.const _)
  | cons c t' =>
   have hb : bt (B (ds ++ c :: t')) (ds.length : Int) = (c.toNat : Int) := by
    rw [B_bt _ ds.length (by simp)]
    simp
   have hn := ht c t' rfl
   unfold isDig at hn
   rw [hb]
   refine Ev.if_pos (by simp only [List.length_append, List.length_cons]; omega) (Ev.if_pos (by omega) ?_)
   by_cases h1 : 48 ≤ (c.toNat : Int)
   ·exact Ev.if_pos h1 (Ev.if_neg (by omega) (Ev.const _))
   ·exact Ev.if_neg h1 (Ev.const _)
theorem dec_digs (n : Nat) : ∀ c ∈ dec n, isDig c := by
 induction n using Nat.strongRecOn with
 | _ n ih =>
  have small : ∀ m, m < 10 → isDig (UInt8.ofNat (48 + m)) := by
   intro m hm
   unfold isDig
   rw [UInt8.toNat_ofNat']
   omega
  intro c hc
  by_cases hn : n < 10
  ·rw [dec_small n hn] at hc
   rw [List.mem_singleton.1 hc]
   exact small n hn
  ·rw [dec_big n hn] at hc
   rcases List.mem_append.1 hc with hc | hc
   ·exact ih (n / 10) (by omega) c hc
   ·rw [List.mem_singleton.1 hc]
    exact small _ (by omega)
theorem decFrom_append : ∀ (l m : Bs) (a : Nat), Lib.decFrom a (l ++ m) = (Lib.decFrom a l).bind fun x => Lib.decFrom x m
 | [], m, a => rfl
 | c :: l, m, a => by
  simp only [List.cons_append, Lib.decFrom]
  cases Lib.digitVal c with
  | none => rfl
  | some d => exact decFrom_append l m _
theorem digitVal_of (m : Nat) (h : m < 10) : Lib.digitVal (UInt8.ofNat (48 + m)) = some m := by
 unfold Lib.digitVal
 rw [UInt8.toNat_ofNat']
 rw [if_pos (by omega)]
 congr 1
 omega
theorem decFrom_dec (n : Nat) : Lib.decFrom 0 (dec n) = some n := by
 induction n using Nat.strongRecOn with
 | _ n ih =>
  by_cases hn : n < 10
  ·rw [dec_small n hn]
   simp only [Lib.decFrom, digitVal_of n hn]
   congr 1
   omega
  ·rw [dec_big n hn, decFrom_append, ih (n / 10) (by omega)]
   simp only [Option.bind_some, Lib.decFrom, digitVal_of (n % 10) (by omega)]
   congr 1
   omega
theorem atoi_dec (n : Nat) (h : n ≤ 1000001) : strconv_Atoi.f (B (dec n)) = some ((n : Int), none) := by
 unfold strconv_Atoi.f
 have hl := dec_len 6 n (by omega)
 rw [if_pos (by rw [B_size]; omega), B_data]
 have hd := dec_digs n
 have hF := decFrom_dec n
 have hp := dec_pos n
 have e : Lib.atoi (dec n) = some (n : Int) := by
  generalize dec n = l at hd hF hp ⊢
  cases l with
  | nil => cases hp
  | cons c l =>
   obtain ⟨h1, h2⟩ := hd c List.mem_cons_self
   have n1 : (c == 45) = false := beq_eq_false_iff_ne.2 fun e => by subst e; exact absurd h1 (by decide)
   have n2 : (c == 43) = false := beq_eq_false_iff_ne.2 fun e => by subst e; exact absurd h1 (by decide)
   simp only [Lib.atoi, n1, n2, Bool.false_eq_true, if_false, Lib.decNat, List.isEmpty_cons]
   rw [hF]
   rfl
 rw [e]
 rfl
def st (s l : Nat) : Nat := if l = 0 then s else s + 1
def fld (l : Nat) : Bs := if l = 1 then [] else dec l
def ft (l : Nat) : Bs := if l = 1 then [] else 44 :: dec l
theorem span_eq (s l : Nat) : span s l = dec (st s l) ++ ft l := by
 unfold span st ft
 by_cases h0 : l = 0
 ·subst h0
  rw [if_pos rfl, if_pos rfl, if_neg (by decide), dec_small 0 (by decide)]
  rfl
 ·rw [if_neg h0, if_neg h0]
  by_cases h1 : l = 1
  ·rw [if_pos h1, if_pos h1]; simp
  ·rw [if_neg h1, if_neg h1]; simp
def endOf (j : Nat) : Bs := if j = 1 then [32, 64, 64] else [32, 43]
theorem endOf_head (j : Nat) : ∃ t, endOf j = 32 :: t := by unfold endOf; split <;> exact ⟨_, rfl⟩
theorem endOf_len (j : Nat) : (endOf j).length ≤ 3 := by unfold endOf; split <;> simp
theorem cut_app (a b : Bs) : (B (a ++ b)).extract 0 a.length = B a := by rw [B_extract]; simp
theorem cut_app' (a b : Bs) : (B (a ++ b)).extract a.length (a ++ b).length = B b := by rw [B_extract]; simp
theorem hdr_j1 (x3 r : List ByteArray) (d R : Bs) (j : Nat) (hj : j ≤ 1) (hx : x3.length ≤ 100) (h : Ev (fun k => q_zzHeader.l0 k (x3 ++ [B d]) (B R) ((j + 1 : Nat) : Int)) r) :
  Ev (fun k => q_zzHeader.j1 k x3 (B (d ++ (endOf j ++ R))) (j : Int) (d.length : Int)) r := by
 refine Ev.succ ?_
 simp only [q_zzHeader.j1, B_size, Option.bind_some, Int.toNat_natCast]
 have hla : (d ++ (endOf j ++ R)).length = d.length + (endOf j ++ R).length := List.length_append
 rw [cut_app, cut_app', w64s j (by omega)]
 refine Ev.if_pos (by omega) (Ev.if_pos (by omega) (Ev.if_pos (by omega) ?_))
 by_cases h1 : j = 1
 ·subst h1
  refine Ev.if_pos rfl ?_
  rw [show (⟨#[32, 64, 64]⟩ : ByteArray) = B (endOf 1) from rfl, cut_yes]
  simp only [Option.bind_some]
  exact Ev.if_pos trivial h
 ·obtain rfl : j = 0 := by omega
  refine Ev.if_neg (by decide) ?_
  rw [show (⟨#[32, 43]⟩ : ByteArray) = B (endOf 0) from rfl, cut_yes]
  simp only [Option.bind_some]
  exact Ev.if_pos trivial h
theorem hdr_round (x3 r : List ByteArray) (s l : Nat) (R : Bs) (j : Nat) (hj : j ≤ 1) (hs : s ≤ 1000001) (hl : l ≤ 1000001) (hR : R.length ≤ 100) (hx : x3.length ≤ 50)
  (h : Ev (fun k => q_zzHeader.l0 k (x3 ++ [B (dec s)] ++ [B (fld l)]) (B R) ((j + 1 : Nat) : Int)) r) :
  Ev (fun k => q_zzHeader.l0 k x3 (B (dec s ++ (ft l ++ (endOf j ++ R)))) (j : Int)) r := by
 have d1 := dec_len 6 s (by omega)
 have d2 := dec_len 6 l (by omega)
 have p1 := dec_pos s
 have en := endOf_len j
 obtain ⟨et, he⟩ := endOf_head j
 have ftl : (ft l).length ≤ 8 := by unfold ft; split <;> simp; omega
 have hla : (dec s ++ (ft l ++ (endOf j ++ R))).length = (dec s).length + ((ft l).length + ((endOf j).length + R.length)) := by simp
 have hne : ¬ isDig 44 := by unfold isDig; decide
 have hne2 : ¬ isDig 32 := by unfold isDig; decide
 refine Ev.succ ?_
 simp only [q_zzHeader.l0, B_size, Option.bind_some, Int.toNat_natCast]
 refine Ev.if_pos (by omega) ?_
 refine Ev.bind (ev_digits (dec s) _ (dec_digs s) (fun c t' e => ?_) (by omega)) ?_
 ·unfold ft at e
  split at e
  ·rw [he] at e
   have := (List.cons.inj e).1
   subst this
   exact hne2
  ·have := (List.cons.inj e).1
   subst this
   exact hne
 simp only [Int.toNat_natCast]
 rw [cut_app, cut_app']
 refine Ev.if_neg (by omega) (Ev.if_pos (by omega) (Ev.if_pos (by omega) (Ev.if_pos (by omega) ?_)))
 rw [show (⟨#[44]⟩ : ByteArray) = B [44] from rfl]
 by_cases h1 : l = 1
 ·subst h1
  rw [show ft 1 = [] from rfl, List.nil_append, cut_no _ _ (by rw [he]; simp)]
  simp only [Option.bind_some]
  refine Ev.if_neg (by decide) ?_
  have := hdr_j1 (x3 ++ [B (dec s)]) r [] R j hj (by rw [List.length_append]; simp only [List.length_cons, List.length_nil]; omega) h
  exact this
 ·have ef : ft l = 44 :: dec l := by unfold ft; rw [if_neg h1]
  have ef2 : fld l = dec l := by unfold fld; rw [if_neg h1]
  rw [ef2] at h
  rw [ef, show (44 :: dec l) ++ (endOf j ++ R) = [44] ++ (dec l ++ (endOf j ++ R)) from rfl, cut_yes]
  simp only [Option.bind_some]
  refine Ev.if_pos trivial ?_
  refine Ev.bind (ev_digits (dec l) _ (dec_digs l) (fun c t' e => ?_) (by simp only [List.length_append]; omega)) ?_
  ·rw [he] at e
   have := (List.cons.inj e).1
   subst this
   exact hne2
  ·exact hdr_j1 (x3 ++ [B (dec s)]) r (dec l) R j hj (by rw [List.length_append]; simp only [List.length_cons, List.length_nil]; omega) h
def hdrRes (p : S42) : List ByteArray := [B (hdrL p), B (dec (st p.f0.toNat p.f2.toNat)), B (fld p.f2.toNat), B (dec (st p.f1.toNat p.f3.toNat)), B (fld p.f3.toNat)]
theorem st_le (s l : Nat) (h : s ≤ 1000000) : st s l ≤ 1000001 := by unfold st; split <;> omega
theorem ev_header (p : S42) (h : okPiece p = true) : Ev (fun k => q_zzHeader.f k (B (hdrL p))) (hdrRes p) := by
 obtain ⟨h0, h1, h2, h3, h4, h5, h6⟩ := okPiece_facts h
 have hs1 := st_le p.f0.toNat p.f2.toNat (by omega)
 have hs2 := st_le p.f1.toNat p.f3.toNat (by omega)
 have d2 := dec_len 6 (st p.f1.toNat p.f3.toNat) (by omega)
 have d3 := dec_len 6 p.f3.toNat (by omega)
 have ftl : (ft p.f3.toNat).length ≤ 8 := by unfold ft; split <;> simp; omega
 have e : hdrL p = [64, 64, 32, 45] ++ (dec (st p.f0.toNat p.f2.toNat) ++ (ft p.f2.toNat ++ (endOf 0 ++ (dec (st p.f1.toNat p.f3.toNat) ++ (ft p.f3.toNat ++ (endOf 1 ++ [])))))) := by
  simp [hdrL, span_eq, endOf]
 simp only [q_zzHeader.f]
 have ec : q_zzCut.f (B (hdrL p)) (⟨#[64, 64, 32, 45]⟩ : ByteArray) = some (B (dec (st p.f0.toNat p.f2.toNat) ++ (ft p.f2.toNat ++ (endOf 0 ++ (dec (st p.f1.toNat p.f3.toNat) ++ (ft p.f3.toNat ++ (endOf 1 ++ [])))))), true) := by
  rw [show (⟨#[64, 64, 32, 45]⟩ : ByteArray) = B [64, 64, 32, 45] from rfl, e, cut_yes]
 rw [ec]
 simp only [Option.bind_some]
 refine Ev.if_pos trivial ?_
 refine hdr_round [B (hdrL p)] _ _ _ _ 0 (by omega) hs1 (by omega) (by simp [endOf]; omega) (by simp) ?_
 refine hdr_round _ _ _ _ [] 1 (by omega) hs2 (by omega) (by simp) (by simp) ?_
 refine Ev.succ ?_
 simp only [q_zzHeader.l0]
 refine Ev.if_neg (by decide) (Ev.if_pos (B_toList []) ?_)
 exact (Ev.const (hdrRes p)).congr fun k => rfl
theorem ev_noheader (l : Bs) (h : l.take 4 ≠ [64, 64, 32, 45]) : Ev (fun k => q_zzHeader.f k (B l)) [] := by
 simp only [q_zzHeader.f]
 have ec : q_zzCut.f (B l) (⟨#[64, 64, 32, 45]⟩ : ByteArray) = some (B l, false) := by
  rw [show (⟨#[64, 64, 32, 45]⟩ : ByteArray) = B [64, 64, 32, 45] from rfl, cut_no l [64, 64, 32, 45] h]
 rw [ec]
 simp only [Option.bind_some]
 exact Ev.if_neg (by decide) (Ev.const _)
abbrev PL0 := p_PatchFromText.l0
abbrev PL1 := p_PatchFromText.l1
abbrev PJ1 := p_PatchFromText.j1
abbrev PJ2 := p_PatchFromText.j2
def At (L : List ByteArray) (i : Nat) (l : Bs) : Prop := i < L.length ∧ rdOf ByteArray.empty L (i : Int) = B l
theorem at_of {L : List ByteArray} {i : Nat} {l : Bs} {t : List ByteArray} (h : L.drop i = B l :: t) : At L i l ∧ L.drop (i + 1) = t := by
 have hi : i < L.length := by
  rcases Nat.lt_or_ge i L.length with h' | h'
  ·exact h'
  ·rw [List.drop_eq_nil_of_le h'] at h; cases h
 rw [List.drop_eq_getElem_cons hi] at h
 refine ⟨⟨hi, ?_⟩, (List.cons.inj h).2⟩
 unfold rdOf
 rw [getD_nat _ _ i hi]
 exact (List.cons.inj h).1
theorem size0 (n : Nat) (h : n ≠ 1) : ¬ (((B (dec n)).size : Int) = 0) := by
 have := dec_pos n
 rw [B_size]; omega
theorem dec48 (n : Nat) : (B (dec n)).toList = ([48] : List UInt8) ↔ n = 0 := by
 rw [B_toList]
 constructor
 ·intro h
  have h1 := decFrom_dec n
  rw [h] at h1
  have h2 : Lib.decFrom 0 [48] = some 0 := rfl
  rw [h2] at h1
  exact (Option.some.inj h1).symm
 ·rintro rfl
  rw [dec_small 0 (by decide)]; rfl
theorem hdr_step (L : List ByteArray) (hL : L.length ≤ 1000000) (r : List S67 × Option ByteArray) (x6 : List S67) (i : Nat) (p : S42) (hp : okPiece p = true) (hi : At L i (hdrL p)) (h : Ev (fun k => PL1 k x6 L ((i + 1 : Nat) : Int) [] p.f0 p.f1 p.f2 p.f3) r) : Ev (fun k => PL0 k x6 L (i : Int)) r := by
 obtain ⟨h0, h1, h2, h3, h4, h5, h6⟩ := okPiece_facts hp
 obtain ⟨hil, hir⟩ := hi
 have hs1 := st_le p.f0.toNat p.f2.toNat (by omega)
 have hs2 := st_le p.f1.toNat p.f3.toNat (by omega)
 have hj2 : Ev (fun k => PJ2 k x6 L (i : Int) p.f0 p.f1 p.f2 p.f3) r := by
  refine Ev.succ ?_
  simp only [PJ2, p_PatchFromText.j2]
  rw [w64s i (by omega)]
  exact h
 have w1 : p.f2.toNat ≠ 0 → wrap64 (((st p.f0.toNat p.f2.toNat : Nat) : Int) - 1) = p.f0 := by
  intro hne
  unfold st
  rw [if_neg hne]
  unfold wrap64
  omega
 have w2 : p.f3.toNat ≠ 0 → wrap64 (((st p.f1.toNat p.f3.toNat : Nat) : Int) - 1) = p.f1 := by
  intro hne
  unfold st
  rw [if_neg hne]
  unfold wrap64
  omega
 have hj1 : Ev (fun k => PJ1 k x6 L (i : Int) (hdrRes p) p.f0 0 p.f2 0) r := by
  refine Ev.succ ?_
  simp only [PJ1, p_PatchFromText.j1]
  rw [show rdOf ByteArray.empty (hdrRes p) 3 = B (dec (st p.f1.toNat p.f3.toNat)) from rfl, show rdOf ByteArray.empty (hdrRes p) 4 = B (fld p.f3.toNat) from rfl, atoi_dec _ hs2]
  simp only [Option.bind_some]
  refine Ev.if_pos (show (3 : Int) < ((5 : Nat) : Int) by decide) (Ev.if_pos (show (4 : Int) < ((5 : Nat) : Int) by decide) ?_)
  by_cases c1 : p.f3.toNat = 1
  ·refine Ev.if_pos (by rw [c1]; rfl) ?_
   rw [w2 (by omega), show (1 : Int) = p.f3 by omega]
   exact hj2
  ·have ef : fld p.f3.toNat = dec p.f3.toNat := by unfold fld; rw [if_neg c1]
   rw [ef]
   refine Ev.if_neg (size0 _ c1) ?_
   by_cases c0 : p.f3.toNat = 0
   ·refine Ev.if_pos ((dec48 _).2 c0) ?_
    rw [show ((st p.f1.toNat p.f3.toNat : Nat) : Int) = p.f1 by unfold st; rw [if_pos c0]; omega]
    have e3 : p.f3 = 0 := by omega
    rw [e3] at hj2
    exact hj2
   ·refine Ev.if_neg (fun h_ => c0 ((dec48 _).1 h_)) ?_
    rw [atoi_dec _ (by omega)]
    simp only [Option.bind_some]
    rw [w2 c0, show ((p.f3.toNat : Nat) : Int) = p.f3 by omega]
    exact hj2
 refine Ev.succ ?_
 simp only [PL0, p_PatchFromText.l0]
 rw [hir]
 refine Ev.if_pos (by omega) (Ev.if_pos (by omega) (Ev.bind (ev_header p hp) (Ev.if_neg (show ¬ (((5 : Nat) : Int) = 0) by decide) (Ev.bind (ev_header p hp) ?_))))
 rw [show rdOf ByteArray.empty (hdrRes p) 1 = B (dec (st p.f0.toNat p.f2.toNat)) from rfl, show rdOf ByteArray.empty (hdrRes p) 2 = B (fld p.f2.toNat) from rfl, atoi_dec _ hs1]
 simp only [Option.bind_some]
 refine Ev.if_pos (show (1 : Int) < ((5 : Nat) : Int) by decide) (Ev.if_pos (show (2 : Int) < ((5 : Nat) : Int) by decide) ?_)
 by_cases c1 : p.f2.toNat = 1
 ·refine Ev.if_pos (by rw [c1]; rfl) ?_
  rw [w1 (by omega)]
  have e2 : p.f2 = 1 := by omega
  rw [e2] at hj1
  exact hj1
 ·have ef : fld p.f2.toNat = dec p.f2.toNat := by unfold fld; rw [if_neg c1]
  rw [ef]
  refine Ev.if_neg (size0 _ c1) ?_
  by_cases c0 : p.f2.toNat = 0
  ·refine Ev.if_pos ((dec48 _).2 c0) ?_
   rw [show ((st p.f0.toNat p.f2.toNat : Nat) : Int) = p.f0 by unfold st; rw [if_pos c0]; omega]
   have e2 : p.f2 = 0 := by omega
   rw [e2] at hj1
   exact hj1
  ·refine Ev.if_neg (fun h_ => c0 ((dec48 _).1 h_)) ?_
   rw [atoi_dec _ (by omega)]
   simp only [Option.bind_some]
   rw [w1 c0, show ((p.f2.toNat : Nat) : Int) = p.f2 by omega]
   exact hj1
theorem nohdr_step (L : List ByteArray) (x6 : List S67) (i : Nat) (l : Bs) (hi : At L i l) (hn : l.take 4 ≠ [64, 64, 32, 45]) (hl : l.length ≤ 1000000) :
  Ev (fun k => PL0 k x6 L (i : Int)) (x6, some (B ([73, 110, 118, 97, 108, 105, 100, 32, 112, 97, 116, 99, 104, 32, 115, 116, 114, 105, 110, 103, 58, 32] ++ l))) := by
 obtain ⟨hil, hir⟩ := hi
 refine Ev.succ ?_
 simp only [PL0, p_PatchFromText.l0]
 rw [hir]
 refine Ev.if_pos (by omega) (Ev.if_pos (by omega) (Ev.bind (ev_noheader l hn) (Ev.if_pos rfl (Ev.if_pos (by rw [B_size]; omega) ?_))))
 rw [show (⟨#[73, 110, 118, 97, 108, 105, 100, 32, 112, 97, 116, 99, 104, 32, 115, 116, 114, 105, 110, 103, 58, 32]⟩ : ByteArray) = B [73, 110, 118, 97, 108, 105, 100, 32, 112, 97, 116, 99, 104, 32, 115, 116, 114, 105, 110, 103, 58, 32] from rfl, B_append]
 exact Ev.const _
theorem gap_step (L : List ByteArray) (hL : L.length ≤ 1000000) (r : List S67 × Option ByteArray) (x6 : List S67) (i : Nat) (acc : List S93) (a b c d : Int) (hi : At L i []) (h : Ev (fun k => PL1 k x6 L ((i + 1 : Nat) : Int) acc a b c d) r) : Ev (fun k => PL1 k x6 L (i : Int) acc a b c d) r := by
 obtain ⟨hil, hir⟩ := hi
 refine Ev.succ ?_
 simp only [PL1, p_PatchFromText.l1]
 rw [hir, w64s i (by omega)]
 exact Ev.if_pos (by omega) (Ev.if_pos (by omega) (Ev.if_neg (by decide) h))
theorem tail_cut (c : UInt8) (l : Bs) : (B (c :: l)).extract 1 (B (c :: l)).size = B l := by rw [B_extract, B_size]; simp
theorem bt_head (c : UInt8) (l : Bs) : bt (B (c :: l)) 0 = (c.toNat : Int) := B_bt (c :: l) 0 (by simp)
theorem diff_step (L : List ByteArray) (hL : L.length ≤ 1000000) (r : List S67 × Option ByteArray) (x6 : List S67) (i : Nat) (acc : List S93) (a b c d : Int) (e : S75) (he : okDiff e = true) (hi : At L i (lineL e)) (ha : acc.length ≤ 1000) (h : Ev (fun k => PL1 k x6 L ((i + 1 : Nat) : Int) (acc ++ [⟨e.f0, e.f1⟩]) a b c d) r) :
  Ev (fun k => PL1 k x6 L (i : Int) acc a b c d) r := by
 obtain ⟨hil, hir⟩ := hi
 obtain ⟨g1, g2, g3, g4⟩ := okDiff_facts he
 have hel := esc_len e.f1.data.toList
 have hsz := size_data e.f1
 refine Ev.succ ?_
 simp only [PL1, p_PatchFromText.l1]
 rw [hir, w64s i (by omega)]
 unfold lineL
 rw [tail_cut, bt_head]
 simp only [B_size, List.length_cons]
 refine Ev.if_pos (by omega) (Ev.if_pos (by omega) (Ev.if_pos (by omega) (Ev.if_pos (by omega) (Ev.if_pos (by omega) ?_))))
 refine Ev.bind (ev_replace _ (by omega)) (Ev.bind (unescape_esc _ (by omega)) ?_)
 rw [B_of]
 rcases g1 with g | g | g
 ·rw [g] at h ⊢
  exact Ev.if_pos (show ((signB (-1)).toNat : Int) = 45 from rfl) (Ev.if_pos (by omega) h)
 ·rw [g] at h ⊢
  exact Ev.if_neg (show ¬ ((signB 0).toNat : Int) = 45 by decide) (Ev.if_neg (show ¬ ((signB 0).toNat : Int) = 43 by decide) (Ev.if_pos (show ((signB 0).toNat : Int) = 32 from rfl) (Ev.if_pos (by omega) h)))
 ·rw [g] at h ⊢
  exact Ev.if_neg (show ¬ ((signB 1).toNat : Int) = 45 by decide) (Ev.if_pos (show ((signB 1).toNat : Int) = 43 from rfl) (Ev.if_pos (by omega) h))
theorem unescape_plain (l : Bs) (h : 37 ∉ l) (hl : l.length ≤ 1000) : Ev (fun k => q_zzQueryUnescape.f k (B (repl l))) (B l, none) := by
 have e : repl l = (l.map fun c => (replB c, c)).flatMap (·.1) := by simp [repl, List.flatMap_map]
 have h1 := repl_len l
 have := ev_unescape (l.map fun c => (replB c, c)) (fun x hx => by
  obtain ⟨c, hc, rfl⟩ := List.mem_map.1 hx
  by_cases h43 : c = 43
  ·subst h43
   exact .inr ⟨50, 98, rfl, by decide, by decide, by decide⟩
  ·exact .inl ⟨by simp [replB, h43], fun e => h (e ▸ hc), h43⟩) (by rw [List.length_map]; omega) (by rw [← e]; omega)
 rw [← e] at this
 simpa [List.map_map, Function.comp_def] using this
theorem next_step (L : List ByteArray) (hL : L.length ≤ 1000000) (r : List S67 × Option ByteArray) (x6 : List S67) (i : Nat) (acc : List S93) (a b c d : Int) (p : S42) (hp : okPiece p = true) (hi : At L i (hdrL p)) (hx : x6.length ≤ 1000) (h : Ev (fun k => PL0 k (x6 ++ [⟨acc, a, b, c, d⟩]) L (i : Int)) r) :
  Ev (fun k => PL1 k x6 L (i : Int) acc a b c d) r := by
 obtain ⟨hil, hir⟩ := hi
 have hl := hdrL_len p hp
 have e : ∃ m, hdrL p = 64 :: m ∧ 37 ∉ m := by
  refine ⟨[64, 32, 45] ++ span p.f0.toNat p.f2.toNat ++ [32, 43] ++ span p.f1.toNat p.f3.toNat ++ [32, 64, 64], by simp [hdrL], ?_⟩
  have hd : ∀ s l, 37 ∉ span s l := by
   intro s l hm
   have hdd : ∀ n, 37 ∉ dec n := fun n hn => absurd (dec_digs n 37 hn).1 (by decide)
   rw [span_eq] at hm
   rcases List.mem_append.1 hm with hm | hm
   ·exact hdd _ hm
   ·unfold ft at hm
    split at hm
    ·cases hm
    ·rcases List.mem_cons.1 hm with hm | hm
     ·exact absurd hm (by decide)
     ·exact hdd _ hm
  have h1 := hd p.f0.toNat p.f2.toNat
  have h2 := hd p.f1.toNat p.f3.toNat
  simp [h1, h2]
 obtain ⟨m, em, hm⟩ := e
 rw [em] at hir hl
 have hl' : m.length + 1 ≤ 39 := hl
 refine Ev.succ ?_
 simp only [PL1, p_PatchFromText.l1]
 rw [hir, tail_cut, bt_head]
 simp only [B_size, List.length_cons]
 refine Ev.if_pos (by omega) (Ev.if_pos (by omega) (Ev.if_pos (by omega) (Ev.if_pos (by omega) (Ev.if_pos (by omega) ?_))))
 refine Ev.bind (ev_replace _ (by omega)) (Ev.bind (unescape_plain _ hm (by omega)) ?_)
 exact Ev.if_neg (by decide) (Ev.if_neg (by decide) (Ev.if_neg (by decide) (Ev.if_pos rfl (Ev.if_pos (by omega) h))))
theorem B_app3 (a b w : Bs) (s : ByteArray) : B (a ++ (s.data.toList ++ b ++ w)) = ((B a ++ s) ++ B b) ++ B w := by
 have : ((B a ++ s) ++ B b) ++ B w = ((B a ++ B s.data.toList) ++ B b) ++ B w := by rw [B_of]
 rw [this, B_append, B_append, B_append]
 congr 1
 simp only [List.append_assoc]
def isWord (c : UInt8) : Prop := (97 ≤ c.toNat ∧ c.toNat ≤ 122) ∨ (65 ≤ c.toNat ∧ c.toNat ≤ 90) ∨ (48 ≤ c.toNat ∧ c.toNat ≤ 57)
theorem mode_step (L : List ByteArray) (hL : L.length ≤ 1000000) (x6 : List S67) (i : Nat) (acc : List S93) (a b c d : Int) (w0 : UInt8) (w : Bs) (hw0 : isWord w0) (hw : ∀ c ∈ w, isWord c) (hl : w.length ≤ 100) (hi : At L i (w0 :: w)) :
  ∃ m, Ev (fun k => PL1 k x6 L (i : Int) acc a b c d) (x6, some (B ([73, 110, 118, 97, 108, 105, 100, 32, 112, 97, 116, 99, 104, 32, 109, 111, 100, 101, 32, 39] ++ m))) := by
 obtain ⟨hil, hir⟩ := hi
 have h37 : 37 ∉ w := fun hm => by
  have := hw 37 hm
  unfold isWord at this
  exact absurd this (by decide)
 have hwn : w0.toNat ≠ 45 ∧ w0.toNat ≠ 43 ∧ w0.toNat ≠ 32 ∧ w0.toNat ≠ 64 := by unfold isWord at hw0; omega
 have hen : (Utf8.encode (w0.toNat : Int)).size ≤ 4 := encode_size_le _
 refine ⟨(Utf8.encode (w0.toNat : Int)).data.toList ++ [39, 32, 105, 110, 58, 32] ++ w, Ev.succ ?_⟩
 simp only [PL1, p_PatchFromText.l1]
 rw [hir, tail_cut, bt_head]
 simp only [B_size, List.length_cons]
 refine Ev.if_pos (by omega) (Ev.if_pos (by omega) (Ev.if_pos (by omega) (Ev.if_pos (by omega) (Ev.if_pos (by omega) ?_))))
 refine Ev.bind (ev_replace _ (by omega)) (Ev.bind (unescape_plain _ h37 (by omega)) ?_)
 refine Ev.if_neg (by omega) (Ev.if_neg (by omega) (Ev.if_neg (by omega) (Ev.if_neg (by omega) (Ev.if_pos (by rw [B_size]; omega) ?_))))
 have e : (B ([73, 110, 118, 97, 108, 105, 100, 32, 112, 97, 116, 99, 104, 32, 109, 111, 100, 101, 32, 39] ++ ((Utf8.encode (w0.toNat : Int)).data.toList ++ [39, 32, 105, 110, 58, 32] ++ w))) = (((⟨#[73, 110, 118, 97, 108, 105, 100, 32, 112, 97, 116, 99, 104, 32, 109, 111, 100, 101, 32, 39]⟩ : ByteArray) ++ (Utf8.encode (w0.toNat : Int))) ++ (⟨#[39, 32, 105, 110, 58, 32]⟩ : ByteArray)) ++ B w := by
  exact B_app3 _ _ _ _
 rw [e]
 exact Ev.const _
def gapsL (e : Bool) : List Bs := if e then [[]] else []
def lsE (e : Bool) (ls : List Bs) : List Bs := ls.flatMap fun l => l :: gapsL e
def allLines (ps : List S42) : List Bs := ps.flatMap linesL
theorem block_lines (e : Bool) (ls : List Bs) : blockL e ls = (lsE e ls).flatMap (fun l => l ++ [10]) := by
 induction ls with
 | nil => rfl
 | cons l ls ih =>
  simp only [blockL, lsE, List.flatMap_cons] at ih ⊢
  rw [ih]
  cases e <;> simp [gapL, gapsL, List.flatMap_append]
theorem text_lines (e : Bool) (ps : List S42) : textL e ps = (lsE e (allLines ps)).flatMap (fun l => l ++ [10]) := by
 rw [← block_lines]
 induction ps with
 | nil => rfl
 | cons p ps ih =>
  simp only [textL, allLines, List.flatMap_cons] at ih ⊢
  rw [ih]
  simp [blockL]
theorem esc10 : (List.range 256).all (fun c => !((escB (UInt8.ofNat c)).contains 10)) = true := by kernel_rfl
theorem escB_no (c : UInt8) : 10 ∉ escB c := by
 have h := List.all_eq_true.1 esc10 c.toNat (List.mem_range.2 (UInt8.toNat_lt c))
 rw [UInt8.ofNat_toNat] at h
 intro hm
 rw [List.contains_iff_mem.2 hm] at h
 cases h
theorem span_no (s l : Nat) : 10 ∉ span s l := by
 intro hm
 have hdd : ∀ n, 10 ∉ dec n := fun n hn => absurd (dec_digs n 10 hn).1 (by decide)
 rw [span_eq] at hm
 rcases List.mem_append.1 hm with hm | hm
 ·exact hdd _ hm
 ·unfold ft at hm
  split at hm
  ·cases hm
  ·rcases List.mem_cons.1 hm with hm | hm
   ·exact absurd hm (by decide)
   ·exact hdd _ hm
theorem lines_no (p : S42) : ∀ l ∈ linesL p, 10 ∉ l := by
 intro l hl
 simp only [linesL, List.mem_cons, List.mem_map] at hl
 rcases hl with rfl | ⟨d, hd, rfl⟩
 ·have h1 := span_no p.f0.toNat p.f2.toNat
  have h2 := span_no p.f1.toNat p.f3.toNat
  simp [hdrL, h1, h2]
 ·intro hm
  rcases List.mem_cons.1 hm with hm | hm
  ·unfold signB at hm
   split at hm
   ·exact absurd hm (by decide)
   ·split at hm <;> exact absurd hm (by decide)
  ·obtain ⟨c, _, hc⟩ := List.mem_flatMap.1 hm
   exact escB_no c hc
theorem lsE_no (e : Bool) (ps : List S42) : ∀ l ∈ lsE e (allLines ps), 10 ∉ l := by
 intro l hl
 obtain ⟨m, hm, hl⟩ := List.mem_flatMap.1 hl
 obtain ⟨p, _, hm⟩ := List.mem_flatMap.1 hm
 rcases List.mem_cons.1 hl with rfl | hl
 ·exact lines_no p _ hm
 ·unfold gapsL at hl
  split at hl
  ·rw [List.mem_singleton.1 hl]; simp
  ·cases hl
def toG (d : S75) : S93 := ⟨d.f0, d.f1⟩
def conv (p : S42) : S67 := ⟨p.f4.map toG, p.f0, p.f1, p.f2, p.f3⟩
theorem gaps_steps (L : List ByteArray) (hL : L.length ≤ 1000000) (r : List S67 × Option ByteArray) (e : Bool) (x6 : List S67) (i : Nat) (acc : List S93) (a b c d : Int) (T : List ByteArray) (hi : L.drop i = (gapsL e).map B ++ T)
  (h : ∀ i', L.drop i' = T → Ev (fun k => PL1 k x6 L (i' : Int) acc a b c d) r) : Ev (fun k => PL1 k x6 L (i : Int) acc a b c d) r := by
 cases e with
 | false => exact h i hi
 | true =>
  obtain ⟨h1, h2⟩ := at_of (show L.drop i = B [] :: T from hi)
  exact gap_step L hL r x6 i acc a b c d h1 (h (i + 1) h2)
theorem diffs_steps (L : List ByteArray) (hL : L.length ≤ 1000000) (r : List S67 × Option ByteArray) (e : Bool) (x6 : List S67) (a b c d : Int) (T : List ByteArray) : ∀ (ds : List S75) (i : Nat) (acc : List S93), (∀ x ∈ ds, okDiff x = true) → acc.length + ds.length ≤ 100 → L.drop i = (lsE e (ds.map lineL)).map B ++ T →
  (∀ i', L.drop i' = T → Ev (fun k => PL1 k x6 L (i' : Int) (acc ++ ds.map toG) a b c d) r) → Ev (fun k => PL1 k x6 L (i : Int) acc a b c d) r
 | [], i, acc, hd, ha, hi, h => by simpa using h i hi
 | x :: ds, i, acc, hd, ha, hi, h => by
  have hl : (x :: ds).length = ds.length + 1 := rfl
  have hi' : L.drop i = B (lineL x) :: ((gapsL e).map B ++ ((lsE e (ds.map lineL)).map B ++ T)) := by
   rw [hi]; simp [lsE]
  obtain ⟨h1, h2⟩ := at_of hi'
  refine diff_step L hL r x6 i acc a b c d x (hd x List.mem_cons_self) h1 (by omega) ?_
  refine gaps_steps L hL r e x6 (i + 1) _ a b c d _ h2 fun i' h3 => ?_
  refine diffs_steps L hL r e x6 a b c d T ds i' _ (fun y hy => hd y (List.mem_cons_of_mem _ hy)) (by rw [List.length_append]; simp only [List.length_cons, List.length_nil]; omega) h3 fun i'' h4 => ?_
  simpa [toG] using h i'' h4
theorem piece_steps (L : List ByteArray) (hL : L.length ≤ 1000000) (r : List S67 × Option ByteArray) (e : Bool) (x6 : List S67) (i : Nat) (p : S42) (hp : okPiece p = true) (T : List ByteArray) (hi : L.drop i = (lsE e (linesL p)).map B ++ T)
  (h : ∀ i', L.drop i' = T → Ev (fun k => PL1 k x6 L (i' : Int) (p.f4.map toG) p.f0 p.f1 p.f2 p.f3) r) : Ev (fun k => PL0 k x6 L (i : Int)) r := by
 obtain ⟨h0, h1, h2, h3, h4, h5, h6⟩ := okPiece_facts hp
 have hi' : L.drop i = B (hdrL p) :: ((gapsL e).map B ++ ((lsE e (p.f4.map lineL)).map B ++ T)) := by
  rw [hi]; simp [lsE, linesL]
 obtain ⟨g1, g2⟩ := at_of hi'
 refine hdr_step L hL r x6 i p hp g1 ?_
 refine gaps_steps L hL r e x6 (i + 1) [] _ _ _ _ _ g2 fun i' g3 => ?_
 refine diffs_steps L hL r e x6 _ _ _ _ T p.f4 i' [] h5 (by simp; omega) g3 fun i'' g4 => ?_
 simpa using h i'' g4
theorem pieces_steps (L : List ByteArray) (hL : L.length ≤ 1000000) (r : List S67 × Option ByteArray) (e : Bool) (q : S42) (T : List ByteArray) : ∀ (ps : List S42) (x6 : List S67) (i : Nat), (∀ p ∈ ps ++ [q], okPiece p = true) → x6.length + ps.length ≤ 100 → L.drop i = (lsE e (allLines (ps ++ [q]))).map B ++ T →
  (∀ i', L.drop i' = T → Ev (fun k => PL1 k (x6 ++ ps.map conv) L (i' : Int) (q.f4.map toG) q.f0 q.f1 q.f2 q.f3) r) → Ev (fun k => PL0 k x6 L (i : Int)) r
 | [], x6, i, hp, hx, hi, h => by
  refine piece_steps L hL r e x6 i q (hp q (by simp)) T (by rw [hi]; simp [allLines]) fun i' h1 => ?_
  simpa using h i' h1
 | p :: ps, x6, i, hp, hx, hi, h => by
  have hl : (p :: ps).length = ps.length + 1 := rfl
  have hi' : L.drop i = (lsE e (linesL p)).map B ++ ((lsE e (allLines (ps ++ [q]))).map B ++ T) := by
   rw [hi]; simp [lsE, allLines]
  refine piece_steps L hL r e x6 i p (hp p (by simp)) _ hi' fun i' h1 => ?_
  obtain ⟨n, ns, en, hn⟩ : ∃ n ns, ps ++ [q] = n :: ns ∧ okPiece n = true := by
   cases ps with
   | nil => exact ⟨q, [], rfl, hp q (by simp)⟩
   | cons n ns => exact ⟨n, ns ++ [q], rfl, hp n (by simp)⟩
  have h1' : L.drop i' = B (hdrL n) :: ((gapsL e).map B ++ ((lsE e (n.f4.map lineL ++ allLines ns)).map B ++ T)) := by
   rw [h1, en]; simp [lsE, allLines, linesL]
  obtain ⟨g1, g2⟩ := at_of h1'
  refine next_step L hL r x6 i' _ _ _ _ _ n hn g1 (by omega) ?_
  refine pieces_steps L hL r e q T ps _ i' (fun y hy => hp y (List.mem_cons_of_mem _ hy)) (by rw [List.length_append]; simp only [List.length_cons, List.length_nil]; omega) h1 fun i'' h2 => ?_
  simpa [conv] using h i'' h2
def bkD (d : S93) : S70 := ⟨wrap64 d.f0, d.f1⟩
def bkP (p : S67) : S33 := ⟨p.f1, p.f2, p.f3, p.f4, p.f0.map bkD⟩
theorem ev_back (l : List S93) (hl : l.length ≤ 1000) : Ev (fun k => impl_back.f k l) (l.map bkD) := by
 have := fold_loop0 (fun k s i => impl_back.l0 k s l (l.length : Int) i) l (fun s x => s ++ [bkD x]) (fun i s => s.length = i) id [] rfl
  (fun i hi s hs => by simp [hs]) ?_ ?_
 ·rw [foldl_snoc] at this
  exact this
 ·intro s hs
  exact Ev.succ ⟨0, fun k _ => by simp only [impl_back.l0]; rw [if_neg (by omega)]; rfl⟩
 ·intro i hi s r hs hr
  refine Ev.succ ?_
  simp only [impl_back.l0]
  refine Ev.if_pos (by omega) (Ev.if_pos (by omega) (Ev.if_pos (by omega) (Ev.if_pos (by omega) ?_)))
  rw [w64s i (by omega)]
  simp only [rd_T93, getD_nat _ _ i hi]
  exact hr
theorem ev_bps (l : List S67) (hl : l.length ≤ 1000) (hd : ∀ p ∈ l, p.f0.length ≤ 1000) : Ev (fun k => bps.f k l) (l.map bkP) := by
 have := fold_loop0 (fun k s i => bps.l0 k s l (l.length : Int) i) l (fun s x => s ++ [bkP x]) (fun i s => s.length = i) id [] rfl
  (fun i hi s hs => by simp [hs]) ?_ ?_
 ·rw [foldl_snoc] at this
  exact this
 ·intro s hs
  exact Ev.succ ⟨0, fun k _ => by simp only [bps.l0]; rw [if_neg (by omega)]; rfl⟩
 ·intro i hi s r hs hr
  refine Ev.succ ?_
  simp only [bps.l0]
  refine Ev.if_pos (by omega) (Ev.if_pos (by omega) (Ev.if_pos (by omega) ?_))
  rw [w64s i (by omega)]
  simp only [rd_T67, getD_nat _ _ i hi]
  refine Ev.bind (a := (l[i].f1, l[i].f2, l[i].f3, l[i].f4, l[i].f0.map bkD)) ?_ (Ev.if_pos (by omega) hr)
  simp only [bp.f]
  exact Ev.bind (ev_back _ (hd _ (List.getElem_mem hi))) (Ev.const _)
theorem ev_pft (t : Bs) (ht : t ≠ []) (L : List ByteArray) (r : List S67 × Option ByteArray) (hs : Ev (fun k => q_zzSplit.l1 k (B t) (B [10]) []) L) (h : Ev (fun k => PL0 k [] L ((0 : Nat) : Int)) r) :
  Ev (fun k => p_PatchFromText.f k 0 (B t)) r := by
 simp only [p_PatchFromText.f, Option.bind_some, B_size]
 refine Ev.if_neg (fun h0 => ht (List.length_eq_zero_iff.1 (by omega))) (Ev.bind (ev_split hs) h)
theorem ev_pread (t : Bs) (ps : List S67) (er : Option ByteArray) (bs : List S33) (h1 : Ev (fun k => p_PatchFromText.f k 0 (B t)) (ps, er)) (h2 : Ev (fun k => bps.f k ps) bs) :
  Ev (fun k => pread.f k (B t)) (bs, er.getD ⟨#[]⟩) := by
 simp only [pread.f]
 exact Ev.bind h1 (Ev.bind h2 (Ev.const _))
def noString : Bs := [73, 110, 118, 97, 108, 105, 100, 32, 112, 97, 116, 99, 104, 32, 115, 116, 114, 105, 110, 103, 58, 32]
def noMode : Bs := [73, 110, 118, 97, 108, 105, 100, 32, 112, 97, 116, 99, 104, 32, 109, 111, 100, 101, 32, 39]
theorem word_no (w : Bs) (hw : ∀ c ∈ w, isWord c) : 10 ∉ w := fun h => by
 have := hw 10 h
 unfold isWord at this
 exact absurd this (by decide)
theorem read_word (w0 : UInt8) (w X : Bs) (hw : ∀ c ∈ w0 :: w, isWord c) (hl : w.length ≤ 100) (hX : X.length ≤ 100000000) : Ev (fun k => pread.f k (B ((w0 :: w) ++ 10 :: X))) ([], B (noString ++ (w0 :: w))) := by
 have hla : ((w0 :: w) ++ 10 :: X).length = w.length + 1 + (X.length + 1) := by simp; omega
 obtain ⟨R, hR⟩ := split_any X.length X (Nat.le_refl _) [B (w0 :: w)] (by omega) (by simp only [List.length_cons, List.length_nil]; omega)
 have hs := split_cons (w0 :: w) X [] _ (by omega) (by simp) (word_no _ hw) hR
 refine ev_pread _ [] (some (B (noString ++ (w0 :: w)))) [] (ev_pft _ (by simp) _ _ hs ?_) (ev_bps [] (by simp) (by simp))
 refine nohdr_step _ [] 0 (w0 :: w) ⟨by simp, rfl⟩ ?_ (by simp; omega)
 intro he
 have h0 := hw w0 List.mem_cons_self
 rw [List.take_succ_cons] at he
 have := (List.cons.inj he).1
 subst this
 unfold isWord at h0
 exact absurd h0 (by decide)
theorem lsE_len (e : Bool) (ls : List Bs) : (lsE e ls).length ≤ 2 * ls.length := by
 induction ls with
 | nil => simp [lsE]
 | cons l ls ih =>
  have hg : (gapsL e).length ≤ 1 := by unfold gapsL; split <;> simp
  simp only [lsE, List.flatMap_cons, List.length_append, List.length_cons] at ih ⊢
  omega
theorem allLines_len : ∀ ps : List S42, (∀ p ∈ ps, okPiece p = true) → (allLines ps).length ≤ 9 * ps.length ∧ (textL true ps).length ≤ 1107 * ps.length ∧ (textL false ps).length ≤ 1107 * ps.length
 | [], _ => by simp [allLines, textL]
 | p :: ps, h => by
  have ih := allLines_len ps (fun q hq => h q (List.mem_cons_of_mem _ hq))
  have h1 := linesL_len p (h p List.mem_cons_self)
  have h2 := block_len true _ h1.2
  have h3 := block_len false _ h1.2
  simp only [allLines, textL, List.flatMap_cons, List.length_append, List.length_cons] at ih ⊢
  omega
theorem read_mode (ps : List S42) (q : S42) (qs : List S42) (w0 : UInt8) (w : Bs) (hp : ∀ p ∈ (ps ++ [q]) ++ qs, okPiece p = true) (hn : ((ps ++ [q]) ++ qs).length ≤ 8) (hw : ∀ c ∈ w0 :: w, isWord c) (hl : w.length ≤ 100) :
  ∃ bs m, Ev (fun k => pread.f k (B ((textL false (ps ++ [q]) ++ (w0 :: w)) ++ 10 :: textL false qs))) (bs, B (noMode ++ m)) := by
 have hp1 : ∀ p ∈ ps ++ [q], okPiece p = true := fun p h => hp p (List.mem_append_left _ h)
 have hp2 : ∀ p ∈ qs, okPiece p = true := fun p h => hp p (List.mem_append_right _ h)
 have hn' : ps.length + 1 + qs.length ≤ 8 := by simp at hn; omega
 have a1 := allLines_len _ hp1
 have a2 := allLines_len _ hp2
 have b1 := lsE_len false (allLines (ps ++ [q]))
 have b2 := lsE_len false (allLines qs)
 have hll : (ps ++ [q]).length = ps.length + 1 := by simp
 let ls := lsE false (allLines (ps ++ [q])) ++ (w0 :: w) :: lsE false (allLines qs)
 have hls : ls.length = (lsE false (allLines (ps ++ [q]))).length + ((lsE false (allLines qs)).length + 1) := by simp [ls]
 have et : ((textL false (ps ++ [q]) ++ (w0 :: w)) ++ 10 :: textL false qs) = ls.flatMap (fun l => l ++ [10]) ++ [] := by
  rw [text_lines, text_lines]; simp [ls]
 have hlen : ((textL false (ps ++ [q]) ++ (w0 :: w)) ++ 10 :: textL false qs).length ≤ 100000 := by
  simp only [List.length_append, List.length_cons]
  omega
 have hs : Ev (fun k => q_zzSplit.l1 k (B ((textL false (ps ++ [q]) ++ (w0 :: w)) ++ 10 :: textL false qs)) (B [10]) []) (ls.map B ++ [B []]) := by
  rw [et] at hlen ⊢
  refine split_lines ls [] [] _ (by omega) (by simp only [List.length_nil]; omega) ?_ ?_
  ·intro l hl
   rcases List.mem_append.1 hl with hl | hl
   ·exact lsE_no false _ l hl
   ·rcases List.mem_cons.1 hl with rfl | hl
    ·exact word_no _ hw
    ·exact lsE_no false _ l hl
  ·have := split_last [] ([] ++ ls.map B) (by simp) (by simp; omega) (by simp)
   simpa using this
 have hL : (ls.map B ++ [B []]).length ≤ 1000000 := by simp; omega
 have hw0 := hw w0 List.mem_cons_self
 have hws : ∀ c ∈ w, isWord c := fun c hc => hw c (List.mem_cons_of_mem _ hc)
 have hpar : ∃ m, Ev (fun k => PL0 k [] (ls.map B ++ [B []]) ((0 : Nat) : Int)) (ps.map conv, some (B (noMode ++ m))) := by
  have hdrop : (ls.map B ++ [B []]).drop 0 = (lsE false (allLines (ps ++ [q]))).map B ++ (B (w0 :: w) :: ((lsE false (allLines qs)).map B ++ [B []])) := by simp [ls]
  let n := (lsE false (allLines (ps ++ [q]))).length
  have hAt : At (ls.map B ++ [B []]) n (w0 :: w) := by
   refine (at_of (t := (lsE false (allLines qs)).map B ++ [B []]) ?_).1
   rw [show ls.map B ++ [B []] = (lsE false (allLines (ps ++ [q]))).map B ++ (B (w0 :: w) :: ((lsE false (allLines qs)).map B ++ [B []])) from hdrop]
   rw [List.drop_left' (by simp [n])]
  obtain ⟨m, hm⟩ := mode_step (ls.map B ++ [B []]) hL (ps.map conv) n (q.f4.map toG) q.f0 q.f1 q.f2 q.f3 w0 w hw0 hws hl hAt
  refine ⟨m, ?_⟩
  refine pieces_steps _ hL _ false q _ ps [] 0 hp1 (by simp; omega) hdrop fun i' hi' => ?_
  have hin : i' = n := by
   have h1 := congrArg List.length hi'
   have h2 := congrArg List.length hdrop
   simp only [List.length_drop, List.length_append, List.length_cons, List.length_map, List.length_nil] at h1 h2
   have : i' < (ls.map B ++ [B []]).length := by
    rcases Nat.lt_or_ge i' (ls.map B ++ [B []]).length with h' | h'
    ·exact h'
    ·rw [List.drop_eq_nil_of_le h'] at hi'; cases hi'
   simp only [List.length_append, List.length_cons, List.length_map, List.length_nil] at this
   omega
  subst hin
  rw [List.nil_append]
  exact hm
 obtain ⟨m, hm⟩ := hpar
 have hb : Ev (fun k => bps.f k (ps.map conv)) ((ps.map conv).map bkP) := by
  refine ev_bps _ (by simp; omega) fun x hx => ?_
  obtain ⟨p, hpm, rfl⟩ := List.mem_map.1 hx
  have := (okPiece_facts (hp1 p (List.mem_append_left _ hpm))).2.2.2.2.2.2
  simp [conv]; omega
 exact ⟨_, m, ev_pread _ _ (some (B (noMode ++ m))) _ (ev_pft _ (by simp) _ _ hs hm) hb⟩
theorem cell_take {cur : Array Value} {l : List Value} {n i : Nat} {v : Value} (h : cur.toList.take n = l) (e : l[i]? = some v) : cur[i]? = some v := by
 rw [← h, List.getElem?_take] at e
 split at e
 ·simpa using e
 ·cases e
theorem take_cells {cur : Array Value} {l : List Value} {n : Nat} (hl : l.length = n) (h : ∀ i, i < n → cur[i]? = l[i]?) : cur.toList.take n = l := by
 apply List.ext_getElem?
 intro i
 rw [List.getElem?_take]
 split
 ·rename_i hi
  rw [← h i hi]; simp
 ·rename_i hi
  rw [List.getElem?_eq_none (by omega)]
def aw1 : List S67 := [⟨[⟨0, ⟨#[97, 98]⟩⟩, ⟨1, ⟨#[120]⟩⟩, ⟨0, ⟨#[99]⟩⟩], 0, 0, 3, 4⟩]
def aw2 : List S67 := [⟨[⟨0, ⟨#[3, 4, 97, 98]⟩⟩, ⟨1, ⟨#[120]⟩⟩, ⟨0, ⟨#[99, 1, 2, 3]⟩⟩], 2, 2, 8, 9⟩]
theorem pad_s1 : (((⟨#[]⟩ : ByteArray) ++ ⟨#[1]⟩ ++ ⟨#[2]⟩ ++ ⟨#[3]⟩ ++ ⟨#[4]⟩).extract 2 4 ++ ⟨#[97, 98]⟩) = ⟨#[3, 4, 97, 98]⟩ := by decide
theorem pad_s2 : ((⟨#[99]⟩ : ByteArray) ++ ((⟨#[]⟩ : ByteArray) ++ ⟨#[1]⟩ ++ ⟨#[2]⟩ ++ ⟨#[3]⟩ ++ ⟨#[4]⟩).extract 0 3) = ⟨#[99, 1, 2, 3]⟩ := by decide
theorem reps_one {α : Type} {R : α → List Value → Prop} {n : Nat} {p : α} {cs : List Value} (h : R p cs) (hl : cs.length = n) : Reps R n [p] cs := by
 have := (Reps.none R n).snoc h hl
 simpa using this
theorem pad_R (a0 : Nat) (w0 w : World) (P : Nat → Prop) (v : Value) (hd : DmpAt w a0) (hb : Below w0.heap.size w0 w) (h : Kd.R k67 67 w w0.heap.size P v aw1) :
  Calls Tryz.prog 55 #[.pointer (some ⟨a0, 0, none⟩), v] w fun e w' => e = .returned (.string ⟨#[1, 2, 3, 4]⟩) ∧ Kd.R k67 67 w' w0.heap.size P v aw2 ∧ Below w0.heap.size w0 w' := by
 obtain ⟨hok, inner, ⟨hlen, ⟨_, h0⟩ | ⟨g1, cap, cur, rfl, hbase, hcur, hn, hmax, hsz, htake⟩⟩, hr⟩ := h
 ·simp [aw1] at h0
 have hM := hr.2 0 _ rfl
 obtain ⟨v0, hv0, hR2⟩ := k67_openM hM
 have hin : inner = [v0, .int .i64 0, .int .i64 0, .int .i64 3, .int .i64 4] := by
  have : inner.length = 5 := hlen
  rw [← hv0]
  show inner = (inner.drop 0).take 5
  rw [List.drop_zero, List.take_of_length_le (by omega)]
 obtain ⟨hok2, inner2, ⟨hlen2, ⟨_, h02⟩ | ⟨g2, cap2, cur2, rfl, hbase2, hcur2, hn2, hmax2, hsz2, htake2⟩⟩, hr2⟩ := hR2
 ·simp [aw1] at h02
 have hA := k93_openM (hr2.2 0 _ rfl)
 have hB := k93_openM (hr2.2 1 _ rfl)
 have hC := k93_openM (hr2.2 2 _ rfl)
 have hin2 : inner2 = [.int .i8 0, .string ⟨#[97, 98]⟩, .int .i8 1, .string ⟨#[120]⟩, .int .i8 0, .string ⟨#[99]⟩] := by
  have h6 : inner2.length = 6 := hlen2
  have e : inner2 = (inner2.drop 0).take 2 ++ ((inner2.drop 2).take 2 ++ (inner2.drop 4).take 2) := by
   match inner2, h6 with
   | [_, _, _, _, _, _], _ => rfl
  have hA' : (inner2.drop 0).take 2 = [.int .i8 0, .string ⟨#[97, 98]⟩] := hA
  have hB' : (inner2.drop 2).take 2 = [.int .i8 1, .string ⟨#[120]⟩] := hB
  have hC' : (inner2.drop 4).take 2 = [.int .i8 0, .string ⟨#[99]⟩] := hC
  rw [e, hA', hB', hC']
  rfl
 subst hin
 subst hin2
 have ht : cur.toList.take 5 = [.slice (some ⟨g2, 0, none⟩) 3 cap2, .int .i64 0, .int .i64 0, .int .i64 3, .int .i64 4] := htake
 have ht2 : cur2.toList.take 6 = [.int .i8 0, .string ⟨#[97, 98]⟩, .int .i8 1, .string ⟨#[120]⟩, .int .i8 0, .string ⟨#[99]⟩] := htake2
 refine (pad_calls a0 g1 g2 cap cap2 cur cur2 w hd hcur hcur2 (cell_take ht rfl) (cell_take ht rfl) (cell_take ht rfl) (cell_take ht rfl) (cell_take ht rfl) (cell_take ht2 rfl) (cell_take ht2 rfl) (cell_take ht2 rfl) (cell_take ht2 rfl)).mono ?_
 rintro e w' ⟨he, T1, T2, hB'⟩
 refine ⟨he, ?_, hB' _ _ hb hbase hbase2⟩
 have k0 : cur[0]? = some (.slice (some ⟨g2, 0, none⟩) 3 cap2) := cell_take ht rfl
 have k1 : cur[1]? = some (.int .i64 0) := cell_take ht rfl
 have k2 : cur[2]? = some (.int .i64 0) := cell_take ht rfl
 have k3 : cur[3]? = some (.int .i64 3) := cell_take ht rfl
 have k4 : cur[4]? = some (.int .i64 4) := cell_take ht rfl
 have l0 : cur2[0]? = some (.int .i8 0) := cell_take ht2 rfl
 have l1 : cur2[1]? = some (.string ⟨#[97, 98]⟩) := cell_take ht2 rfl
 have l2 : cur2[2]? = some (.int .i8 1) := cell_take ht2 rfl
 have l3 : cur2[3]? = some (.string ⟨#[120]⟩) := cell_take ht2 rfl
 have l4 : cur2[4]? = some (.int .i8 0) := cell_take ht2 rfl
 have l5 : cur2[5]? = some (.string ⟨#[99]⟩) := cell_take ht2 rfl
 have m0 : (padC1 cur)[0]? = some (.slice (some ⟨g2, 0, none⟩) 3 cap2) := by unfold padC1; exact set_other (by decide) (set_other (by decide) (set_other (by decide) (set_other (by decide) (set_other (by decide) (set_other (by decide) (set_other (by decide) (set_other (by decide) (k0))))))))
 have m1 : (padC1 cur)[1]? = some (.int .i64 2) := by unfold padC1; exact set_other (by decide) (set_other (by decide) (set_other (by decide) (set_other (by decide) (set_other (by decide) (set_same (set_other (by decide) (set_same k1)))))))
 have m2 : (padC1 cur)[2]? = some (.int .i64 2) := by unfold padC1; exact set_other (by decide) (set_other (by decide) (set_other (by decide) (set_other (by decide) (set_same (set_other (by decide) (set_same (set_other (by decide) k2)))))))
 have m3 : (padC1 cur)[3]? = some (.int .i64 8) := by unfold padC1; refine set_other (by decide) ?_; exact set_same (set_other (by decide) (set_same (set_other (by decide) (set_other (by decide) (set_other (by decide) (set_other (by decide) k3))))))
 have m4 : (padC1 cur)[4]? = some (.int .i64 9) := by unfold padC1; exact set_same (set_other (by decide) (set_same (set_other (by decide) (set_other (by decide) (set_other (by decide) (set_other (by decide) (set_other (by decide) k4)))))))
 have n0 : (padC2 cur2)[0]? = some (.int .i8 0) := by unfold padC2; rw [pad_s1, pad_s2]; exact set_other (by decide) (set_other (by decide) l0)
 have n1 : (padC2 cur2)[1]? = some (.string ⟨#[3, 4, 97, 98]⟩) := by unfold padC2; rw [pad_s1, pad_s2]; exact set_other (by decide) (set_same l1)
 have n2 : (padC2 cur2)[2]? = some (.int .i8 1) := by unfold padC2; rw [pad_s1, pad_s2]; exact set_other (by decide) (set_other (by decide) l2)
 have n3 : (padC2 cur2)[3]? = some (.string ⟨#[120]⟩) := by unfold padC2; rw [pad_s1, pad_s2]; exact set_other (by decide) (set_other (by decide) l3)
 have n4 : (padC2 cur2)[4]? = some (.int .i8 0) := by unfold padC2; rw [pad_s1, pad_s2]; exact set_other (by decide) (set_other (by decide) l4)
 have n5 : (padC2 cur2)[5]? = some (.string ⟨#[99, 1, 2, 3]⟩) := by unfold padC2; rw [pad_s1, pad_s2]; exact set_same (set_other (by decide) l5)
 have s1 : (padC1 cur).size = cap * 5 := by simp [padC1]; exact hsz
 have s2 : (padC2 cur2).size = cap2 * 2 := by simp [padC2]; exact hsz2
 have t1 : (padC1 cur).toList.take 5 = [.slice (some ⟨g2, 0, none⟩) 3 cap2, .int .i64 2, .int .i64 2, .int .i64 8, .int .i64 9] := take_cells rfl (fun i hi => by
  match i, hi with
  | 0, _ => exact m0
  | 1, _ => exact m1
  | 2, _ => exact m2
  | 3, _ => exact m3
  | 4, _ => exact m4)
 have t2 : (padC2 cur2).toList.take 6 = [.int .i8 0, .string ⟨#[3, 4, 97, 98]⟩, .int .i8 1, .string ⟨#[120]⟩, .int .i8 0, .string ⟨#[99, 1, 2, 3]⟩] := take_cells rfl (fun i hi => by
  match i, hi with
  | 0, _ => exact n0
  | 1, _ => exact n1
  | 2, _ => exact n2
  | 3, _ => exact n3
  | 4, _ => exact n4
  | 5, _ => exact n5)
 refine ⟨hok, _, ⟨rfl, Or.inr ⟨g1, cap, _, rfl, hbase, T1, hn, hmax, s1, t1⟩⟩, reps_one (k67_mkM _ _ _ (⟨[⟨0, ⟨#[3, 4, 97, 98]⟩⟩, ⟨1, ⟨#[120]⟩⟩, ⟨0, ⟨#[99, 1, 2, 3]⟩⟩], 2, 2, 8, 9⟩ : S67) ?_) rfl⟩
 refine ⟨hok2, _, ⟨rfl, Or.inr ⟨g2, cap2, _, rfl, hbase2, T2, hn2, hmax2, s2, t2⟩⟩, ?_⟩
 exact (((Reps.none _ _).snoc (k93_mkM _ _ _ (⟨0, ⟨#[3, 4, 97, 98]⟩⟩ : S93)) rfl).snoc (k93_mkM _ _ _ (⟨1, ⟨#[120]⟩⟩ : S93)) rfl).snoc (k93_mkM _ _ _ (⟨0, ⟨#[99, 1, 2, 3]⟩⟩ : S93)) rfl
def pad93 (x : S93) (t : Int) (l : List UInt8) : Bool := x.f0 == t && x.f1.data.toList == l
def padb : List S67 → Bool
 | [p] => (p.f1 == 0 && p.f2 == 0 && p.f3 == 3 && p.f4 == 4) && (match p.f0 with
  | [a, b, c] => pad93 a 0 [97, 98] && pad93 b 1 [120] && pad93 c 0 [99]
  | _ => false)
 | _ => false
def padf (l : List S67) : Option (ByteArray × List S67) := if padb l = true then some (⟨#[1, 2, 3, 4]⟩, aw2) else none
theorem pad93_eq {x : S93} {t : Int} {l : List UInt8} (h : pad93 x t l = true) : x = ⟨t, ⟨⟨l⟩⟩⟩ := by
 obtain ⟨f0, ⟨⟨d⟩⟩⟩ := x
 simp only [pad93, Bool.and_eq_true, beq_iff_eq] at h
 obtain ⟨rfl, rfl⟩ := h
 rfl
theorem padb_eq {l : List S67} (h : padb l = true) : l = aw1 := by
 unfold padb at h
 split at h
 ·rename_i p
  simp only [Bool.and_eq_true, beq_iff_eq] at h
  obtain ⟨⟨⟨⟨h1, h2⟩, h3⟩, h4⟩, h⟩ := h
  obtain ⟨f0, f1, f2, f3, f4⟩ := p
  dsimp only at h1 h2 h3 h4 h
  subst h1 h2 h3 h4
  split at h
  ·simp only [Bool.and_eq_true] at h
   obtain ⟨⟨ha, hb⟩, hc⟩ := h
   rw [pad93_eq ha, pad93_eq hb, pad93_eq hc]
   rfl
  ·cases h
 ·cases h
theorem padf_eq {l l' : List S67} {r : ByteArray} (h : padf l = some (r, l')) : l = aw1 ∧ r = ⟨#[1, 2, 3, 4]⟩ ∧ l' = aw2 := by
 unfold padf at h
 split at h
 ·rename_i hb
  injection h with h
  injection h with h1 h2
  exact ⟨padb_eq hb, h1.symm, h2.symm⟩
 ·cases h
theorem padf_len {l l' : List S67} {r : ByteArray} (h : padf l = some (r, l')) : l.length = l'.length := by
 obtain ⟨rfl, _, rfl⟩ := padf_eq h
 rfl
theorem pad_f (a0 : Nat) (w0 w : World) (P : Nat → Prop) (v : Value) (l l' : List S67) (r : ByteArray) (hd : DmpAt w a0) (hb : Below w0.heap.size w0 w) (hR : Kd.R k67 67 w w0.heap.size P v l) (h : padf l = some (r, l')) :
  Calls Tryz.prog 55 #[.pointer (some ⟨a0, 0, none⟩), v] w fun e w' => e = .returned (.string r) ∧ Kd.R k67 67 w' w0.heap.size P v l' ∧ Below w0.heap.size w0 w' := by
 obtain ⟨rfl, rfl, rfl⟩ := padf_eq h
 exact pad_R a0 w0 w P v hd hb hR
def q_commonSuffixLength.l0 : Nat → List Int → List Int → Int → Int → Int → Option (Int)
 | 0, _, _, _, _, _ => none
 | k + 1, x0, x1, x5, x6, x7 => if (wrap64 (x5 - 1)) < 0 then (some x7) else (if (wrap64 (x6 - 1)) < 0 then (some x7) else (if 0 ≤ (wrap64 (x5 - 1)) then (if (wrap64 (x5 - 1)) < (x0.length : Int) then (if 0 ≤ (wrap64 (x6 - 1)) then (if (wrap64 (x6 - 1)) < (x1.length : Int) then (if (rd x0 (wrap64 (x5 - 1))) = (rd x1 (wrap64 (x6 - 1))) then (q_commonSuffixLength.l0 k x0 x1 (wrap64 (x5 - 1)) (wrap64 (x6 - 1)) (wrap64 (x7 + 1))) else (some x7)) else (none)) else (none)) else (none)) else (none)))
def q_commonSuffixLength.f (k : Nat) (l0 : List Int) (l1 : List Int) : Option (Int) := q_commonSuffixLength.l0 k l0 l1 (l0.length : Int) (l1.length : Int) 0
theorem q_commonSuffixLength.calls (k : Nat) (A0 : Option Addr) (c0 : Nat) (l0 : List Int) (A1 : Option Addr) (c1 : Nat) (l1 : List Int) (r : Int) (w : World) (hr0 : Kd.C (Kd.int .i32) w A0 l0.length l0) (hc0 : l0.length ≤ c0) (hr1 : Kd.C (Kd.int .i32) w A1 l1.length l1) (hc1 : l1.length ≤ c1) (h : q_commonSuffixLength.f k l0 l1 = some r) :
  Calls Tryz.prog 117 #[.slice A0 l0.length c0, .slice A1 l1.length c1] w fun e w' => e = .returned (.int .i64 r) ∧ Drawn0 w w' := by
 have HR0 := Aside0.mk hr0
 have HC0 := Aside0.mk hc0
 clear hr0 hc0
 have HR1 := Aside0.mk hr1
 have HC1 := Aside0.mk hc1
 clear hr1 hc1
 have H : (q_commonSuffixLength.l0 k l0 l1 (l0.length : Int) (l1.length : Int) 0) = some r := h
 clear h
 have H' := Aside0.mk H
 clear H
 go_enter Tryz.func117, Tryz.ntmps117
 go_wp2
 repeat (go_quiet (fail); try go_wp2)
 go_loopg [5, 6, 7] k (fun kq v5 v6 v7 w' => ∃ (x5_1 : Int) (x6_1 : Int) (x7_1 : Int), v5 = .int .i64 x5_1 ∧ v6 = .int .i64 x6_1 ∧ v7 = .int .i64 x7_1 ∧ Aside0 (q_commonSuffixLength.l0 kq l0 l1 x5_1 x6_1 x7_1 = some r) ∧ Aside0 (kq ≤ k) ∧ Drawn0 w w')
 case atStart => exact ⟨((l0.length : Int)), ((l1.length : Int)), (0), (by first | rfl | simp [*]), (by first | rfl | simp [*]), (by first | rfl | simp [*]), H', ⟨Nat.le_refl _⟩, by repeat (first | exact Drawn0.refl _ | apply Drawn0.step)⟩
 case round =>
  clear H'
  obtain ⟨x5_1, x6_1, x7_1, rfl, rfl, rfl, HA, HK1, ⟨m1, rfl⟩⟩ := hrel
  cases gk with
  | zero => exact absurd HA.out (by simp [q_commonSuffixLength.l0])
  | succ k1 =>
   have H := HA.out; clear HA
   simp only [q_commonSuffixLength.l0] at H
   by_cases c3 : (wrap64 (x5_1 - 1)) < 0
   ·rw [if_pos c3] at H
    have c3b0 := decide_eq_true c3
    clear c3
    obtain rfl := Option.some.inj H
    go_wp2
    repeat (go_quiet (fail); try go_wp2)
    go_ret
    exact ⟨by first | rfl | (simp; done) | (simp [*]; done), by repeat (first | exact Drawn0.refl _ | apply Drawn0.step)⟩
   ·rw [if_neg c3] at H
    have c3b0 := decide_eq_false c3
    clear c3
    by_cases c4 : (wrap64 (x6_1 - 1)) < 0
    ·rw [if_pos c4] at H
     have c4b0 := decide_eq_true c4
     clear c4
     obtain rfl := Option.some.inj H
     go_wp2
     repeat (go_quiet (fail); try go_wp2)
     go_ret
     exact ⟨by first | rfl | (simp; done) | (simp [*]; done), by repeat (first | exact Drawn0.refl _ | apply Drawn0.step)⟩
    ·rw [if_neg c4] at H
     have c4b0 := decide_eq_false c4
     clear c4
     obtain ⟨ji5, hji5⟩ : ∃ j_ : Int, (wrap64 (x5_1 - 1)) = j_ := ⟨_, rfl⟩
     first | rw [hji5] at H | simp only [hji5] at H
     (try rw [hji5] at c3b0)
     have hji5w : (IntKind.i64.wrap (x5_1 - 1)) = ji5 := (i64_w _).trans hji5
     replace H := yes_ H; obtain ⟨c6, H⟩ := H
     have c6b0 := decide_eq_true c6
     clear c6
     replace H := yes_ H; obtain ⟨c7, H⟩ := H
     have c7b0 := decide_eq_true c7
     clear c7
     obtain ⟨ji8, hji8⟩ : ∃ j_ : Int, (wrap64 (x6_1 - 1)) = j_ := ⟨_, rfl⟩
     first | rw [hji8] at H | simp only [hji8] at H
     (try rw [hji8] at c4b0)
     have hji8w : (IntKind.i64.wrap (x6_1 - 1)) = ji8 := (i64_w _).trans hji8
     replace H := yes_ H; obtain ⟨c9, H⟩ := H
     have c9b0 := decide_eq_true c9
     clear c9
     replace H := yes_ H; obtain ⟨c10, H⟩ := H
     have c10b0 := decide_eq_true c10
     clear c10
     by_cases c11 : (rd l0 (ji5)) = (rd l1 (ji8))
     ·rw [if_pos c11] at H
      have c11b0 := beq_iff_eq.mpr c11
      have c11b1 := bne_eq_false_iff_eq.mpr c11
      clear c11
      have H' := Aside0.mk H
      clear H
      have p232 : 0 ≤ ((ji5) : Int) := of_decide_eq_true (by assumption)
      have q232 : (ji5) < (l0.length : Int) := of_decide_eq_true (by assumption)
      obtain ⟨ad232, e232, hx232_0⟩ := Kd.at_int HR0.out (ji5) p232 q232
      cases e232
      replace p232 := eq_true p232
      replace q232 := eq_true q232
      have p233 : 0 ≤ ((ji8) : Int) := of_decide_eq_true (by assumption)
      have q233 : (ji8) < (l1.length : Int) := of_decide_eq_true (by assumption)
      obtain ⟨ad233, e233, hx233_0⟩ := Kd.at_int HR1.out (ji8) p233 q233
      cases e233
      replace p233 := eq_true p233
      replace q233 := eq_true q233
      go_wp2
      repeat (go_quiet (fail); try go_wp2)
      go_roundg k1
      case measure => have := HK1.out; omega
      case rel => exact ⟨(ji5), (ji8), (wrap64 (x7_1 + 1)), (by first | rfl | (simp; done) | (simp only [← hji5] <;> (first | rfl | simp)) | (simp [*]; done)), (by first | rfl | (simp; done) | (simp only [← hji8] <;> (first | rfl | simp)) | (simp [*]; done)), (by first | rfl | simp [*]), H', ⟨by have := HK1.out; omega⟩, by repeat (first | exact Drawn0.refl _ | apply Drawn0.step)⟩
     ·rw [if_neg c11] at H
      have c11b0 := beq_eq_false_iff_ne.mpr c11
      have c11b1 := bne_iff_ne.mpr c11
      obtain rfl := Option.some.inj H
      have p232 : 0 ≤ ((ji5) : Int) := of_decide_eq_true (by assumption)
      have q232 : (ji5) < (l0.length : Int) := of_decide_eq_true (by assumption)
      obtain ⟨ad232, e232, hx232_0⟩ := Kd.at_int HR0.out (ji5) p232 q232
      cases e232
      replace p232 := eq_true p232
      replace q232 := eq_true q232
      have p233 : 0 ≤ ((ji8) : Int) := of_decide_eq_true (by assumption)
      have q233 : (ji8) < (l1.length : Int) := of_decide_eq_true (by assumption)
      obtain ⟨ad233, e233, hx233_0⟩ := Kd.at_int HR1.out (ji8) p233 q233
      cases e233
      replace p233 := eq_true p233
      replace q233 := eq_true q233
      go_wp2
      repeat (go_quiet (fail); try go_wp2)
      go_ret
      exact ⟨by first | rfl | (simp; done) | (simp only [← hji5, ← hji8] <;> (first | rfl | simp)) | (simp [*]; done), by repeat (first | exact Drawn0.refl _ | apply Drawn0.step)⟩
mutual
def q_commonPrefixLength.l0 : Nat → List Int → List Int → Int → Option (Int)
 | 0, _, _, _ => none
 | k + 1, x0, x1, x5 => if x5 < (x0.length : Int) then (q_commonPrefixLength.j1 k x0 x1 x5 (decide (x5 < (x1.length : Int)))) else (q_commonPrefixLength.j1 k x0 x1 x5 false)
def q_commonPrefixLength.j1 : Nat → List Int → List Int → Int → Bool → Option (Int)
 | 0, _, _, _, _ => none
 | k + 1, x0, x1, x5, x15 => if x15 = true then (if 0 ≤ x5 then (if x5 < (x0.length : Int) then (if x5 < (x1.length : Int) then (if (rd x0 x5) = (rd x1 x5) then (q_commonPrefixLength.l0 k x0 x1 (wrap64 (x5 + 1))) else (some x5)) else (none)) else (none)) else (none)) else (some x5)
end
def q_commonPrefixLength.f (k : Nat) (l0 : List Int) (l1 : List Int) : Option (Int) := q_commonPrefixLength.l0 k l0 l1 0
theorem q_commonPrefixLength.calls (k : Nat) (A0 : Option Addr) (c0 : Nat) (l0 : List Int) (A1 : Option Addr) (c1 : Nat) (l1 : List Int) (r : Int) (w : World) (hr0 : Kd.C (Kd.int .i32) w A0 l0.length l0) (hc0 : l0.length ≤ c0) (hr1 : Kd.C (Kd.int .i32) w A1 l1.length l1) (hc1 : l1.length ≤ c1) (h : q_commonPrefixLength.f k l0 l1 = some r) :
  Calls Tryz.prog 124 #[.slice A0 l0.length c0, .slice A1 l1.length c1] w fun e w' => e = .returned (.int .i64 r) ∧ Drawn0 w w' := by
 have HR0 := Aside0.mk hr0
 have HC0 := Aside0.mk hc0
 clear hr0 hc0
 have HR1 := Aside0.mk hr1
 have HC1 := Aside0.mk hc1
 clear hr1 hc1
 have H : (q_commonPrefixLength.l0 k l0 l1 0) = some r := h
 clear h
 have H' := Aside0.mk H
 clear H
 go_enter Tryz.func124, Tryz.ntmps124
 go_wp2
 repeat (go_quiet (fail); try go_wp2)
 go_loopg [5] k (fun kq v5 w' => ∃ (x5_1 : Int), v5 = .int .i64 x5_1 ∧ Aside0 (q_commonPrefixLength.l0 kq l0 l1 x5_1 = some r) ∧ Aside0 (kq ≤ k) ∧ Drawn0 w w')
 case atStart => exact ⟨(0), (by first | rfl | simp [*]), H', ⟨Nat.le_refl _⟩, by repeat (first | exact Drawn0.refl _ | apply Drawn0.step)⟩
 case round =>
  clear H'
  obtain ⟨x5_1, rfl, HA, HK1, ⟨m1, rfl⟩⟩ := hrel
  cases gk with
  | zero => exact absurd HA.out (by simp [q_commonPrefixLength.l0])
  | succ k1 =>
   have H := HA.out; clear HA
   simp only [q_commonPrefixLength.l0] at H
   have HC3 := Aside0.mk H
   clear H
   go_upto_region 2 with (fail)
   repeat (go_quiet (fail); go_upto_region 2 with (fail))
   go_cut [15] (fun v15 wc => ∃ (kq : Nat) (x15_2 : Bool), v15 = .bool x15_2 ∧ Aside0 (q_commonPrefixLength.j1 kq l0 l1 x5_1 x15_2 = some r) ∧ Aside0 (kq ≤ k1) ∧ Drawn0 w wc)
   case first =>
    have H := HC3.out
    clear HC3
    by_cases c4 : x5_1 < (l0.length : Int)
    ·rw [if_pos c4] at H
     have c4b0 := decide_eq_true c4
     clear c4
     (first | rw [c4b0] | (simp only [i64_w]; rw [c4b0]) | skip)
     have H' := Aside0.mk H
     clear H
     go_wp2
     repeat (go_quiet (fail); try go_wp2)
     go_meet
     case rel => exact ⟨_, (decide (x5_1 < (l1.length : Int))), (by first | rfl | simp [*]), H', ⟨by have := HK1.out; first | omega | exact Nat.le_refl _⟩, by repeat (first | exact Drawn0.refl _ | apply Drawn0.step)⟩
    ·rw [if_neg c4] at H
     have c4b0 := decide_eq_false c4
     clear c4
     (first | rw [c4b0] | (simp only [i64_w]; rw [c4b0]) | skip)
     have H' := Aside0.mk H
     clear H
     go_wp2
     repeat (go_quiet (fail); try go_wp2)
     go_meet
     case rel => exact ⟨_, (false), (by first | rfl | simp [*]), H', ⟨by have := HK1.out; first | omega | exact Nat.le_refl _⟩, by repeat (first | exact Drawn0.refl _ | apply Drawn0.step)⟩
   case rest =>
    clear HC3
    obtain ⟨kq, x15_2, rfl, HA, HJ2, ⟨mc2, rfl⟩⟩ := hcut
    cases kq with
    | zero => exact absurd HA.out (by simp [q_commonPrefixLength.j1])
    | succ kj2 =>
     have H := HA.out; clear HA
     simp only [q_commonPrefixLength.j1] at H
     by_cases c5 : x15_2 = true
     ·subst c5
      rw [if_pos rfl] at H
      replace H := yes_ H; obtain ⟨c6, H⟩ := H
      have c6b0 := decide_eq_true c6
      clear c6
      replace H := yes_ H; obtain ⟨c7, H⟩ := H
      have c7b0 := decide_eq_true c7
      clear c7
      replace H := yes_ H; obtain ⟨c8, H⟩ := H
      have c8b0 := decide_eq_true c8
      clear c8
      by_cases c9 : (rd l0 x5_1) = (rd l1 x5_1)
      ·rw [if_pos c9] at H
       have c9b0 := beq_iff_eq.mpr c9
       have c9b1 := bne_eq_false_iff_eq.mpr c9
       clear c9
       have H' := Aside0.mk H
       clear H
       have p234 : 0 ≤ (x5_1 : Int) := of_decide_eq_true (by assumption)
       have q234 : x5_1 < (l0.length : Int) := of_decide_eq_true (by assumption)
       obtain ⟨ad234, e234, hx234_0⟩ := Kd.at_int HR0.out x5_1 p234 q234
       cases e234
       replace p234 := eq_true p234
       replace q234 := eq_true q234
       have p235 : 0 ≤ (x5_1 : Int) := of_decide_eq_true (by assumption)
       have q235 : x5_1 < (l1.length : Int) := of_decide_eq_true (by assumption)
       obtain ⟨ad235, e235, hx235_0⟩ := Kd.at_int HR1.out x5_1 p235 q235
       cases e235
       replace p235 := eq_true p235
       replace q235 := eq_true q235
       go_wp2
       repeat (go_quiet (fail); try go_wp2)
       go_roundg kj2
       case measure => have := HK1.out; have := HJ2.out; omega
       case rel => exact ⟨(wrap64 (x5_1 + 1)), (by first | rfl | simp [*]), H', ⟨by have := HK1.out; have := HJ2.out; omega⟩, by repeat (first | exact Drawn0.refl _ | apply Drawn0.step)⟩
      ·rw [if_neg c9] at H
       have c9b0 := beq_eq_false_iff_ne.mpr c9
       have c9b1 := bne_iff_ne.mpr c9
       obtain rfl := Option.some.inj H
       have p234 : 0 ≤ (x5_1 : Int) := of_decide_eq_true (by assumption)
       have q234 : x5_1 < (l0.length : Int) := of_decide_eq_true (by assumption)
       obtain ⟨ad234, e234, hx234_0⟩ := Kd.at_int HR0.out x5_1 p234 q234
       cases e234
       replace p234 := eq_true p234
       replace q234 := eq_true q234
       have p235 : 0 ≤ (x5_1 : Int) := of_decide_eq_true (by assumption)
       have q235 : x5_1 < (l1.length : Int) := of_decide_eq_true (by assumption)
       obtain ⟨ad235, e235, hx235_0⟩ := Kd.at_int HR1.out x5_1 p235 q235
       cases e235
       replace p235 := eq_true p235
       replace q235 := eq_true q235
       go_wp2
       repeat (go_quiet (fail); try go_wp2)
       go_ret
       exact ⟨by first | rfl | (simp; done) | (simp [*]; done), by repeat (first | exact Drawn0.refl _ | apply Drawn0.step)⟩
     ·replace c5 := Bool.eq_false_iff.mpr c5
      subst c5
      rw [if_neg (show ¬ (false = true) by decide)] at H
      obtain rfl := Option.some.inj H
      go_wp2
      repeat (go_quiet (fail); try go_wp2)
      go_ret
      exact ⟨by first | rfl | (simp; done) | (simp [*]; done), by repeat (first | exact Drawn0.refl _ | apply Drawn0.step)⟩
def stringslite_HasSuffix.f (a0 : ByteArray) (a1 : ByteArray) : Option (Bool) := if (a0.size : Int) ≥ (a1.size : Int) then (if 0 ≤ (wrap64 ((a0.size : Int) - (a1.size : Int))) then (if (wrap64 ((a0.size : Int) - (a1.size : Int))) ≤ (a0.size : Int) then (some ((a0.extract ((wrap64 ((a0.size : Int) - (a1.size : Int))) : Int).toNat a0.size).toList == a1.toList)) else (none)) else (none)) else (some false)
theorem stringslite_HasSuffix.calls (a0 : ByteArray) (a1 : ByteArray) (r : Bool) (w : World) (h : stringslite_HasSuffix.f a0 a1 = some r) :
  Calls Tryz.prog 141 #[.string a0, .string a1] w fun e w' => e = .returned (.bool r) ∧ Drawn0 w w' := by
 have H : (if (a0.size : Int) ≥ (a1.size : Int) then (if 0 ≤ (wrap64 ((a0.size : Int) - (a1.size : Int))) then (if (wrap64 ((a0.size : Int) - (a1.size : Int))) ≤ (a0.size : Int) then (some ((a0.extract ((wrap64 ((a0.size : Int) - (a1.size : Int))) : Int).toNat a0.size).toList == a1.toList)) else (none)) else (none)) else (some false)) = some r := h
 clear h
 by_cases c3 : (a0.size : Int) ≥ (a1.size : Int)
 ·rw [if_pos c3] at H
  have c3b0 : decide ((a1.size : Int) ≤ (a0.size : Int)) = true := decide_eq_true c3
  have c3b1 : decide (a1.size ≤ a0.size) = true := decide_eq_true (Int.ofNat_le.mp c3)
  clear c3
  obtain ⟨ji4, hji4⟩ : ∃ j_ : Int, (wrap64 ((a0.size : Int) - (a1.size : Int))) = j_ := ⟨_, rfl⟩
  first | rw [hji4] at H | simp only [hji4] at H
  have hji4w : (IntKind.i64.wrap ((a0.size : Int) - (a1.size : Int))) = ji4 := (i64_w _).trans hji4
  replace H := yes_ H; obtain ⟨c5, H⟩ := H
  have c5b0 := eq_true c5
  have c5b1 := decide_eq_true c5
  clear c5
  replace H := yes_ H; obtain ⟨c6, H⟩ := H
  have c6b0 := eq_true c6
  have c6b1 := decide_eq_true c6
  clear c6
  obtain rfl := Option.some.inj H
  go_enter Tryz.func141, Tryz.ntmps141
  go_wp2
  go_ret
  exact ⟨by first | rfl | (simp; done) | (simp only [← hji4] <;> (first | rfl | simp)) | (simp [*]; done), by repeat (first | exact Drawn0.refl _ | apply Drawn0.step)⟩
 ·rw [if_neg c3] at H
  have c3b0 : decide ((a1.size : Int) ≤ (a0.size : Int)) = false := decide_eq_false c3
  have c3b1 : decide (a1.size ≤ a0.size) = false := decide_eq_false (fun h => c3 (Int.ofNat_le.mpr h))
  clear c3
  obtain rfl := Option.some.inj H
  go_enter Tryz.func141, Tryz.ntmps141
  go_wp2
  go_ret
  exact ⟨by first | rfl | (simp; done) | (simp [*]; done), by repeat (first | exact Drawn0.refl _ | apply Drawn0.step)⟩
def strings_HasSuffix.f (a0 : ByteArray) (a1 : ByteArray) : Option (Bool) := (stringslite_HasSuffix.f a0 a1).bind fun t236 => (some t236)
theorem strings_HasSuffix.calls (a0 : ByteArray) (a1 : ByteArray) (r : Bool) (w : World) (h : strings_HasSuffix.f a0 a1 = some r) :
  Calls Tryz.prog 125 #[.string a0, .string a1] w fun e w' => e = .returned (.bool r) ∧ Drawn0 w w' := by
 have H : ((stringslite_HasSuffix.f a0 a1).bind fun t236 => (some t236)) = some r := h
 clear h
 replace H := Option.bind_eq_some_iff.mp H
 obtain ⟨t236, A30, H⟩ := H
 try dsimp only at H
 have A3 := Aside0.mk A30
 clear A30
 obtain rfl := Option.some.inj H
 go_enter Tryz.func125, Tryz.ntmps125
 go_wp2_with (first | ((with_reducible refine gate_callee (f := 141) rfl ?_); refine goesL_ (some 7) rfl rfl Tryz.func141 (by kernel_rfl) rfl #[.string a0, .string a1] rfl (by (try simp only [List.map_toArray, List.map_cons, List.map_nil]); first | done | rfl | (simp only [List.length_drop, List.length_take]; rfl)) ?_; (with_reducible refine (stringslite_HasSuffix.calls a0 a1 t236 _ A3.out).mono ?_); rintro e w' ⟨rfl, ⟨nd, rfl⟩⟩; refine ⟨_, rfl, ?_⟩))
 go_ret
 exact ⟨by first | rfl | (simp; done) | (simp [*]; done), by repeat (first | exact Drawn0.refl _ | apply Drawn0.step)⟩
def stringslite_HasPrefix.f (a0 : ByteArray) (a1 : ByteArray) : Option (Bool) := if (a0.size : Int) ≥ (a1.size : Int) then (if 0 ≤ (a1.size : Int) then (if (a1.size : Int) ≤ (a0.size : Int) then (some ((a0.extract 0 a1.size).toList == a1.toList)) else (none)) else (none)) else (some false)
theorem stringslite_HasPrefix.calls (a0 : ByteArray) (a1 : ByteArray) (r : Bool) (w : World) (h : stringslite_HasPrefix.f a0 a1 = some r) :
  Calls Tryz.prog 142 #[.string a0, .string a1] w fun e w' => e = .returned (.bool r) ∧ Drawn0 w w' := by
 have H : (if (a0.size : Int) ≥ (a1.size : Int) then (if 0 ≤ (a1.size : Int) then (if (a1.size : Int) ≤ (a0.size : Int) then (some ((a0.extract 0 a1.size).toList == a1.toList)) else (none)) else (none)) else (some false)) = some r := h
 clear h
 by_cases c3 : (a0.size : Int) ≥ (a1.size : Int)
 ·rw [if_pos c3] at H
  have c3b0 : decide ((a1.size : Int) ≤ (a0.size : Int)) = true := decide_eq_true c3
  have c3b1 : decide (a1.size ≤ a0.size) = true := decide_eq_true (Int.ofNat_le.mp c3)
  clear c3
  replace H := yes_ H; obtain ⟨c4, H⟩ := H
  have c4b0 := eq_true c4
  have c4b1 := decide_eq_true c4
  clear c4
  replace H := yes_ H; obtain ⟨c5, H⟩ := H
  have c5b0 := eq_true c5
  have c5b1 := decide_eq_true c5
  clear c5
  obtain rfl := Option.some.inj H
  go_enter Tryz.func142, Tryz.ntmps142
  go_wp2
  go_ret
  exact ⟨by first | rfl | (simp; done) | (simp [*]; done), by repeat (first | exact Drawn0.refl _ | apply Drawn0.step)⟩
 ·rw [if_neg c3] at H
  have c3b0 : decide ((a1.size : Int) ≤ (a0.size : Int)) = false := decide_eq_false c3
  have c3b1 : decide (a1.size ≤ a0.size) = false := decide_eq_false (fun h => c3 (Int.ofNat_le.mpr h))
  clear c3
  obtain rfl := Option.some.inj H
  go_enter Tryz.func142, Tryz.ntmps142
  go_wp2
  go_ret
  exact ⟨by first | rfl | (simp; done) | (simp [*]; done), by repeat (first | exact Drawn0.refl _ | apply Drawn0.step)⟩
def strings_HasPrefix.f (a0 : ByteArray) (a1 : ByteArray) : Option (Bool) := (stringslite_HasPrefix.f a0 a1).bind fun t237 => (some t237)
theorem strings_HasPrefix.calls (a0 : ByteArray) (a1 : ByteArray) (r : Bool) (w : World) (h : strings_HasPrefix.f a0 a1 = some r) :
  Calls Tryz.prog 126 #[.string a0, .string a1] w fun e w' => e = .returned (.bool r) ∧ Drawn0 w w' := by
 have H : ((stringslite_HasPrefix.f a0 a1).bind fun t237 => (some t237)) = some r := h
 clear h
 replace H := Option.bind_eq_some_iff.mp H
 obtain ⟨t237, A30, H⟩ := H
 try dsimp only at H
 have A3 := Aside0.mk A30
 clear A30
 obtain rfl := Option.some.inj H
 go_enter Tryz.func126, Tryz.ntmps126
 go_wp2_with (first | ((with_reducible refine gate_callee (f := 142) rfl ?_); refine goesL_ (some 7) rfl rfl Tryz.func142 (by kernel_rfl) rfl #[.string a0, .string a1] rfl (by (try simp only [List.map_toArray, List.map_cons, List.map_nil]); first | done | rfl | (simp only [List.length_drop, List.length_take]; rfl)) ?_; (with_reducible refine (stringslite_HasPrefix.calls a0 a1 t237 _ A3.out).mono ?_); rintro e w' ⟨rfl, ⟨nd, rfl⟩⟩; refine ⟨_, rfl, ?_⟩))
 go_ret
 exact ⟨by first | rfl | (simp; done) | (simp [*]; done), by repeat (first | exact Drawn0.refl _ | apply Drawn0.step)⟩
end Go.Proofs.YtgogjghfehcpoaaGreatDoor.QT
