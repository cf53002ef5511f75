/- Part 3 of the proof of: FnPatchText: the statement, at every input; its condition: the listed variables read as the row lists them. -/
import Derived.Test.YtgogjghfehcpoaaGreatDoorF2
import Derived.Test.YtgogjghfehcpoaaGreatDoorProg
import Derived.Handy
set_option maxHeartbeats 8000000
set_option maxRecDepth 100000
namespace Go.Proofs.YtgogjghfehcpoaaGreatDoor.QT
open Go.RowKit Go.Proofs.YtgogjghfehcpoaaGreatDoorW.PrintWords Go.Proofs.YtgogjghfehcpoaaGreatDoorW.PrintLast Go.Proofs.YtgogjghfehcpoaaGreatDoorW.PrintMore
set_option linter.unusedVariables false
set_option linter.unusedSimpArgs false
mutual
def laws_patchText.l0 : Nat → Bool → ByteArray → List (S42) → Int → Int → Option (ByteArray)
 | 0, _, _, _, _, _ => none
 | k + 1, x1, x5, x11, x12, x13 => if x13 < x12 then (if 0 ≤ x13 then (if x13 < (x11.length : Int) then ((spec_PatchLines.f k ((rd_T42 x11 x13).f0) ((rd_T42 x11 x13).f1) ((rd_T42 x11 x13).f2) ((rd_T42 x11 x13).f3) ((rd_T42 x11 x13).f4)).bind fun t836 => (laws_patchText.l1 k x1 x5 x11 x12 x13 t836 (t836.length : Int) 0)) else (none)) else (none)) else (some x5)
def laws_patchText.l1 : Nat → Bool → ByteArray → List (S42) → Int → Int → List ByteArray → Int → Int → Option (ByteArray)
 | 0, _, _, _, _, _, _, _, _ => none
 | k + 1, x1, x5, x11, x12, x13, x18, x19, x20 => if x20 < x19 then (if 0 ≤ x20 then (if x20 < (x18.length : Int) then (if x5.size + (rdOf ByteArray.empty x18 x20).size ≤ 9223372036854775807 then (if x1 = true then (if (x5 ++ (rdOf ByteArray.empty x18 x20)).size + 1 ≤ 9223372036854775807 then (laws_patchText.l1 k x1 ((x5 ++ (rdOf ByteArray.empty x18 x20)) ++ (⟨#[10]⟩ : ByteArray)) x11 x12 x13 x18 x19 (wrap64 (x20 + 1))) else (none)) else (laws_patchText.l1 k x1 (x5 ++ (rdOf ByteArray.empty x18 x20)) x11 x12 x13 x18 x19 (wrap64 (x20 + 1)))) else (none)) else (none)) else (none)) else (laws_patchText.l0 k x1 x5 x11 x12 (wrap64 (x13 + 1)))
end
def laws_patchText.f (k : Nat) (l0 : List (S33)) (a1 : Bool) : Option (ByteArray) := (laws_patchesOf.f k l0).bind fun t831 => (laws_patchText.l0 k a1 (⟨#[]⟩ : ByteArray) t831 (t831.length : Int) 0)
theorem laws_patchText.calls (k : Nat) (A0 : Option Addr) (c0 : Nat) (l0 : List (S33)) (a1 : Bool) (r : ByteArray) (w : World) (hr0 : Kd.C k33 w A0 l0.length l0) (hc0 : l0.length ≤ c0) (h : laws_patchText.f k l0 a1 = some r) :
  Calls Tryz.prog 9 #[.slice A0 l0.length c0, .bool a1] w fun e w' => e = .returned (.string r) ∧ Below w.heap.size w w' := by
 have hu42 := Tryz.underlying42
 have HR0 := Aside0.mk hr0
 have HC0 := Aside0.mk hc0
 clear hr0 hc0
 have HB := aS_ (Below.refl w.heap.size w)
 have H : ((laws_patchesOf.f k l0).bind fun t831 => (laws_patchText.l0 k a1 (⟨#[]⟩ : ByteArray) t831 (t831.length : Int) 0)) = some r := h
 clear h
 replace H := Option.bind_eq_some_iff.mp H
 obtain ⟨t831, A30, H⟩ := H
 have A3 := Aside0.mk A30
 clear A30
 have H' := Aside0.mk H
 clear H
 go_enter Tryz.func9, Tryz.ntmps9
 go_wp2_with ((go_at_call 16; (with_reducible refine (laws_patchesOf.calls k _ _ l0 t831 _ ?side1 ?side2 A3.out).mono ?_); (case side1 => exact Kd.C_st HR0.out); (case side2 => exact HC0.out); rintro e w4 ⟨v832, rfl, ho0, hb⟩; have HO833 := aS_ (Kd.S_lower ho0 (bz_ (bel_ HB.out))); replace HB := aS_ (bt_ (bel_ HB.out) hb); obtain ⟨Ao5, co5, eo5⟩ := Kd.S_slice HO833.out; subst eo5))
 go_loopg [5, 13] k (fun kq v5 v13 w' => ∃ (x5_1 : ByteArray) (x13_1 : Int), v5 = .string x5_1 ∧ v13 = .int .i64 x13_1 ∧ Aside0 (laws_patchText.l0 kq a1 x5_1 t831 (t831.length : Int) x13_1 = some r) ∧ Aside0 (kq ≤ k) ∧ Aside0 (Kd.S k42 42 w' w.heap.size (fun _ => True) (.slice Ao5 t831.length co5) t831) ∧ Aside0 (Below w.heap.size w w'))
 case atStart => exact ⟨((⟨#[]⟩ : ByteArray)), (0), (by rfl), (by rfl), H', ⟨Nat.le_refl _⟩, ⟨Kd.S_st HO833.out⟩, ⟨bel_ HB.out⟩⟩
 case round =>
  clear H'
  obtain ⟨x5_1, x13_1, rfl, rfl, HA, HK1, HO_11, HB⟩ := hrel
  cases gk with
  | zero => exact absurd HA.out (by simp [laws_patchText.l0])
  | succ k1 =>
   have H := HA.out; clear HA
   simp only [laws_patchText.l0] at H
   by_cases c6 : x13_1 < (t831.length : Int)
   ·rw [if_pos c6] at H
    have c6b0 := decide_eq_true c6
    clear c6
    replace H := yes_ H; obtain ⟨c7, H⟩ := H
    have c7b0 := decide_eq_true c7
    clear c7
    replace H := yes_ H; obtain ⟨c8, H⟩ := H
    have c8b0 := decide_eq_true c8
    clear c8
    replace H := Option.bind_eq_some_iff.mp H
    obtain ⟨t836, A90, H⟩ := H
    have A9 := Aside0.mk A90
    clear A90
    have H' := Aside0.mk H
    clear H
    have p834 : 0 ≤ (x13_1 : Int) := of_decide_eq_true (by assumption)
    have q834 : x13_1 < (t831.length : Int) := of_decide_eq_true (by assumption)
    obtain ⟨ad834, A834_4, c834_4, e834, hx834_0, hx834_1, hx834_2, hx834_3, hx834_4, hl834_4, hi834_4⟩ := at_T42 (Kd.S_reads' HO_11.out).2.2 x13_1 p834 q834
    cases e834
    obtain ⟨ce834, hce834, hMe834, hcc834⟩ := Kd.S_get HO_11.out z42 x13_1 p834 (by exact q834)
    obtain ⟨ve834_4, rfl, ge834_4⟩ := k42_openM hMe834
    have hv834_4 := hcc834 4 _ rfl
    rw [add_field _ _ 4 (by omega)] at hv834_4
    replace hv834_4 := Option.some.inj (hv834_4.symm.trans hx834_4)
    rw [hv834_4] at ge834_4
    have HL834_4 := aS_ (show Kd.R k75 75 _ _ _ _ ((rd_T42 t831 x13_1).f4) from ge834_4)
    clear hv834_4 ge834_4
    clear hcc834 hce834
    have HR834_4 := Aside0.mk hi834_4
    have HC834_4 := Aside0.mk hl834_4
    clear hi834_4 hl834_4
    replace p834 := eq_true p834
    replace q834 := eq_true q834
    go_wp2_with (first | ((with_reducible refine gate_dst (N := 7) rfl ?_); refine box_event ?hg (N := 7) ?hd (cs := #[.int .i64 0, .int .i64 0, .int .i64 0, .int .i64 0, .slice none 0 0]) (t := 42) ?hr ?_; (case hd => rfl); (case hg => rfl); (case hr => (go_simp; done)); intro gb835 hg w10 hbox hb; replace HO_11 := aS_ (Kd.S_below (Kd.S_elderB (Kd.S_st HO_11.out) gb835 (Nat.le_of_eq hg.symm)) hb); replace HL834_4 := aS_ (Kd.R_below (Kd.R_st HL834_4.out) hb); replace HR834_4 := aS_ (Kd.C_below (Kd.C_st HR834_4.out) hb); have BK835 := aS_ (hbox); have GW835 := aS_ ((by rw [hg]; exact (bz_ (bel_ HB.out)) : w.heap.size ≤ gb835)); have GE835 := aS_ ((by rw [hg]; exact (bz_ (bel_ HB.out)) : w.heap.size ≤ gb835)); replace HB := aS_ (bt_ (bel_ HB.out) hb); clear hb hbox hg; obtain ⟨hcz11_0, hcz11_1, hcz11_2, hcz11_3, hcz11_4, hfz11_0, hfz11_1, hfz11_2, hfz11_3, hfz11_4⟩ := blk5 BK835.out) | (go_at_call 24; (with_reducible refine (spec_PatchLines.calls k1 ((rd_T42 t831 x13_1).f0) ((rd_T42 t831 x13_1).f1) ((rd_T42 t831 x13_1).f2) ((rd_T42 t831 x13_1).f3) _ _ ((rd_T42 t831 x13_1).f4) t836 _ ?side1 ?side2 A9.out).mono ?_); (case side1 => repeat (exact ((Kd.R_reads' (by (with_reducible skip); exact (Kd.R_mono (Kd.R_far (p := ⟨gb835, 4, none⟩) (Kd.R_far (p := ⟨gb835, 3, none⟩) (Kd.R_far (p := ⟨gb835, 2, none⟩) (Kd.R_far (p := ⟨gb835, 1, none⟩) (Kd.R_far (p := ⟨gb835, 0, none⟩) (Kd.R_types HL834_4.out BK835.out (by decide)) (fun _ hk => hk.2) (.int .i64 ((rd_T42 t831 x13_1).f0))) (fun _ hk => hk.2) (.int .i64 ((rd_T42 t831 x13_1).f1))) (fun _ hk => hk.2) (.int .i64 ((rd_T42 t831 x13_1).f2))) (fun _ hk => hk.2) (.int .i64 ((rd_T42 t831 x13_1).f3))) (fun _ hk => hk.2) (.slice A834_4 ((rd_T42 t831 x13_1).f4).length c834_4)) (fun _ h_ => h_.1)))).2.2))); (case side2 => exact HC834_4.out); rintro e w12 ⟨v837, rfl, ho0, hb⟩; replace HO_11 := aS_ (Kd.S_below (Kd.S_st ((Kd.S_mono (Kd.S_far (p := ⟨gb835, 4, none⟩) (Kd.S_far (p := ⟨gb835, 3, none⟩) (Kd.S_far (p := ⟨gb835, 2, none⟩) (Kd.S_far (p := ⟨gb835, 1, none⟩) (Kd.S_far (p := ⟨gb835, 0, none⟩) (Kd.S_mono HO_11.out (fun k_ hk => (⟨hk, hk.2⟩ : _ ∧ k_ ≠ gb835))) (fun _ hk => hk.2) (.int .i64 ((rd_T42 t831 x13_1).f0))) (fun _ hk => hk.2) (.int .i64 ((rd_T42 t831 x13_1).f1))) (fun _ hk => hk.2) (.int .i64 ((rd_T42 t831 x13_1).f2))) (fun _ hk => hk.2) (.int .i64 ((rd_T42 t831 x13_1).f3))) (fun _ hk => hk.2) (.slice A834_4 ((rd_T42 t831 x13_1).f4).length c834_4)) (fun _ h_ => h_.1)))) hb); have HO838 := aS_ (Kd.R_lower ho0 (bz_ (by with_reducible repeat first | exact HB.out | refine bS_ ?_ GE835.out))); replace HR834_4 := aS_ (Kd.C_below ((Kd.R_reads' (by (with_reducible skip); exact (Kd.R_mono (Kd.R_far (p := ⟨gb835, 4, none⟩) (Kd.R_far (p := ⟨gb835, 3, none⟩) (Kd.R_far (p := ⟨gb835, 2, none⟩) (Kd.R_far (p := ⟨gb835, 1, none⟩) (Kd.R_far (p := ⟨gb835, 0, none⟩) (Kd.R_types HL834_4.out BK835.out (by decide)) (fun _ hk => hk.2) (.int .i64 ((rd_T42 t831 x13_1).f0))) (fun _ hk => hk.2) (.int .i64 ((rd_T42 t831 x13_1).f1))) (fun _ hk => hk.2) (.int .i64 ((rd_T42 t831 x13_1).f2))) (fun _ hk => hk.2) (.int .i64 ((rd_T42 t831 x13_1).f3))) (fun _ hk => hk.2) (.slice A834_4 ((rd_T42 t831 x13_1).f4).length c834_4)) (fun _ h_ => h_.1)))).2.2) hb); replace HL834_4 := aS_ (Kd.R_below (Kd.R_st ((Kd.R_mono (Kd.R_far (p := ⟨gb835, 4, none⟩) (Kd.R_far (p := ⟨gb835, 3, none⟩) (Kd.R_far (p := ⟨gb835, 2, none⟩) (Kd.R_far (p := ⟨gb835, 1, none⟩) (Kd.R_far (p := ⟨gb835, 0, none⟩) (Kd.R_types HL834_4.out BK835.out (by decide)) (fun _ hk => hk.2) (.int .i64 ((rd_T42 t831 x13_1).f0))) (fun _ hk => hk.2) (.int .i64 ((rd_T42 t831 x13_1).f1))) (fun _ hk => hk.2) (.int .i64 ((rd_T42 t831 x13_1).f2))) (fun _ hk => hk.2) (.int .i64 ((rd_T42 t831 x13_1).f3))) (fun _ hk => hk.2) (.slice A834_4 ((rd_T42 t831 x13_1).f4).length c834_4)) (fun _ h_ => h_.1)))) hb); replace BK835 := aS_ (blk_below (g := gb835) (o := .cells #[.int .i64 ((rd_T42 t831 x13_1).f0), .int .i64 ((rd_T42 t831 x13_1).f1), .int .i64 ((rd_T42 t831 x13_1).f2), .int .i64 ((rd_T42 t831 x13_1).f3), .slice A834_4 ((rd_T42 t831 x13_1).f4).length c834_4] 42 (0, 0)) (by (with_reducible skip); refine blk_put (cs := #[.int .i64 ((rd_T42 t831 x13_1).f0), .int .i64 ((rd_T42 t831 x13_1).f1), .int .i64 ((rd_T42 t831 x13_1).f2), .int .i64 ((rd_T42 t831 x13_1).f3), .slice none 0 0]) ?_ 4 _ rfl; (with_reducible skip); refine blk_put (cs := #[.int .i64 ((rd_T42 t831 x13_1).f0), .int .i64 ((rd_T42 t831 x13_1).f1), .int .i64 ((rd_T42 t831 x13_1).f2), .int .i64 0, .slice none 0 0]) ?_ 3 _ rfl; (with_reducible skip); refine blk_put (cs := #[.int .i64 ((rd_T42 t831 x13_1).f0), .int .i64 ((rd_T42 t831 x13_1).f1), .int .i64 0, .int .i64 0, .slice none 0 0]) ?_ 2 _ rfl; (with_reducible skip); refine blk_put (cs := #[.int .i64 ((rd_T42 t831 x13_1).f0), .int .i64 0, .int .i64 0, .int .i64 0, .slice none 0 0]) ?_ 1 _ rfl; (with_reducible skip); refine blk_put (cs := #[.int .i64 0, .int .i64 0, .int .i64 0, .int .i64 0, .slice none 0 0]) ?_ 0 _ rfl; (with_reducible skip); exact BK835.out) hb); replace HB := aS_ (bt_ (by with_reducible repeat first | exact HB.out | refine bS_ ?_ GE835.out) hb); obtain ⟨Ao13, co13, eo13⟩ := Kd.R_slice HO838.out; subst eo13))
    go_loopg [5, 20] k1 (fun kq v5 v20 w' => ∃ (x5_2 : ByteArray) (x20_2 : Int), v5 = .string x5_2 ∧ v20 = .int .i64 x20_2 ∧ Aside0 (laws_patchText.l1 kq a1 x5_2 t831 (t831.length : Int) x13_1 t836 (t836.length : Int) x20_2 = some r) ∧ Aside0 (kq ≤ k1) ∧ Aside0 (Kd.S k42 42 w' w.heap.size (fun k_ => k_ ≠ gb835) (.slice (some ad834) t831.length co5) t831) ∧ Aside0 (Kd.R Kd.string 9 w' w.heap.size (fun _ => True) (.slice Ao13 t836.length co13) t836) ∧ Aside0 (w'.heap[gb835]? = some (.cells #[.int .i64 ((rd_T42 t831 x13_1).f0), .int .i64 ((rd_T42 t831 x13_1).f1), .int .i64 ((rd_T42 t831 x13_1).f2), .int .i64 ((rd_T42 t831 x13_1).f3), (.slice A834_4 ((rd_T42 t831 x13_1).f4).length c834_4)] 42 (0, 0))) ∧ Aside0 (Kd.C k75 w' A834_4 ((rd_T42 t831 x13_1).f4).length ((rd_T42 t831 x13_1).f4)) ∧ Aside0 (Below w.heap.size w w'))
    case atStart => exact ⟨(x5_1), (0), (by rfl), (by rfl), H', ⟨Nat.le_refl _⟩, ⟨Kd.S_st (Kd.S_mono HO_11.out (fun _ hk => hk.2))⟩, ⟨Kd.R_st HO838.out⟩, ⟨blk_st BK835.out⟩, ⟨Kd.C_st HR834_4.out⟩, ⟨by with_reducible repeat exact HB.out⟩⟩
    case round =>
     clear H'
     obtain ⟨x5_2, x20_2, rfl, rfl, HA, HK2, HO_11, HO_18, BK835, HR834_4, HB⟩ := hrel
     cases gk with
     | zero => exact absurd HA.out (by simp [laws_patchText.l1])
     | succ k2 =>
      have H := HA.out; clear HA
      simp only [laws_patchText.l1] at H
      by_cases c14 : x20_2 < (t836.length : Int)
      ·rw [if_pos c14] at H
       have c14b0 := decide_eq_true c14
       clear c14
       replace H := yes_ H; obtain ⟨c15, H⟩ := H
       have c15b0 := decide_eq_true c15
       clear c15
       replace H := yes_ H; obtain ⟨c16, H⟩ := H
       have c16b0 := decide_eq_true c16
       clear c16
       replace H := yes_ H; obtain ⟨c17, H⟩ := H
       have c17b0 := eq_true c17
       have c17b1 := decide_eq_true c17
       try have c17b2 : (9223372036854775807 < x5_2.size + (rdOf ByteArray.empty t836 x20_2).size) = False := eq_false (Nat.not_lt.2 c17)
       by_cases c18 : a1 = true
       ·subst c18
        rw [if_pos rfl] at H
        replace H := yes_ H; obtain ⟨c19, H⟩ := H
        have c19b0 := eq_true c19
        have c19b1 := decide_eq_true c19
        try have c19b2 : (9223372036854775807 < (x5_2 ++ (rdOf ByteArray.empty t836 x20_2)).size + 1) = False := eq_false (Nat.not_lt.2 c19)
        have c19b9_ : (9223372036854775807 < x5_2.size + (rdOf ByteArray.empty t836 x20_2).size + 1) = False := eq_false (by have h_ := c19; rw [ByteArray.size_append] at h_; omega)
        have H' := Aside0.mk H
        clear H
        have p839 : 0 ≤ (x20_2 : Int) := of_decide_eq_true (by assumption)
        have q839 : x20_2 < (t836.length : Int) := of_decide_eq_true (by assumption)
        obtain ⟨ad839, e839, hx839_0⟩ := Kd.at_string (Kd.R_reads' HO_18.out).2.2 x20_2 p839 q839
        cases e839
        replace p839 := eq_true p839
        replace q839 := eq_true q839
        go_wp2
        go_roundg k2
        case measure => have := HK1.out; have := HK2.out; omega
        case rel => exact ⟨((x5_2 ++ (rdOf ByteArray.empty t836 x20_2)) ++ (⟨#[10]⟩ : ByteArray)), (wrap64 (x20_2 + 1)), (by rfl), (by rfl), H', ⟨by have := HK1.out; have := HK2.out; omega⟩, ⟨Kd.S_st HO_11.out⟩, ⟨Kd.R_st HO_18.out⟩, ⟨blk_st BK835.out⟩, ⟨Kd.C_st HR834_4.out⟩, ⟨by with_reducible repeat exact HB.out⟩⟩
       ·replace c18 := Bool.eq_false_iff.mpr c18
        subst c18
        rw [if_neg (show ¬ (false = true) by decide)] at H
        have H' := Aside0.mk H
        clear H
        have p839 : 0 ≤ (x20_2 : Int) := of_decide_eq_true (by assumption)
        have q839 : x20_2 < (t836.length : Int) := of_decide_eq_true (by assumption)
        obtain ⟨ad839, e839, hx839_0⟩ := Kd.at_string (Kd.R_reads' HO_18.out).2.2 x20_2 p839 q839
        cases e839
        replace p839 := eq_true p839
        replace q839 := eq_true q839
        go_wp2
        go_roundg k2
        case measure => have := HK1.out; have := HK2.out; omega
        case rel => exact ⟨(x5_2 ++ (rdOf ByteArray.empty t836 x20_2)), (wrap64 (x20_2 + 1)), (by rfl), (by rfl), H', ⟨by have := HK1.out; have := HK2.out; omega⟩, ⟨Kd.S_st HO_11.out⟩, ⟨Kd.R_st HO_18.out⟩, ⟨blk_st BK835.out⟩, ⟨Kd.C_st HR834_4.out⟩, ⟨by with_reducible repeat exact HB.out⟩⟩
      ·rw [if_neg c14] at H
       have c14b0 := decide_eq_false c14
       clear c14
       have H' := Aside0.mk H
       clear H
       go_wp2
       go_roundg k2
       case measure => have := HK1.out; have := HK2.out; omega
       case rel => exact ⟨(x5_2), (wrap64 (x13_1 + 1)), (by rfl), (by rfl), H', ⟨by have := HK1.out; have := HK2.out; omega⟩, ⟨Kd.S_st (Kd.S_mono HO_11.out (fun _ hk => trivial))⟩, ⟨by with_reducible repeat exact HB.out⟩⟩
   ·rw [if_neg c6] at H
    have c6b0 := decide_eq_false c6
    clear c6
    obtain rfl := Option.some.inj H
    go_wp2
    go_ret
    exact ⟨by rfl, bel_ HB.out⟩
abbrev Bs : Type := List UInt8
def B (l : Bs) : ByteArray := ⟨l.toArray⟩
theorem B_data (l : Bs) : (B l).data.toList = l := by simp [B]
theorem B_of (s : ByteArray) : B s.data.toList = s := by cases s; simp [B]
theorem B_ext {s : ByteArray} {l : Bs} (h : s.data.toList = l) : s = B l := by rw [← h, B_of]
theorem B_size (l : Bs) : (B l).size = l.length := by rw [size_data, B_data]
theorem B_toList (l : Bs) : (B l).toList = l := by rw [ByteArray.toList_eq, B_data]
theorem B_append (a b : Bs) : B a ++ B b = B (a ++ b) := B_ext (by simp [ByteArray.data_append, B])
theorem B_extract (l : Bs) (i j : Nat) : (B l).extract i j = B ((l.drop i).take (j - i)) := B_ext (by simp [ByteArray.data_extract, B, List.extract])
theorem B_bt (l : Bs) (i : Nat) (hi : i < l.length) : bt (B l) (i : Int) = (l[i].toNat : Int) := by
 rw [bt_nat (B l) i (by rw [B_data]; exact hi)]
 congr 2
def dec (n : Nat) : Bs := if n < 10 then [UInt8.ofNat (48 + n)] else dec (n / 10) ++ [UInt8.ofNat (48 + n % 10)]
theorem dec_small (n : Nat) (h : n < 10) : dec n = [UInt8.ofNat (48 + n)] := by rw [dec, if_pos h]
theorem dec_big (n : Nat) (h : ¬ n < 10) : dec n = dec (n / 10) ++ [UInt8.ofNat (48 + n % 10)] := by rw [dec, if_neg h]
theorem dec_len (k : Nat) : ∀ n, n < 10 ^ (k + 1) → (dec n).length ≤ k + 1 := by
 induction k with
 | zero => intro n h; rw [dec_small n (by omega)]; simp
 | succ k ih =>
  intro n h
  by_cases hn : n < 10
  ·rw [dec_small n hn]; simp
  ·rw [dec_big n hn, List.length_append]
   have : n / 10 < 10 ^ (k + 1) := by
    have e : 10 ^ (k + 1 + 1) = 10 ^ (k + 1) * 10 := Nat.pow_succ ..
    omega
   have := ih _ this
   simp only [List.length_cons, List.length_nil]; omega
theorem dec_pos (n : Nat) : 0 < (dec n).length := by
 by_cases hn : n < 10
 ·rw [dec_small n hn]; simp
 ·rw [dec_big n hn]; simp
theorem ev_decimal (n : Nat) : n ≤ 1000001 → Ev (fun k => spec_PatchDecimal.f k (n : Int)) (B (dec n)) := by
 induction n using Nat.strongRecOn with
 | _ n ih =>
  intro hn
  refine Ev.succ ?_
  simp only [spec_PatchDecimal.f]
  by_cases h : (n : Int) < 10
  ·refine Ev.if_pos h ?_
   rw [dec_small n (by omega)]
   have e : (wrap64 (48 + (n : Int))) % 256 = ((48 + n : Nat) : Int) := by unfold wrap64; omega
   rw [e]
   exact Ev.const _
  ·refine Ev.if_neg h ?_
   rw [dec_big n (by omega)]
   have e1 : wrap64 (Int.tdiv (n : Int) 10) = ((n / 10 : Nat) : Int) := by
    rw [show Int.tdiv (n : Int) 10 = ((n / 10 : Nat) : Int) from by rw [Int.tdiv_eq_ediv_of_nonneg (by omega)]; omega]
    exact w64 _ (by omega)
   have e2 : (wrap64 (48 + Int.tmod (n : Int) 10)) % 256 = ((48 + n % 10 : Nat) : Int) := by
    rw [show Int.tmod (n : Int) 10 = ((n % 10 : Nat) : Int) from by rw [Int.tmod_eq_emod_of_nonneg (by omega)]; omega]
    unfold wrap64; omega
   rw [e1, e2]
   refine Ev.bind (ih (n / 10) (by omega) (by omega)) ?_
   simp only [Option.bind_some]
   have hl := dec_len 6 (n / 10) (by omega)
   refine Ev.if_pos ?_ ?_
   ·rw [B_size, strOfNums_size]; simp only [List.length_cons, List.length_nil]; omega
   ·rw [show strOfNums [((48 + n % 10 : Nat) : Int)] = B [UInt8.ofNat (48 + n % 10)] from rfl, B_append]
    exact Ev.const _
def span (s l : Nat) : Bs := if l = 0 then dec s ++ [44, 48] else if l = 1 then dec (s + 1) else (dec (s + 1) ++ [44]) ++ dec l
theorem span_len (s l : Nat) (hs : s ≤ 1000000) (hl : l ≤ 1000000) : (span s l).length ≤ 15 := by
 have h1 := dec_len 6 s (by omega)
 have h2 := dec_len 6 (s + 1) (by omega)
 have h3 := dec_len 6 l (by omega)
 unfold span
 split
 ·simp; omega
 ·split
  ·omega
  ·simp; omega
theorem ev_span (s l : Nat) (hs : s ≤ 1000000) (hl : l ≤ 1000000) : Ev (fun k => spec_patchSpan.f k (s : Int) (l : Int)) (B (span s l)) := by
 simp only [spec_patchSpan.f]
 have h1 := dec_len 6 s (by omega)
 have h2 := dec_len 6 (s + 1) (by omega)
 have h3 := dec_len 6 l (by omega)
 have hw : wrap64 ((s : Int) + 1) = ((s + 1 : Nat) : Int) := w64s s (by omega)
 rw [hw]
 unfold span
 by_cases c0 : l = 0
 ·subst c0
  refine Ev.if_pos rfl (Ev.bind (ev_decimal s (by omega)) (Ev.if_pos (by rw [B_size]; omega) ?_))
  rw [if_pos rfl, show (⟨#[44, 48]⟩ : ByteArray) = B [44, 48] from rfl, B_append]
  exact Ev.const _
 ·refine Ev.if_neg (by omega) ?_
  rw [if_neg c0]
  by_cases c1 : l = 1
  ·subst c1
   refine Ev.if_pos rfl (Ev.bind (ev_decimal (s + 1) (by omega)) ?_)
   rw [if_pos rfl]
   exact Ev.const _
  ·refine Ev.if_neg (by omega) (Ev.bind (ev_decimal (s + 1) (by omega)) (Ev.if_pos (by rw [B_size]; omega) ?_))
   rw [if_neg c1, show (⟨#[44]⟩ : ByteArray) = B [44] from rfl, B_append]
   refine Ev.bind (ev_decimal l (by omega)) (Ev.if_pos (by rw [B_size, B_size, List.length_append]; simp only [List.length_cons, List.length_nil]; omega) ?_)
   rw [B_append]
   exact Ev.const _
def escSet : List Int := [45, 95, 46, 126, 33, 39, 40, 41, 59, 47, 63, 58, 64, 38, 61, 43, 36, 44, 35, 42]
def escAlnum (c : Int) : Bool := (decide (97 ≤ c) && decide (c ≤ 122)) || (decide (65 ≤ c) && decide (c ≤ 90)) || (decide (48 ≤ c) && decide (c ≤ 57)) || c == 32
def hexL : Bs := [48, 49, 50, 51, 52, 53, 54, 55, 56, 57, 65, 66, 67, 68, 69, 70]
def hexd (n : Nat) : UInt8 := hexL.getD n 0
def escOf (b : Bool) (c : UInt8) : Bs := if b then [c] else [37, hexd (c.toNat / 16), hexd (c.toNat % 16)]
def plainB (c : UInt8) : Bool := escAlnum (c.toNat : Int) || escSet.any fun x => (c.toNat : Int) == x
def escB (c : UInt8) : Bs := escOf (plainB c) c
def esc (l : Bs) : Bs := l.flatMap escB
theorem escB_len (c : UInt8) : (escB c).length ≤ 3 := by unfold escB escOf; split <;> simp
theorem esc_len : ∀ l : Bs, (esc l).length ≤ 3 * l.length
 | [] => by simp [esc]
 | c :: l => by
  have h1 := escB_len c
  have h2 := esc_len l
  simp only [esc, List.flatMap_cons, List.length_append, List.length_cons] at h2 ⊢
  omega
theorem and15 (c : Nat) (h : c < 256) : Go.bits .and .u8 (c : Int) 15 = ((c % 16 : Nat) : Int) := by
 have : ((List.range 256).all fun c => Go.bits .and .u8 (c : Int) 15 == ((c % 16 : Nat) : Int)) = true := by kernel_rfl
 exact beq_iff_eq.1 (List.all_eq_true.1 this c (List.mem_range.2 h))
theorem hex_cut (n : Nat) (h : n < 16) : (⟨#[48, 49, 50, 51, 52, 53, 54, 55, 56, 57, 65, 66, 67, 68, 69, 70]⟩ : ByteArray).extract n (n + 1) = B [hexd n] := by
 rw [show (⟨#[48, 49, 50, 51, 52, 53, 54, 55, 56, 57, 65, 66, 67, 68, 69, 70]⟩ : ByteArray) = B hexL from rfl, B_extract]
 have hl : hexL.length = 16 := rfl
 congr 1
 rw [List.drop_eq_getElem_cons (by omega), show n + 1 - n = 1 by omega, List.take_succ_cons, List.take_zero]
 simp [hexd, List.getD, List.getElem?_eq_getElem (show n < hexL.length by omega)]
theorem esc_l1 (s x3 : ByteArray) (i : Nat) (hi : i < s.data.toList.length) (hs : s.size ≤ 40) (h3 : x3.size ≤ 1000) (r : ByteArray) : ∀ n j (b : Bool), j + n = 20 →
  Ev (fun k => spec_PatchEscaped.l0 k s (x3 ++ B (escOf (b || (escSet.drop j).any fun x => (s.data.toList[i].toNat : Int) == x) s.data.toList[i])) (⟨#[48, 49, 50, 51, 52, 53, 54, 55, 56, 57, 65, 66, 67, 68, 69, 70]⟩ : ByteArray) (s.size : Int) ((i + 1 : Nat) : Int)) r →
  Ev (fun k => spec_PatchEscaped.l1 k s x3 (⟨#[48, 49, 50, 51, 52, 53, 54, 55, 56, 57, 65, 66, 67, 68, 69, 70]⟩ : ByteArray) (i : Int) (s.data.toList[i].toNat : Int) b (s.size : Int) (i : Int) escSet (escSet.length : Int) (j : Int)) r
 | 0, j, b, hj, h => by
  obtain rfl : j = 20 := by omega
  refine Ev.succ ?_
  simp only [spec_PatchEscaped.l1]
  have hel : escSet.length = 20 := rfl
  have hsz := size_data s
  refine Ev.if_neg (by omega) ?_
  rw [w64s i (by omega)]
  rw [show (escSet.drop 20) = [] from rfl, List.any_nil, Bool.or_false] at h
  have hc : s.data.toList[i].toNat < 256 := UInt8.toNat_lt _
  cases b with
  | true =>
   have ecut : s.extract (i : Int).toNat ((i + 1 : Nat) : Int).toNat = B [s.data.toList[i]] := by
    have e0 : (s.extract i (i + 1)) = B [s.data.toList[i]] := by
     conv => lhs; rw [← B_of s]
     rw [B_extract]
     congr 1
     rw [List.drop_eq_getElem_cons hi, show i + 1 - i = 1 by omega, List.take_succ_cons, List.take_zero]
    exact e0
   refine Ev.if_pos rfl (Ev.if_pos (by omega) (Ev.if_pos (by omega) (Ev.if_pos (by omega) ?_)))
   rw [ecut]
   refine Ev.if_pos (by rw [B_size]; simp only [List.length_cons, List.length_nil]; omega) ?_
   exact h
  | false =>
   generalize s.data.toList[i] = c at h hc ⊢
   refine Ev.if_neg (by decide) ?_
   have e1 : ((c.toNat : Int) / 16) = ((c.toNat / 16 : Nat) : Int) := by omega
   have e2 := and15 c.toNat hc
   have e3 : (((c.toNat / 16 : Nat) : Int) + 1) % 256 = ((c.toNat / 16 + 1 : Nat) : Int) := by omega
   have e4 : (((c.toNat % 16 : Nat) : Int) + 1) % 256 = ((c.toNat % 16 + 1 : Nat) : Int) := by omega
   rw [e1, e2, e3, e4]
   simp only [Int.toNat_natCast]
   rw [hex_cut (c.toNat / 16) (by omega), hex_cut (c.toNat % 16) (by omega), show (⟨#[37]⟩ : ByteArray) = B [37] from rfl]
   simp only [B_append, B_size]
   refine Ev.if_pos (by omega) (Ev.if_pos (by omega) (Ev.if_pos ?_ (Ev.if_pos ?_ (Ev.if_pos (by omega) (Ev.if_pos (by omega) (Ev.if_pos ?_ (Ev.if_pos ?_ (Ev.if_pos ?_ ?_))))))))
   ·show ((c.toNat / 16 + 1 : Nat) : Int) ≤ 16; omega
   ·simp
   ·show ((c.toNat % 16 + 1 : Nat) : Int) ≤ 16; omega
   ·simp
   ·simp; omega
   ·exact h
 | n + 1, j, b, hj, h => by
  have hel : escSet.length = 20 := rfl
  have hjl : j < escSet.length := by omega
  have hsz := size_data s
  have ih := esc_l1 s x3 i hi hs h3 r n (j + 1) (b || (s.data.toList[i].toNat : Int) == escSet[j]) (by omega) (by
   rw [List.drop_eq_getElem_cons hjl, List.any_cons] at h
   rw [Bool.or_assoc]
   exact h)
  refine Ev.succ ?_
  simp only [spec_PatchEscaped.l1]
  refine Ev.if_pos (by omega) (Ev.if_pos (by omega) (Ev.if_pos (by omega) ?_))
  rw [w64s j (by omega)]
  cases b with
  | true => exact Ev.if_pos rfl (by simpa using ih)
  | false =>
   refine Ev.if_neg (by decide) ?_
   simp only [rd, getD_nat _ _ j hjl]
   simpa using ih
theorem ev_escaped (s : ByteArray) (hs : s.size ≤ 40) : Ev (fun k => spec_PatchEscaped.f k s) (B (esc s.data.toList)) := by
 have hsz := size_data s
 have key := fold_loop0 (fun k x i => spec_PatchEscaped.l0 k s x (⟨#[48, 49, 50, 51, 52, 53, 54, 55, 56, 57, 65, 66, 67, 68, 69, 70]⟩ : ByteArray) (s.size : Int) i) s.data.toList (fun x c => x ++ B (escB c)) (fun i x => x.size ≤ 3 * i) id (⟨#[]⟩ : ByteArray) (by show (B []).size ≤ _; rw [B_size]; simp)
  (fun i hi x hx => by
   have := escB_len s.data.toList[i]
   rw [ByteArray.size_append, B_size]; omega) ?_ ?_
 ·have e : ∀ (l : Bs) (x : Bs), l.foldl (fun x c => x ++ B (escB c)) (B x) = B (x ++ esc l) := by
   intro l
   induction l with
   | nil => intro x; simp [esc]
   | cons c l ih => intro x; rw [List.foldl_cons, B_append, ih]; simp [esc]
  have e2 := e s.data.toList []
  rw [show (⟨#[]⟩ : ByteArray) = B [] from rfl, e2] at key
  exact key
 ·intro x hx
  exact Ev.succ ⟨0, fun k _ => by simp only [spec_PatchEscaped.l0]; rw [if_neg (by omega)]; rfl⟩
 ·intro i hi x r hx hr
  refine Ev.succ ?_
  simp only [spec_PatchEscaped.l0]
  have hb := bt_nat s i hi
  have hfin : ∀ b : Bool, b = escAlnum (s.data.toList[i].toNat : Int) → Ev (fun k => spec_PatchEscaped.j1 k s x (⟨#[48, 49, 50, 51, 52, 53, 54, 55, 56, 57, 65, 66, 67, 68, 69, 70]⟩ : ByteArray) (i : Int) (s.data.toList[i].toNat : Int) b (s.size : Int) (i : Int)) r := by
   intro b hb
   refine Ev.succ ?_
   simp only [spec_PatchEscaped.j1, Option.bind_some]
   refine esc_l1 s x i hi hs (by omega) r 20 0 b rfl ?_
   rw [hb]
   exact hr
  rw [hb]
  refine Ev.if_pos (by omega) (Ev.if_pos (by omega) (Ev.if_pos (by omega) ?_))
  generalize hc : (s.data.toList[i].toNat : Int) = c at hfin ⊢
  have hany : ∀ b : Bool, b = escAlnum c → b = escAlnum c := fun _ h => h
  by_cases a1 : 97 ≤ c <;> by_cases a2 : c ≤ 122 <;> by_cases a3 : 65 ≤ c <;> by_cases a4 : c ≤ 90 <;> by_cases a5 : 48 ≤ c <;> by_cases a6 : c ≤ 57 <;>
   first
   | (exfalso; omega)
   | (simp only [a1, a2, a3, a4, a5, a6, if_true, if_false]; exact hfin _ (by simp [escAlnum, a1, a2, a3, a4, a5, a6]))
def signB (n : Int) : UInt8 := if n = -1 then 45 else if n = 0 then 32 else 43
def lineL (d : S75) : Bs := signB d.f0 :: esc d.f1.data.toList
def hdrL (p : S42) : Bs := [64, 64, 32, 45] ++ span p.f0.toNat p.f2.toNat ++ [32, 43] ++ span p.f1.toNat p.f3.toNat ++ [32, 64, 64]
def linesL (p : S42) : List Bs := hdrL p :: p.f4.map lineL
theorem okDiff_facts {d : S75} (h : okDiff d = true) : (d.f0 = -1 ∨ d.f0 = 0 ∨ d.f0 = 1) ∧ d.f1.data.toList ≠ [] ∧ d.f1.data.toList.all okByte = true ∧ d.f1.size ≤ 40 := by
 simp only [okDiff, okText, Bool.and_eq_true, decide_eq_true_eq] at h
 exact ⟨by omega, h.1.2, h.2.1, h.2.2⟩
theorem okPiece_facts {p : S42} (h : okPiece p = true) : (0 ≤ p.f0 ∧ p.f0 ≤ 1000000) ∧ (0 ≤ p.f1 ∧ p.f1 ≤ 1000000) ∧ (0 ≤ p.f2 ∧ p.f2 ≤ 1000000) ∧ (0 ≤ p.f3 ∧ p.f3 ≤ 1000000) ∧ p.f4 ≠ [] ∧ (∀ d ∈ p.f4, okDiff d = true) ∧ p.f4.length ≤ 8 := by
 simp only [okPiece, okDiffs, okNum, List.all_cons, List.all_nil, Bool.and_eq_true, decide_eq_true_eq, List.all_eq_true, Bool.and_true] at h
 obtain ⟨⟨⟨h0, h1, h2, h3⟩, h4⟩, h5, h6⟩ := h
 exact ⟨h0, h1, h2, h3, h4, h5, h6⟩
theorem ev_lines (p : S42) (h : okPiece p = true) : Ev (fun k => spec_PatchLines.f k p.f0 p.f1 p.f2 p.f3 p.f4) ((linesL p).map fun l => B (l ++ [10])) := by
 obtain ⟨h0, h1, h2, h3, h4, h5, h6⟩ := okPiece_facts h
 simp only [spec_PatchLines.f]
 have e0 : p.f0 = (p.f0.toNat : Int) := by omega
 have e1 : p.f1 = (p.f1.toNat : Int) := by omega
 have e2 : p.f2 = (p.f2.toNat : Int) := by omega
 have e3 : p.f3 = (p.f3.toNat : Int) := by omega
 have s1 := span_len p.f0.toNat p.f2.toNat (by omega) (by omega)
 have s2 := span_len p.f1.toNat p.f3.toNat (by omega) (by omega)
 refine Ev.bind (by rw [e0, e2]; exact ev_span p.f0.toNat p.f2.toNat (by omega) (by omega)) ?_
 rw [show (⟨#[64, 64, 32, 45]⟩ : ByteArray) = B [64, 64, 32, 45] from rfl, show (⟨#[32, 43]⟩ : ByteArray) = B [32, 43] from rfl, show (⟨#[32, 64, 64, 10]⟩ : ByteArray) = B [32, 64, 64, 10] from rfl]
 simp only [B_append, B_size]
 refine Ev.if_pos (by omega) (Ev.if_pos (by simp; omega) ?_)
 refine Ev.bind (by rw [e1, e3]; exact ev_span p.f1.toNat p.f3.toNat (by omega) (by omega)) ?_
 simp only [B_append, B_size]
 refine Ev.if_pos (by simp; omega) (Ev.if_pos (by simp; omega) ?_)
 have key := fold_loop0 (fun k x i => spec_PatchLines.l0 k x p.f4 (p.f4.length : Int) i) p.f4 (fun x d => x ++ [B (lineL d ++ [10])]) (fun i x => x.length = i + 1) id [B (hdrL p ++ [10])] rfl
  (fun i hi x hx => by simp [hx]) ?_ ?_
 ·rw [foldl_snoc] at key
  have eh : hdrL p ++ [10] = [64, 64, 32, 45] ++ span p.f0.toNat p.f2.toNat ++ [32, 43] ++ span p.f1.toNat p.f3.toNat ++ [32, 64, 64, 10] := by simp [hdrL]
  rw [eh] at key
  refine Ev.congr (f := _) ?_ (fun _ => rfl)
  have e9 : ((linesL p).map fun l => B (l ++ [10])) = id ([B ([64, 64, 32, 45] ++ span p.f0.toNat p.f2.toNat ++ [32, 43] ++ span p.f1.toNat p.f3.toNat ++ [32, 64, 64, 10])] ++ p.f4.map fun d => B (lineL d ++ [10])) := by
   simp [linesL, hdrL]
  rw [e9]
  exact key
 ·intro x hx
  exact Ev.succ ⟨0, fun k _ => by simp only [spec_PatchLines.l0]; rw [if_neg (by omega)]; rfl⟩
 ·intro i hi x r hx hr
  refine Ev.succ ?_
  simp only [spec_PatchLines.l0]
  refine Ev.if_pos (by omega) (Ev.if_pos (by omega) (Ev.if_pos (by omega) ?_))
  rw [w64s i (by omega)]
  simp only [rd_T75, getD_nat _ _ i hi, Option.bind_some]
  obtain ⟨g1, g2, g3, g4⟩ := okDiff_facts (h5 _ (List.getElem_mem hi))
  have esg : rdOf ByteArray.empty [(⟨#[45]⟩ : ByteArray), (⟨#[32]⟩ : ByteArray), (⟨#[43]⟩ : ByteArray)] (wrap64 (p.f4[i].f0 + 1)) = B [signB p.f4[i].f0] := by
   rcases g1 with g | g | g
   ·rw [g, show wrap64 (-1 + 1) = 0 by unfold wrap64; omega]; rfl
   ·rw [g, show wrap64 (0 + 1) = 1 by unfold wrap64; omega]; rfl
   ·rw [g, show wrap64 (1 + 1) = 2 by unfold wrap64; omega]; rfl
  have hw : 0 ≤ wrap64 (p.f4[i].f0 + 1) ∧ wrap64 (p.f4[i].f0 + 1) < 3 := by
   unfold wrap64; omega
  refine Ev.if_pos hw.1 (Ev.if_pos hw.2 ?_)
  refine Ev.bind (ev_escaped _ g4) ?_
  have hel := esc_len p.f4[i].f1.data.toList
  have hsz := size_data p.f4[i].f1
  rw [esg, show (⟨#[10]⟩ : ByteArray) = B [10] from rfl]
  simp only [B_append, B_size]
  refine Ev.if_pos (by simp; omega) (Ev.if_pos (by simp; omega) (Ev.if_pos (by omega) ?_))
  exact hr
def q_zzIndex.l0 : Nat → ByteArray → ByteArray → Int → Option (Int)
 | 0, _, _, _ => none
 | k + 1, x0, x1, x5 => if (wrap64 (x5 + (x1.size : Int))) ≤ (x0.size : Int) then (if 0 ≤ x5 then (if x5 ≤ (wrap64 (x5 + (x1.size : Int))) then (if (x0.extract (x5 : Int).toNat ((wrap64 (x5 + (x1.size : Int))) : Int).toNat).toList = x1.toList then (some x5) else (q_zzIndex.l0 k x0 x1 (wrap64 (x5 + 1)))) else (none)) else (none)) else (some (-1))
def q_zzIndex.f (k : Nat) (a0 : ByteArray) (a1 : ByteArray) : Option (Int) := q_zzIndex.l0 k a0 a1 0
theorem q_zzIndex.calls (k : Nat) (a0 : ByteArray) (a1 : ByteArray) (r : Int) (w : World) (h : q_zzIndex.f k a0 a1 = some r) :
  Calls Tryz.prog 68 #[.string a0, .string a1] w fun e w' => e = .returned (.int .i64 r) ∧ Drawn0 w w' := by
 have H : (q_zzIndex.l0 k a0 a1 0) = some r := h
 clear h
 have H' := Aside0.mk H
 clear H
 go_enter Tryz.func68, Tryz.ntmps68
 go_wp2
 go_loopg [5] k (fun kq v5 w' => ∃ (x5_1 : Int), v5 = .int .i64 x5_1 ∧ Aside0 (q_zzIndex.l0 kq a0 a1 x5_1 = some r) ∧ Aside0 (kq ≤ k) ∧ Drawn0 w w')
 case atStart => exact ⟨(0), (by rfl), H', ⟨Nat.le_refl _⟩, by repeat (exact Drawn0.refl _)⟩
 case round =>
  clear H'
  obtain ⟨x5_1, rfl, HA, HK1, ⟨m1, rfl⟩⟩ := hrel
  cases gk with
  | zero => exact absurd HA.out (by simp [q_zzIndex.l0])
  | succ k1 =>
   have H := HA.out; clear HA
   simp only [q_zzIndex.l0] at H
   by_cases c3 : (wrap64 (x5_1 + (a1.size : Int))) ≤ (a0.size : Int)
   ·rw [if_pos c3] at H
    have c3b0 := decide_eq_true c3
    clear c3
    replace H := yes_ H; obtain ⟨c4, H⟩ := H
    have c4b0 := eq_true c4
    have c4b1 := decide_eq_true c4
    clear c4
    replace H := yes_ H; obtain ⟨c5, H⟩ := H
    have c5b0 := eq_true c5
    have c5b1 := decide_eq_true c5
    have c6b0 := eq_true (of_decide_eq_true (by assumption) : (wrap64 (x5_1 + (a1.size : Int))) ≤ (a0.size : Int))
    by_cases c7 : (a0.extract (x5_1 : Int).toNat ((wrap64 (x5_1 + (a1.size : Int))) : Int).toNat).toList = a1.toList
    ·rw [if_pos c7] at H
     have c7b0 := beq_iff_eq.mpr c7
     have c7b1 := bne_eq_false_iff_eq.mpr c7
     clear c7
     obtain rfl := Option.some.inj H
     go_wp2
     go_ret
     exact ⟨by rfl, by repeat (first | exact Drawn0.refl _ | apply Drawn0.step)⟩
    ·rw [if_neg c7] at H
     have c7b0 := beq_eq_false_iff_ne.mpr c7
     have c7b1 := bne_iff_ne.mpr c7
     have H' := Aside0.mk H
     clear H
     go_wp2
     go_roundg k1
     case measure => have := HK1.out; omega
     case rel => exact ⟨(wrap64 (x5_1 + 1)), (by rfl), H', ⟨by have := HK1.out; omega⟩, by repeat (first | exact Drawn0.refl _ | apply Drawn0.step)⟩
   ·rw [if_neg c3] at H
    have c3b0 := decide_eq_false c3
    clear c3
    obtain rfl := Option.some.inj H
    go_wp2
    go_ret
    exact ⟨by rfl, by repeat (first | exact Drawn0.refl _ | apply Drawn0.step)⟩
def q_zzSplit.l1 : Nat → ByteArray → ByteArray → List ByteArray → Option (List ByteArray)
 | 0, _, _, _ => none
 | k + 1, x0, x1, x5 => (q_zzIndex.f k x0 x1).bind fun t646 => (if t646 < 0 then (if x5.length < 8796093022208 then (some (x5 ++ [x0])) else (none)) else (if 0 ≤ t646 then (if t646 ≤ (x0.size : Int) then (if x5.length < 8796093022208 then (if 0 ≤ (wrap64 (t646 + (x1.size : Int))) then (if (wrap64 (t646 + (x1.size : Int))) ≤ (x0.size : Int) then (q_zzSplit.l1 k (x0.extract ((wrap64 (t646 + (x1.size : Int))) : Int).toNat x0.size) x1 (x5 ++ [x0.extract 0 (t646 : Int).toNat])) else (none)) else (none)) else (none)) else (none)) else (none)))
def q_zzSplit.f (k : Nat) (a0 : ByteArray) (a1 : ByteArray) : Option (List ByteArray) := if (a1.size : Int) = 0 then (none) else (q_zzSplit.l1 k a0 a1 ([] : List ByteArray))
theorem q_zzSplit.calls (k : Nat) (a0 : ByteArray) (a1 : ByteArray) (r : List ByteArray) (w : World) (h : q_zzSplit.f k a0 a1 = some r) :
  Calls Tryz.prog 37 #[.string a0, .string a1] w fun e w' => ∃ v0_ : Value, e = .returned (v0_) ∧ Kd.R Kd.string 9 w' w.heap.size (fun _ => True) v0_ r ∧ Below w.heap.size w w' := by
 have HB := aS_ (Below.refl w.heap.size w)
 have H : (if (a1.size : Int) = 0 then (none) else (q_zzSplit.l1 k a0 a1 ([] : List ByteArray))) = some r := h
 clear h
 by_cases c3 : (a1.size : Int) = 0
 ·rw [if_pos c3] at H
  exact absurd H (by simp)
 ·rw [if_neg c3] at H
  have c3b0 := beq_eq_false_iff_ne.mpr c3
  have c3b1 := bne_iff_ne.mpr c3
  have H' := Aside0.mk H
  clear H
  go_enter Tryz.func37, Tryz.ntmps37
  go_wp2
  go_loopg [0, 5] k (fun kq v0 v5 w' => ∃ (x0_1 : ByteArray) (x5_1 : List ByteArray), v0 = .string x0_1 ∧ Aside0 (q_zzSplit.l1 kq x0_1 a1 x5_1 = some r) ∧ Aside0 (kq ≤ k) ∧ Aside0 (Kd.R Kd.string 9 w' w.heap.size (fun _ => True) v5 x5_1) ∧ Aside0 (Below w.heap.size w w'))
  case atStart => exact ⟨(a0), (([] : List ByteArray)), (by rfl), H', ⟨Nat.le_refl _⟩, ⟨by exact Kd.R_nil _ _ _ _ _⟩, ⟨bel_ HB.out⟩⟩
  case round =>
   clear H'
   obtain ⟨x0_1, x5_1, rfl, HA, HK1, HO_5, HB⟩ := hrel
   cases gk with
   | zero => exact absurd HA.out (by simp [q_zzSplit.l1])
   | succ k1 =>
    have H := HA.out; clear HA
    simp only [q_zzSplit.l1] at H
    replace H := Option.bind_eq_some_iff.mp H
    obtain ⟨t646, A40, H⟩ := H
    have A4 := Aside0.mk A40
    clear A40
    by_cases c5 : t646 < 0
    ·rw [if_pos c5] at H
     have c5b0 := decide_eq_true c5
     clear c5
     replace H := yes_ H; obtain ⟨c6, H⟩ := H
     have LMc6 := Aside0.mk c6
     clear c6
     obtain ⟨y647, hy647⟩ : ∃ y_ : List ByteArray, y_ = (x5_1 ++ [x0_1]) := ⟨_, rfl⟩
     replace H : (some y647) = some r := by (rw [hy647]; with_reducible exact H)
     have Ny647 := Aside0.mk hy647
     clear hy647
     obtain rfl := Option.some.inj H
     go_wp2_with (first | ((with_reducible refine gate_callee (f := 68) rfl ?_); refine goesL_ (some 39) rfl rfl Tryz.func68 (by kernel_rfl) rfl #[.string x0_1, .string a1] rfl (by (try simp only [List.map_toArray, List.map_cons, List.map_nil]); rfl) ?_; (with_reducible refine (q_zzIndex.calls k1 x0_1 a1 t646 _ A4.out).mono ?_); rintro e w' ⟨rfl, ⟨nd, rfl⟩⟩; refine ⟨_, rfl, ?_⟩) | ((with_reducible refine gate_builtin (b := .append) (xs := #[.tmp 42, .tmp 44]) rfl ?_); at_builtin; refine Kd.R_append Kd.string (w0 := w) w.heap.size rfl (.tmp 42) (.tmp 44) 61 9 (.string ⟨#[]⟩) 16 rfl Tryz.underlying61 info9 rfl (by decide) (by omega) u5 x5_1 x0_1 [.string x0_1] (fun _ => True) (fun _ => False) rfl rfl ?aP (fun _ hk => hk.elim) ?aF ?aO ?aB ?aS ?aL ?_; (case aP => exact rfl); (case aB => exact (bel_ HB.out)); (case aF => exact (fun _ _ => trivial)); (case aO => exact (Kd.R_st HO_5.out)); (case aS => exact (bz_ (bel_ HB.out))); (case aL => have := LMc6.out; omega); intro v648 w7 ho hb hg hat; rw [← Ny647.out] at ho; replace HB := aS_ (hb); have HO649 := aS_ (ho); clear HO_5; clear ho hb hg hat))
     go_ret
     exact ⟨_, by rfl, Kd.R_st HO649.out, bel_ HB.out⟩
    ·rw [if_neg c5] at H
     have c5b0 := decide_eq_false c5
     clear c5
     replace H := yes_ H; obtain ⟨c8, H⟩ := H
     have c8b0 := eq_true c8
     have c8b1 := decide_eq_true c8
     clear c8
     replace H := yes_ H; obtain ⟨c9, H⟩ := H
     have c9b0 := eq_true c9
     have c9b1 := decide_eq_true c9
     clear c9
     replace H := yes_ H; obtain ⟨c10, H⟩ := H
     have LMc10 := Aside0.mk c10
     clear c10
     obtain ⟨y650, hy650⟩ : ∃ y_ : List ByteArray, y_ = (x5_1 ++ [x0_1.extract 0 (t646 : Int).toNat]) := ⟨_, rfl⟩
     replace H : (if 0 ≤ (wrap64 (t646 + (a1.size : Int))) then (if (wrap64 (t646 + (a1.size : Int))) ≤ (x0_1.size : Int) then (q_zzSplit.l1 k1 (x0_1.extract ((wrap64 (t646 + (a1.size : Int))) : Int).toNat x0_1.size) a1 y650) else (none)) else (none)) = some r := by (rw [hy650]; with_reducible exact H)
     have Ny650 := Aside0.mk hy650
     clear hy650
     obtain ⟨ji11, hji11⟩ : ∃ j_ : Int, (wrap64 (t646 + (a1.size : Int))) = j_ := ⟨_, rfl⟩
     rw [hji11] at H
     have hji11w : (IntKind.i64.wrap (t646 + (a1.size : Int))) = ji11 := (i64_w _).trans hji11
     replace H := yes_ H; obtain ⟨c12, H⟩ := H
     have c12b0 := eq_true c12
     have c12b1 := decide_eq_true c12
     clear c12
     replace H := yes_ H; obtain ⟨c13, H⟩ := H
     have c13b0 := eq_true c13
     have c13b1 := decide_eq_true c13
     clear c13
     have H' := Aside0.mk H
     clear H
     go_wp2_with (first | ((with_reducible refine gate_callee (f := 68) rfl ?_); refine goesL_ (some 39) rfl rfl Tryz.func68 (by kernel_rfl) rfl #[.string x0_1, .string a1] rfl (by (try simp only [List.map_toArray, List.map_cons, List.map_nil]); rfl) ?_; (with_reducible refine (q_zzIndex.calls k1 x0_1 a1 t646 _ A4.out).mono ?_); rintro e w' ⟨rfl, ⟨nd, rfl⟩⟩; refine ⟨_, rfl, ?_⟩) | ((with_reducible refine gate_builtin (b := .append) (xs := #[.tmp 46, .tmp 50]) rfl ?_); at_builtin; refine Kd.R_append Kd.string (w0 := w) w.heap.size rfl (.tmp 46) (.tmp 50) 61 9 (.string ⟨#[]⟩) 16 rfl Tryz.underlying61 info9 rfl (by decide) (by omega) u5 x5_1 (x0_1.extract 0 (t646 : Int).toNat) [.string (x0_1.extract 0 (t646 : Int).toNat)] (fun _ => True) (fun _ => False) rfl rfl ?aP (fun _ hk => hk.elim) ?aF ?aO ?aB ?aS ?aL ?_; (case aP => exact rfl); (case aB => exact (bel_ HB.out)); (case aF => exact (fun _ _ => trivial)); (case aO => exact (Kd.R_st HO_5.out)); (case aS => exact (bz_ (bel_ HB.out))); (case aL => have := LMc10.out; omega); intro v651 w14 ho hb hg hat; rw [← Ny650.out] at ho; replace HB := aS_ (hb); have HO652 := aS_ (ho); clear HO_5; clear ho hb hg hat))
     go_roundg k1
     case measure => have := HK1.out; omega
     case rel => exact ⟨(x0_1.extract ((ji11) : Int).toNat x0_1.size), (y650), (by rfl), H', ⟨by have := HK1.out; omega⟩, ⟨Kd.R_st HO652.out⟩, ⟨bel_ HB.out⟩⟩
def q_zzReplace.l0 : Nat → ByteArray → ByteArray → ByteArray → ByteArray → Option (ByteArray)
 | 0, _, _, _, _ => none
 | k + 1, x0, x1, x2, x7 => (q_zzIndex.f k x0 x1).bind fun t718 => (if t718 < 0 then (if x7.size + x0.size ≤ 9223372036854775807 then (some (x7 ++ x0)) else (none)) else (if 0 ≤ t718 then (if t718 ≤ (x0.size : Int) then (if (x0.extract 0 (t718 : Int).toNat).size + x2.size ≤ 9223372036854775807 then (if x7.size + ((x0.extract 0 (t718 : Int).toNat) ++ x2).size ≤ 9223372036854775807 then (if 0 ≤ (wrap64 (t718 + (x1.size : Int))) then (if (wrap64 (t718 + (x1.size : Int))) ≤ (x0.size : Int) then (q_zzReplace.l0 k (x0.extract ((wrap64 (t718 + (x1.size : Int))) : Int).toNat x0.size) x1 x2 (x7 ++ ((x0.extract 0 (t718 : Int).toNat) ++ x2))) else (none)) else (none)) else (none)) else (none)) else (none)) else (none)))
def q_zzReplace.f (k : Nat) (a0 : ByteArray) (a1 : ByteArray) (a2 : ByteArray) : Option (ByteArray) := q_zzReplace.l0 k a0 a1 a2 (⟨#[]⟩ : ByteArray)
theorem q_zzReplace.calls (k : Nat) (a0 : ByteArray) (a1 : ByteArray) (a2 : ByteArray) (r : ByteArray) (w : World) (h : q_zzReplace.f k a0 a1 a2 = some r) :
  Calls Tryz.prog 41 #[.string a0, .string a1, .string a2] w fun e w' => e = .returned (.string r) ∧ Drawn0 w w' := by
 have H : (q_zzReplace.l0 k a0 a1 a2 (⟨#[]⟩ : ByteArray)) = some r := h
 clear h
 have H' := Aside0.mk H
 clear H
 go_enter Tryz.func41, Tryz.ntmps41
 go_wp2
 go_loopg [0, 7] k (fun kq v0 v7 w' => ∃ (x0_1 : ByteArray) (x7_1 : ByteArray), v0 = .string x0_1 ∧ v7 = .string x7_1 ∧ Aside0 (q_zzReplace.l0 kq x0_1 a1 a2 x7_1 = some r) ∧ Aside0 (kq ≤ k) ∧ Drawn0 w w')
 case atStart => exact ⟨(a0), ((⟨#[]⟩ : ByteArray)), (by rfl), (by rfl), H', ⟨Nat.le_refl _⟩, by repeat (exact Drawn0.refl _)⟩
 case round =>
  clear H'
  obtain ⟨x0_1, x7_1, rfl, rfl, HA, HK1, ⟨m1, rfl⟩⟩ := hrel
  cases gk with
  | zero => exact absurd HA.out (by simp [q_zzReplace.l0])
  | succ k1 =>
   have H := HA.out; clear HA
   simp only [q_zzReplace.l0] at H
   replace H := Option.bind_eq_some_iff.mp H
   obtain ⟨t718, A40, H⟩ := H
   have A4 := Aside0.mk A40
   clear A40
   by_cases c5 : t718 < 0
   ·rw [if_pos c5] at H
    have c5b0 := decide_eq_true c5
    clear c5
    replace H := yes_ H; obtain ⟨c6, H⟩ := H
    have c6b0 := eq_true c6
    have c6b1 := decide_eq_true c6
    try have c6b2 : (9223372036854775807 < x7_1.size + x0_1.size) = False := eq_false (Nat.not_lt.2 c6)
    obtain rfl := Option.some.inj H
    go_wp2_with (((with_reducible refine gate_callee (f := 68) rfl ?_); refine goesL_ (some 11) rfl rfl Tryz.func68 (by kernel_rfl) rfl #[.string x0_1, .string a1] rfl (by (try simp only [List.map_toArray, List.map_cons, List.map_nil]); rfl) ?_; (with_reducible refine (q_zzIndex.calls k1 x0_1 a1 t718 _ A4.out).mono ?_); rintro e w' ⟨rfl, ⟨nd, rfl⟩⟩; refine ⟨_, rfl, ?_⟩))
    go_ret
    exact ⟨by rfl, by repeat (first | exact Drawn0.refl _ | apply Drawn0.step)⟩
   ·rw [if_neg c5] at H
    have c5b0 := decide_eq_false c5
    clear c5
    replace H := yes_ H; obtain ⟨c7, H⟩ := H
    have c7b0 := eq_true c7
    have c7b1 := decide_eq_true c7
    clear c7
    replace H := yes_ H; obtain ⟨c8, H⟩ := H
    have c8b0 := eq_true c8
    have c8b1 := decide_eq_true c8
    clear c8
    replace H := yes_ H; obtain ⟨c9, H⟩ := H
    have c9b0 := eq_true c9
    have c9b1 := decide_eq_true c9
    try have c9b2 : (9223372036854775807 < (x0_1.extract 0 (t718 : Int).toNat).size + a2.size) = False := eq_false (Nat.not_lt.2 c9)
    replace H := yes_ H; obtain ⟨c10, H⟩ := H
    have c10b0 := eq_true c10
    have c10b1 := decide_eq_true c10
    try have c10b2 : (9223372036854775807 < x7_1.size + ((x0_1.extract 0 (t718 : Int).toNat) ++ a2).size) = False := eq_false (Nat.not_lt.2 c10)
    obtain ⟨ji11, hji11⟩ : ∃ j_ : Int, (wrap64 (t718 + (a1.size : Int))) = j_ := ⟨_, rfl⟩
    rw [hji11] at H
    have hji11w : (IntKind.i64.wrap (t718 + (a1.size : Int))) = ji11 := (i64_w _).trans hji11
    replace H := yes_ H; obtain ⟨c12, H⟩ := H
    have c12b0 := eq_true c12
    have c12b1 := decide_eq_true c12
    clear c12
    replace H := yes_ H; obtain ⟨c13, H⟩ := H
    have c13b0 := eq_true c13
    have c13b1 := decide_eq_true c13
    clear c13
    have H' := Aside0.mk H
    clear H
    go_wp2_with (((with_reducible refine gate_callee (f := 68) rfl ?_); refine goesL_ (some 11) rfl rfl Tryz.func68 (by kernel_rfl) rfl #[.string x0_1, .string a1] rfl (by (try simp only [List.map_toArray, List.map_cons, List.map_nil]); rfl) ?_; (with_reducible refine (q_zzIndex.calls k1 x0_1 a1 t718 _ A4.out).mono ?_); rintro e w' ⟨rfl, ⟨nd, rfl⟩⟩; refine ⟨_, rfl, ?_⟩))
    go_roundg k1
    case measure => have := HK1.out; omega
    case rel => exact ⟨(x0_1.extract ((ji11) : Int).toNat x0_1.size), (x7_1 ++ ((x0_1.extract 0 (t718 : Int).toNat) ++ a2)), (by rfl), (by rfl), H', ⟨by have := HK1.out; omega⟩, by repeat (first | exact Drawn0.refl _ | apply Drawn0.step)⟩
mutual
def q_zzDigit.j0 : Nat → Int → Bool → Option (Int)
 | 0, _, _ => none
 | k + 1, x0, x3 => if x3 = true then (some ((x0 - 48) % 256)) else (if 97 ≤ x0 then (q_zzDigit.j1 k x0 (decide (x0 ≤ 102))) else (q_zzDigit.j1 k x0 false))
def q_zzDigit.j1 : Nat → Int → Bool → Option (Int)
 | 0, _, _ => none
 | k + 1, x0, x12 => if x12 = true then (some ((((x0 - 97) % 256) + 10) % 256)) else (if 65 ≤ x0 then (if x0 ≤ 70 then (some ((((x0 - 65) % 256) + 10) % 256)) else (some 16)) else (some 16))
end
def q_zzDigit.f (k : Nat) (a0 : Int) : Option (Int) := if 48 ≤ a0 then (q_zzDigit.j0 k a0 (decide (a0 ≤ 57))) else (q_zzDigit.j0 k a0 false)
theorem q_zzDigit.calls (k : Nat) (a0 : Int) (r : Int) (w : World) (h : q_zzDigit.f k a0 = some r) :
  Calls Tryz.prog 73 #[.int .u8 a0] w fun e w' => e = .returned (.int .u8 r) ∧ Drawn0 w w' := by
 have H : (if 48 ≤ a0 then (q_zzDigit.j0 k a0 (decide (a0 ≤ 57))) else (q_zzDigit.j0 k a0 false)) = some r := h
 clear h
 have HC2 := Aside0.mk H
 clear H
 go_enter Tryz.func73, Tryz.ntmps73
 go_upto_region 1 with (fail)
 go_cut [3] (fun v3 wc => ∃ (kq : Nat) (x3_1 : Bool), v3 = .bool x3_1 ∧ Aside0 (q_zzDigit.j0 kq a0 x3_1 = some r) ∧ Aside0 (kq ≤ k) ∧ Drawn0 w wc)
 case first =>
  have H := HC2.out
  clear HC2
  by_cases c3 : 48 ≤ a0
  ·rw [if_pos c3] at H
   have c3b0 := decide_eq_true c3
   clear c3
   have H' := Aside0.mk H
   clear H
   go_wp2
   go_meet
   case rel => exact ⟨_, (decide (a0 ≤ 57)), (by rfl), H', ⟨by omega⟩, by repeat (exact Drawn0.refl _)⟩
  ·rw [if_neg c3] at H
   have c3b0 := decide_eq_false c3
   clear c3
   have H' := Aside0.mk H
   clear H
   go_wp2
   go_meet
   case rel => exact ⟨_, (false), (by rfl), H', ⟨by omega⟩, by repeat (exact Drawn0.refl _)⟩
 case rest =>
  clear HC2
  obtain ⟨kq, x3_1, rfl, HA, HJ1, ⟨mc1, rfl⟩⟩ := hcut
  cases kq with
  | zero => exact absurd HA.out (by simp [q_zzDigit.j0])
  | succ kj1 =>
   have H := HA.out; clear HA
   simp only [q_zzDigit.j0] at H
   by_cases c4 : x3_1 = true
   ·subst c4
    rw [if_pos rfl] at H
    obtain rfl := Option.some.inj H
    go_wp2
    go_ret
    exact ⟨by rfl, by repeat (first | exact Drawn0.refl _ | apply Drawn0.step)⟩
   ·replace c4 := Bool.eq_false_iff.mpr c4
    subst c4
    rw [if_neg (show ¬ (false = true) by decide)] at H
    have HC5 := Aside0.mk H
    clear H
    go_upto_region 3 with (fail)
    go_cut [12] (fun v12 wc => ∃ (kq : Nat) (x12_4 : Bool), v12 = .bool x12_4 ∧ Aside0 (q_zzDigit.j1 kq a0 x12_4 = some r) ∧ Aside0 (kq ≤ kj1) ∧ Drawn0 w wc)
    case first =>
     have H := HC5.out
     clear HC5
     by_cases c6 : 97 ≤ a0
     ·rw [if_pos c6] at H
      have c6b0 := decide_eq_true c6
      clear c6
      have H' := Aside0.mk H
      clear H
      go_wp2
      go_meet
      case rel => exact ⟨_, (decide (a0 ≤ 102)), (by rfl), H', ⟨by have := HJ1.out; omega⟩, by repeat (first | exact Drawn0.refl _ | apply Drawn0.step)⟩
     ·rw [if_neg c6] at H
      have c6b0 := decide_eq_false c6
      clear c6
      have H' := Aside0.mk H
      clear H
      go_wp2
      go_meet
      case rel => exact ⟨_, (false), (by rfl), H', ⟨by have := HJ1.out; omega⟩, by repeat (first | exact Drawn0.refl _ | apply Drawn0.step)⟩
    case rest =>
     clear HC5
     obtain ⟨kq, x12_4, rfl, HA, HJ4, ⟨mc4, rfl⟩⟩ := hcut
     cases kq with
     | zero => exact absurd HA.out (by simp [q_zzDigit.j1])
     | succ kj4 =>
      have H := HA.out; clear HA
      simp only [q_zzDigit.j1] at H
      by_cases c7 : x12_4 = true
      ·subst c7
       rw [if_pos rfl] at H
       obtain rfl := Option.some.inj H
       go_wp2
       go_ret
       exact ⟨by rfl, by repeat (first | exact Drawn0.refl _ | apply Drawn0.step)⟩
      ·replace c7 := Bool.eq_false_iff.mpr c7
       subst c7
       rw [if_neg (show ¬ (false = true) by decide)] at H
       by_cases c8 : 65 ≤ a0
       ·rw [if_pos c8] at H
        have c8b0 := decide_eq_true c8
        clear c8
        by_cases c9 : a0 ≤ 70
        ·rw [if_pos c9] at H
         have c9b0 := decide_eq_true c9
         clear c9
         obtain rfl := Option.some.inj H
         go_wp2
         go_ret
         exact ⟨by rfl, by repeat (first | exact Drawn0.refl _ | apply Drawn0.step)⟩
        ·rw [if_neg c9] at H
         have c9b0 := decide_eq_false c9
         clear c9
         obtain rfl := Option.some.inj H
         go_wp2
         go_ret
         exact ⟨by rfl, by repeat (first | exact Drawn0.refl _ | apply Drawn0.step)⟩
       ·rw [if_neg c8] at H
        have c8b0 := decide_eq_false c8
        clear c8
        obtain rfl := Option.some.inj H
        go_wp2
        go_ret
        exact ⟨by rfl, by repeat (first | exact Drawn0.refl _ | apply Drawn0.step)⟩
mutual
def q_zzQueryUnescape.l0 : Nat → ByteArray → List Int → Int → Option (ByteArray × Option Int)
 | 0, _, _, _ => none
 | k + 1, x0, x4, x5 => if x5 < (x0.size : Int) then (if 0 ≤ x5 then (if (bt x0 x5) = 37 then (if (wrap64 (x5 + 2)) ≥ (x0.size : Int) then (q_zzQueryUnescape.j1 k x0 x4 x5 true) else (if 0 ≤ (wrap64 (x5 + 1)) then (if (wrap64 (x5 + 1)) < (x0.size : Int) then ((q_zzDigit.f k (bt x0 (wrap64 (x5 + 1)))).bind fun t719 => (if t719 > 15 then (q_zzQueryUnescape.j1 k x0 x4 x5 true) else (if 0 ≤ (wrap64 (x5 + 2)) then (if (wrap64 (x5 + 2)) < (x0.size : Int) then ((q_zzDigit.f k (bt x0 (wrap64 (x5 + 2)))).bind fun t720 => (q_zzQueryUnescape.j1 k x0 x4 x5 (decide (t720 > 15)))) else (none)) else (none)))) else (none)) else (none))) else (if (bt x0 x5) = 43 then (if x4.length < 140737488355328 then (q_zzQueryUnescape.l0 k x0 (x4 ++ [32]) (wrap64 (x5 + 1))) else (none)) else (if x4.length < 140737488355328 then (q_zzQueryUnescape.l0 k x0 (x4 ++ [bt x0 x5]) (wrap64 (x5 + 1))) else (none)))) else (none)) else (some (strOfNums x4, none))
def q_zzQueryUnescape.j1 : Nat → ByteArray → List Int → Int → Bool → Option (ByteArray × Option Int)
 | 0, _, _, _, _ => none
 | k + 1, x0, x4, x5, x43 => if x43 = true then (none) else (if 0 ≤ (wrap64 (x5 + 1)) then (if (wrap64 (x5 + 1)) < (x0.size : Int) then ((q_zzDigit.f k (bt x0 (wrap64 (x5 + 1)))).bind fun t721 => (if 0 ≤ (wrap64 (x5 + 2)) then (if (wrap64 (x5 + 2)) < (x0.size : Int) then ((q_zzDigit.f k (bt x0 (wrap64 (x5 + 2)))).bind fun t722 => (if x4.length < 140737488355328 then (q_zzQueryUnescape.l0 k x0 (x4 ++ [Go.bits .or .u8 ((t721 * 16) % 256) t722]) (wrap64 ((wrap64 (x5 + 2)) + 1))) else (none))) else (none)) else (none))) else (none)) else (none))
end
def q_zzQueryUnescape.f (k : Nat) (a0 : ByteArray) : Option (ByteArray × Option Int) := q_zzQueryUnescape.l0 k a0 ([] : List Int) 0
def q_zzQueryUnescape.T13 : Bool × List (List Nat × List Nat) := (true, [([], []), ([], []), ([], []), ([2], [2]), ([1, 3], [1, 3]), ([4], [4]), ([5], [5]), ([], []), ([], []), ([8], [8]), ([7, 9], [7, 9]), ([10, 5], [10]), ([6, 11], [6, 11]), ([12], [12]), ([0, 13, 11], [0, 13]), ([14, 14, 0, 1, 2, 3, 4, 5, 6, 7, 8, 9, 10, 11, 12, 13, 14], [0, 14])])
def q_zzQueryUnescape.B13 : List Nat := [0, 0, 0, 4, 14, 30, 62, 0, 0, 256, 896, 1982, 4094, 8190, 16383, 32767]
theorem q_zzQueryUnescape.tab13 : rtab .any (opsOf Tryz.f42 13) = q_zzQueryUnescape.T13 := by kernel_rfl
theorem q_zzQueryUnescape.bits13 : waitsOk q_zzQueryUnescape.T13.2 q_zzQueryUnescape.B13 = true := by kernel_rfl
theorem q_zzQueryUnescape.calls (k : Nat) (a0 : ByteArray) (r1 : ByteArray) (r2 : Option Int) (w : World) (h : q_zzQueryUnescape.f k a0 = some (r1, r2)) :
  Calls Tryz.prog 42 #[.string a0] w fun e w' => e = .returned (.tuple #[.string r1, errW r2]) ∧ Below w.heap.size w w' := by
 have HB := aS_ (Below.refl w.heap.size w)
 have H : (q_zzQueryUnescape.l0 k a0 ([] : List Int) 0) = some (r1, r2) := h
 clear h
 have H' := Aside0.mk H
 clear H
 go_enter Tryz.func42, Tryz.ntmps42
 go_wp2
 go_loopg [0, 4, 5] k (fun kq v0 v4 v5 w' => ∃ (x0_1 : ByteArray) (x4_1 : List Int) (x5_1 : Int), v0 = .string x0_1 ∧ v5 = .int .i64 x5_1 ∧ Aside0 (q_zzQueryUnescape.l0 kq x0_1 x4_1 x5_1 = some (r1, r2)) ∧ Aside0 (kq ≤ k) ∧ Aside0 (Kd.R (Kd.int .u8) 5 w' w.heap.size (fun _ => True) v4 x4_1) ∧ Aside0 (Below w.heap.size w w'))
 case atStart => exact ⟨(a0), (([] : List Int)), (0), (by rfl), (by rfl), H', ⟨Nat.le_refl _⟩, ⟨by exact Kd.R_nil _ _ _ _ _⟩, ⟨bel_ HB.out⟩⟩
 case round =>
  clear H'
  obtain ⟨x0_1, x4_1, x5_1, rfl, rfl, HA, HK1, HO_4, HB⟩ := hrel
  cases gk with
  | zero => exact absurd HA.out (by simp [q_zzQueryUnescape.l0])
  | succ k1 =>
   have H := HA.out; clear HA
   simp only [q_zzQueryUnescape.l0] at H
   by_cases c2 : x5_1 < (x0_1.size : Int)
   ·rw [if_pos c2] at H
    have c2b0 := decide_eq_true c2
    clear c2
    replace H := yes_ H; obtain ⟨c3, H⟩ := H
    have c3b0 := decide_eq_true c3
    clear c3
    by_cases c5 : (bt x0_1 x5_1) = 37
    ·rw [if_pos c5] at H
     have c5b0 := beq_iff_eq.mpr c5
     have c5b1 := bne_eq_false_iff_eq.mpr c5
     clear c5
     have HC6 := Aside0.mk H
     clear H
     have p4 : 0 ≤ (x5_1 : Int) := of_decide_eq_true (by assumption)
     have q4 : x5_1 < (x0_1.size : Int) := of_decide_eq_true (by assumption)
     have hx4 := bt_at x0_1 x5_1
     replace p4 := eq_true p4
     replace q4 := eq_true q4
     go_upto_region 8 with (fail)
     go_cut [43] (fun v43 wc => ∃ (kq : Nat) (x43_5 : Bool), v43 = .bool x43_5 ∧ Aside0 (q_zzQueryUnescape.j1 kq x0_1 x4_1 x5_1 x43_5 = some (r1, r2)) ∧ Aside0 (kq ≤ k1) ∧ Aside0 (Kd.R (Kd.int .u8) 5 wc w.heap.size (fun _ => True) u4 x4_1) ∧ Aside0 (Below w.heap.size w wc))
     case first =>
      have H := HC6.out
      clear HC6
      by_cases c7 : (wrap64 (x5_1 + 2)) ≥ (x0_1.size : Int)
      ·rw [if_pos c7] at H
       have c7b0 : decide ((x0_1.size : Int) ≤ (wrap64 (x5_1 + 2))) = true := decide_eq_true c7
       clear c7
       have H' := Aside0.mk H
       clear H
       go_wp2
       go_meet
       case rel => exact ⟨_, (true), (by rfl), H', ⟨by have := HK1.out; omega⟩, ⟨Kd.R_st HO_4.out⟩, ⟨bel_ HB.out⟩⟩
      ·rw [if_neg c7] at H
       have c7b0 : decide ((x0_1.size : Int) ≤ (wrap64 (x5_1 + 2))) = false := decide_eq_false c7
       clear c7
       obtain ⟨ji8, hji8⟩ : ∃ j_ : Int, (wrap64 (x5_1 + 1)) = j_ := ⟨_, rfl⟩
       rw [hji8] at H
       have hji8w : (IntKind.i64.wrap (x5_1 + 1)) = ji8 := (i64_w _).trans hji8
       replace H := yes_ H; obtain ⟨c9, H⟩ := H
       have c9b0 := decide_eq_true c9
       clear c9
       replace H := yes_ H; obtain ⟨c10, H⟩ := H
       have c10b0 := decide_eq_true c10
       clear c10
       replace H := Option.bind_eq_some_iff.mp H
       obtain ⟨t719, A120, H⟩ := H
       have A12 := Aside0.mk A120
       clear A120
       by_cases c13 : t719 > 15
       ·rw [if_pos c13] at H
        have c13b0 : decide (15 < t719) = true := decide_eq_true c13
        clear c13
        have H' := Aside0.mk H
        clear H
        have p11 : 0 ≤ ((ji8) : Int) := of_decide_eq_true (by assumption)
        have q11 : (ji8) < (x0_1.size : Int) := of_decide_eq_true (by assumption)
        have hx11 := bt_at x0_1 (ji8)
        replace p11 := eq_true p11
        replace q11 := eq_true q11
        go_wp2_with ((go_at_call 73; (with_reducible refine (q_zzDigit.calls k1 (bt x0_1 (ji8)) t719 _ A12.out).mono ?_); rintro e w' ⟨rfl, ⟨nd, rfl⟩⟩))
        go_meet
        case rel => exact ⟨_, (true), (by rfl), H', ⟨by have := HK1.out; omega⟩, ⟨Kd.R_st HO_4.out⟩, ⟨bel_ HB.out⟩⟩
       ·rw [if_neg c13] at H
        have c13b0 : decide (15 < t719) = false := decide_eq_false c13
        clear c13
        obtain ⟨ji14, hji14⟩ : ∃ j_ : Int, (wrap64 (x5_1 + 2)) = j_ := ⟨_, rfl⟩
        rw [hji14] at H
        (try rw [hji14] at c7b0)
        have hji14w : (IntKind.i64.wrap (x5_1 + 2)) = ji14 := (i64_w _).trans hji14
        replace H := yes_ H; obtain ⟨c15, H⟩ := H
        have c15b0 := decide_eq_true c15
        clear c15
        replace H := yes_ H; obtain ⟨c16, H⟩ := H
        have c16b0 := decide_eq_true c16
        clear c16
        replace H := Option.bind_eq_some_iff.mp H
        obtain ⟨t720, A180, H⟩ := H
        have A18 := Aside0.mk A180
        clear A180
        have H' := Aside0.mk H
        clear H
        have p11 : 0 ≤ ((ji8) : Int) := of_decide_eq_true (by assumption)
        have q11 : (ji8) < (x0_1.size : Int) := of_decide_eq_true (by assumption)
        have hx11 := bt_at x0_1 (ji8)
        replace p11 := eq_true p11
        replace q11 := eq_true q11
        go_wp2_with (first | (go_at_call 73; (with_reducible refine (q_zzDigit.calls k1 (bt x0_1 (ji8)) t719 _ A12.out).mono ?_); rintro e w' ⟨rfl, ⟨nd, rfl⟩⟩; have p17 : 0 ≤ ((ji14) : Int) := of_decide_eq_true (by assumption); have q17 : (ji14) < (x0_1.size : Int) := of_decide_eq_true (by assumption); have hx17 := bt_at x0_1 (ji14); replace p17 := eq_true p17; replace q17 := eq_true q17) | (go_at_call 73; (with_reducible refine (q_zzDigit.calls k1 (bt x0_1 (ji14)) t720 _ A18.out).mono ?_); rintro e w' ⟨rfl, ⟨nd, rfl⟩⟩))
        go_meet
        case rel => exact ⟨_, (decide (t720 > 15)), (by rfl), H', ⟨by have := HK1.out; omega⟩, ⟨Kd.R_st HO_4.out⟩, ⟨bel_ HB.out⟩⟩
     case rest =>
      clear HC6
      obtain ⟨kq, x43_5, rfl, HA, HJ5, HO_4, HB⟩ := hcut
      cases kq with
      | zero => exact absurd HA.out (by simp [q_zzQueryUnescape.j1])
      | succ kj5 =>
       have H := HA.out; clear HA
       simp only [q_zzQueryUnescape.j1] at H
       by_cases c19 : x43_5 = true
       ·subst c19
        rw [if_pos rfl] at H
        exact absurd H (by simp)
       ·replace c19 := Bool.eq_false_iff.mpr c19
        subst c19
        rw [if_neg (show ¬ (false = true) by decide)] at H
        obtain ⟨ji20, hji20⟩ : ∃ j_ : Int, (wrap64 (x5_1 + 1)) = j_ := ⟨_, rfl⟩
        rw [hji20] at H
        have hji20w : (IntKind.i64.wrap (x5_1 + 1)) = ji20 := (i64_w _).trans hji20
        replace H := yes_ H; obtain ⟨c21, H⟩ := H
        have c21b0 := decide_eq_true c21
        clear c21
        replace H := yes_ H; obtain ⟨c22, H⟩ := H
        have c22b0 := decide_eq_true c22
        clear c22
        replace H := Option.bind_eq_some_iff.mp H
        obtain ⟨t721, A240, H⟩ := H
        have A24 := Aside0.mk A240
        clear A240
        obtain ⟨ji25, hji25⟩ : ∃ j_ : Int, (wrap64 (x5_1 + 2)) = j_ := ⟨_, rfl⟩
        rw [hji25] at H
        have hji25w : (IntKind.i64.wrap (x5_1 + 2)) = ji25 := (i64_w _).trans hji25
        replace H := yes_ H; obtain ⟨c26, H⟩ := H
        have c26b0 := decide_eq_true c26
        clear c26
        replace H := yes_ H; obtain ⟨c27, H⟩ := H
        have c27b0 := decide_eq_true c27
        clear c27
        replace H := Option.bind_eq_some_iff.mp H
        obtain ⟨t722, A290, H⟩ := H
        have A29 := Aside0.mk A290
        clear A290
        replace H := yes_ H; obtain ⟨c30, H⟩ := H
        have LMc30 := Aside0.mk c30
        clear c30
        obtain ⟨y723, hy723⟩ : ∃ y_ : List Int, y_ = (x4_1 ++ [Go.bits .or .u8 ((t721 * 16) % 256) t722]) := ⟨_, rfl⟩
        replace H : (q_zzQueryUnescape.l0 kj5 x0_1 y723 (wrap64 ((ji25) + 1))) = some (r1, r2) := by (rw [hy723]; with_reducible exact H)
        have Ny723 := Aside0.mk hy723
        clear hy723
        have H' := Aside0.mk H
        clear H
        try go_wp2
        replace HO_4 := aS_ (Kd.R_drew HO_4.out)
        replace HB := aS_ (bD_ HB.out)
        have p23 : 0 ≤ ((ji20) : Int) := of_decide_eq_true (by assumption)
        have q23 : (ji20) < (x0_1.size : Int) := of_decide_eq_true (by assumption)
        have hx23 := bt_at x0_1 (ji20)
        replace p23 := eq_true p23
        replace q23 := eq_true q23
        have p28 : 0 ≤ ((ji25) : Int) := of_decide_eq_true (by assumption)
        have q28 : (ji25) < (x0_1.size : Int) := of_decide_eq_true (by assumption)
        have hx28 := bt_at x0_1 (ji25)
        replace p28 := eq_true p28
        replace q28 := eq_true q28
        refine sA_ (fun w' => True) [] q_zzQueryUnescape.tab13 q_zzQueryUnescape.bits13 trivial (fun hHeld HT_ HW_ => ?_)
        generalize wc.drew = w31 at HO_4 HB hHeld ⊢
        refine pA_ 0 (h:=pA_ 1 (h:=pA_ 2 (h:=pA_ 3 (h:=pA_ 7 (h:=pA_ 8 (h:=pA_ 9 (h:=tA_ 4 (h:=tA_ 10 (h:=?_)))))))))
        refine oA_ 5 (some 61) (h:=fun K hK => ?_)
        refine goes_ Tryz.func73 (by kernel_rfl) rfl #[.int .u8 (bt x0_1 (ji20))] (by rfl) rfl rfl (by (try simp only [List.map_toArray, List.map_cons, List.map_nil]); rfl) ?_
        with_reducible refine (q_zzDigit.calls kj5 (bt x0_1 (ji20)) t721 _ A24.out).mono ?_
        rintro e w' ⟨rfl, ⟨nd, rfl⟩⟩
        refine ⟨_, rfl, ?_⟩
        refine hK.out _ _ trivial (fun hHeld => ?_)
        clear hK K
        refine nA_ (h:=?_)
        refine pA_ 6 (h:=?_)
        refine oA_ 11 (some 67) (h:=fun K hK => ?_)
        refine goes_ Tryz.func73 (by kernel_rfl) rfl #[.int .u8 (bt x0_1 (ji25))] (by rfl) rfl rfl (by (try simp only [List.map_toArray, List.map_cons, List.map_nil]); rfl) ?_
        with_reducible refine (q_zzDigit.calls kj5 (bt x0_1 (ji25)) t722 _ A29.out).mono ?_
        rintro e w' ⟨rfl, ⟨nd, rfl⟩⟩
        refine ⟨_, rfl, ?_⟩
        refine hK.out _ _ trivial (fun hHeld => ?_)
        clear hK K
        refine nA_ (h:=?_)
        refine pA_ 12 (h:=?_)
        refine oA_ 13 (some 69) (h:=fun K hK => ?_)
        refine value_ (w1 := ?_) (v := ?_) (by rfl) rfl ?_ ?_
        rotate_left 2
        ·go_simp
         constructor
         ·rfl
         ·rfl
        refine hK.out _ _ trivial (fun hHeld => ?_)
        clear hK K
        refine nA_ (h:=?_)
        refine oA_ 14 (some 70) (h:=fun K hK => ?_)
        refine Kd.R_append_step (Kd.int .u8) (w0 := w) w.heap.size (by rfl) (.tmp 56) (.tmp 69) 97 5 (.int .u8 0) 1 rfl Tryz.underlying97 info5 rfl (by decide) (by omega) u4 x4_1 (Go.bits .or .u8 ((t721 * 16) % 256) t722) [.int .u8 (Go.bits .or .u8 ((t721 * 16) % 256) t722)] (fun _ => True) (fun _ => False) rfl rfl ?aP (fun _ hk => hk.elim) ?aF ?aO ?aB ?aS ?aL ?_
        (case aP => exact rfl)
        (case aB => exact (bel_ HB.out))
        (case aF => exact (fun _ _ => trivial))
        (case aO => exact (Kd.R_st HO_4.out))
        (case aS => exact (bz_ (bel_ HB.out)))
        (case aL => have := LMc30.out; omega)
        intro v724 w32 ho hb hg hat
        rw [← Ny723.out] at ho
        replace HB := aS_ (hb)
        have HO725 := aS_ (ho)
        clear HO_4
        clear ho hb hg hat
        refine hK.out _ _ trivial (fun hHeld => ?_)
        clear hK K
        refine nA_ (h:=?_)
        refine pA_ 15 (h:=?_)
        refine done_ (done_of HT_.out (by kernel_rfl)) ?_
        try go_wp2
        go_roundg kj5
        case measure => have := HK1.out; have := HJ5.out; omega
        case rel => exact ⟨(x0_1), (y723), (wrap64 ((ji25) + 1)), (by rfl), (by rfl), H', ⟨by have := HK1.out; have := HJ5.out; omega⟩, ⟨Kd.R_st HO725.out⟩, ⟨bel_ HB.out⟩⟩
    ·rw [if_neg c5] at H
     have c5b0 := beq_eq_false_iff_ne.mpr c5
     have c5b1 := bne_iff_ne.mpr c5
     by_cases c33 : (bt x0_1 x5_1) = 43
     ·rw [if_pos c33] at H
      have c33b0 := beq_iff_eq.mpr c33
      have c33b1 := bne_eq_false_iff_eq.mpr c33
      clear c33
      replace H := yes_ H; obtain ⟨c34, H⟩ := H
      have LMc34 := Aside0.mk c34
      clear c34
      obtain ⟨y726, hy726⟩ : ∃ y_ : List Int, y_ = (x4_1 ++ [32]) := ⟨_, rfl⟩
      replace H : (q_zzQueryUnescape.l0 k1 x0_1 y726 (wrap64 (x5_1 + 1))) = some (r1, r2) := by (rw [hy726]; with_reducible exact H)
      have Ny726 := Aside0.mk hy726
      clear hy726
      have H' := Aside0.mk H
      clear H
      have p4 : 0 ≤ (x5_1 : Int) := of_decide_eq_true (by assumption)
      have q4 : x5_1 < (x0_1.size : Int) := of_decide_eq_true (by assumption)
      have hx4 := bt_at x0_1 x5_1
      replace p4 := eq_true p4
      replace q4 := eq_true q4
      go_wp2_with (((with_reducible refine gate_builtin (b := .append) (xs := #[.tmp 75, .tmp 76]) rfl ?_); at_builtin; refine Kd.R_append (Kd.int .u8) (w0 := w) w.heap.size rfl (.tmp 75) (.tmp 76) 97 5 (.int .u8 0) 1 rfl Tryz.underlying97 info5 rfl (by decide) (by omega) u4 x4_1 32 [.int .u8 32] (fun _ => True) (fun _ => False) rfl rfl ?aP (fun _ hk => hk.elim) ?aF ?aO ?aB ?aS ?aL ?_; (case aP => exact rfl); (case aB => exact (bel_ HB.out)); (case aF => exact (fun _ _ => trivial)); (case aO => exact (Kd.R_st HO_4.out)); (case aS => exact (bz_ (bel_ HB.out))); (case aL => have := LMc34.out; omega); intro v727 w35 ho hb hg hat; rw [← Ny726.out] at ho; replace HB := aS_ (hb); have HO728 := aS_ (ho); clear HO_4; clear ho hb hg hat))
      go_roundg k1
      case measure => have := HK1.out; omega
      case rel => exact ⟨(x0_1), (y726), (wrap64 (x5_1 + 1)), (by rfl), (by rfl), H', ⟨by have := HK1.out; omega⟩, ⟨Kd.R_st HO728.out⟩, ⟨bel_ HB.out⟩⟩
     ·rw [if_neg c33] at H
      have c33b0 := beq_eq_false_iff_ne.mpr c33
      have c33b1 := bne_iff_ne.mpr c33
      replace H := yes_ H; obtain ⟨c37, H⟩ := H
      have LMc37 := Aside0.mk c37
      clear c37
      obtain ⟨y729, hy729⟩ : ∃ y_ : List Int, y_ = (x4_1 ++ [bt x0_1 x5_1]) := ⟨_, rfl⟩
      replace H : (q_zzQueryUnescape.l0 k1 x0_1 y729 (wrap64 (x5_1 + 1))) = some (r1, r2) := by (rw [hy729]; with_reducible exact H)
      have Ny729 := Aside0.mk hy729
      clear hy729
      have H' := Aside0.mk H
      clear H
      have p4 : 0 ≤ (x5_1 : Int) := of_decide_eq_true (by assumption)
      have q4 : x5_1 < (x0_1.size : Int) := of_decide_eq_true (by assumption)
      have hx4 := bt_at x0_1 x5_1
      replace p4 := eq_true p4
      replace q4 := eq_true q4
      have p36 : 0 ≤ (x5_1 : Int) := of_decide_eq_true (by assumption)
      have q36 : x5_1 < (x0_1.size : Int) := of_decide_eq_true (by assumption)
      have hx36 := bt_at x0_1 x5_1
      replace p36 := eq_true p36
      replace q36 := eq_true q36
      go_wp2_with (((with_reducible refine gate_builtin (b := .append) (xs := #[.tmp 15, .tmp 19]) rfl ?_); at_builtin; refine Kd.R_append (Kd.int .u8) (w0 := w) w.heap.size rfl (.tmp 15) (.tmp 19) 97 5 (.int .u8 0) 1 rfl Tryz.underlying97 info5 rfl (by decide) (by omega) u4 x4_1 (bt x0_1 x5_1) [.int .u8 (bt x0_1 x5_1)] (fun _ => True) (fun _ => False) rfl rfl ?aP (fun _ hk => hk.elim) ?aF ?aO ?aB ?aS ?aL ?_; (case aP => exact rfl); (case aB => exact (bel_ HB.out)); (case aF => exact (fun _ _ => trivial)); (case aO => exact (Kd.R_st HO_4.out)); (case aS => exact (bz_ (bel_ HB.out))); (case aL => have := LMc37.out; omega); intro v730 w38 ho hb hg hat; rw [← Ny729.out] at ho; replace HB := aS_ (hb); have HO731 := aS_ (ho); clear HO_4; clear ho hb hg hat))
      go_roundg k1
      case measure => have := HK1.out; omega
      case rel => exact ⟨(x0_1), (y729), (wrap64 (x5_1 + 1)), (by rfl), (by rfl), H', ⟨by have := HK1.out; omega⟩, ⟨Kd.R_st HO731.out⟩, ⟨bel_ HB.out⟩⟩
   ·rw [if_neg c2] at H
    have c2b0 := decide_eq_false c2
    clear c2
    simp only [Option.some.injEq, Prod.mk.injEq] at H
    obtain ⟨rfl, rfl⟩ := H
    have hcv39 := own_string (P := Tryz.prog) Tryz.underlying97 Tryz.underlying5 Tryz.underlying9 (Kd.own_of_R HO_4.out)
    go_wp2
    go_ret2
    exact ⟨by rfl, bel_ HB.out⟩
theorem go_loop {σ β ρ : Type} (F : Nat → σ → Int → Option ρ) (l : List β) (step : σ → β → σ) (inv : Nat → σ → Prop) (r : ρ)
  (hinv : ∀ i (hi : i < l.length) s, inv i s → inv (i + 1) (step s l[i]))
  (hgo : ∀ i (hi : i < l.length) s, inv i s → Ev (fun k => F k (step s l[i]) ((i + 1 : Nat) : Int)) r → Ev (fun k => F k s (i : Int)) r) :
  ∀ n i s, i + n = l.length → inv i s → (∀ s', s' = (l.drop i).foldl step s → inv l.length s' → Ev (fun k => F k s' (l.length : Int)) r) → Ev (fun k => F k s (i : Int)) r
 | 0, i, s, h, hi, he => by
  obtain rfl : i = l.length := by omega
  exact he s (by rw [List.drop_length]; rfl) hi
 | n + 1, i, s, h, hi, he => by
  have hl : i < l.length := by omega
  refine hgo i hl s hi (go_loop F l step inv r hinv hgo n (i + 1) _ (by omega) (hinv i hl s hi) ?_)
  intro s' e hs'
  exact he s' (by rw [List.drop_eq_getElem_cons hl, List.foldl_cons]; exact e) hs'
def gapL (e : Bool) : Bs := if e then [10] else []
def blockL (e : Bool) (ls : List Bs) : Bs := ls.flatMap fun l => (l ++ [10]) ++ gapL e
def textL (e : Bool) (ps : List S42) : Bs := ps.flatMap fun p => blockL e (linesL p)
theorem hdrL_len (p : S42) (h : okPiece p = true) : (hdrL p).length ≤ 39 := by
 obtain ⟨h0, h1, h2, h3, h4, h5, h6⟩ := okPiece_facts h
 have s1 := span_len p.f0.toNat p.f2.toNat (by omega) (by omega)
 have s2 := span_len p.f1.toNat p.f3.toNat (by omega) (by omega)
 simp [hdrL]; omega
theorem lineL_len (d : S75) (h : okDiff d = true) : (lineL d).length ≤ 121 := by
 obtain ⟨g1, g2, g3, g4⟩ := okDiff_facts h
 have := esc_len d.f1.data.toList
 have hs := size_data d.f1
 simp [lineL]; omega
theorem linesL_len (p : S42) (h : okPiece p = true) : (linesL p).length ≤ 9 ∧ ∀ l ∈ linesL p, l.length ≤ 121 := by
 obtain ⟨h0, h1, h2, h3, h4, h5, h6⟩ := okPiece_facts h
 refine ⟨by simp [linesL]; omega, fun l hl => ?_⟩
 simp only [linesL, List.mem_cons, List.mem_map] at hl
 rcases hl with rfl | ⟨d, hd, rfl⟩
 ·have := hdrL_len p h; omega
 ·exact lineL_len d (h5 d hd)
theorem ev_block (e : Bool) (ps : List S42) (i : Nat) (hi : i ≤ 100) (ls : List Bs) (hl : ls.length ≤ 9) (hn : ∀ l ∈ ls, l.length ≤ 121) (x : Bs) (hx : x.length ≤ 200000) (r : ByteArray)
  (h : Ev (fun k => laws_patchText.l0 k e (B (x ++ blockL e ls)) ps (ps.length : Int) ((i + 1 : Nat) : Int)) r) :
  Ev (fun k => laws_patchText.l1 k e (B x) ps (ps.length : Int) (i : Int) (ls.map fun l => B (l ++ [10])) ((ls.map fun l => B (l ++ [10])).length : Int) 0) r := by
 have key := go_loop (fun k s j => laws_patchText.l1 k e s ps (ps.length : Int) (i : Int) (ls.map fun l => B (l ++ [10])) ((ls.map fun l => B (l ++ [10])).length : Int) j) ls (fun s l => s ++ B ((l ++ [10]) ++ gapL e))
  (fun j s => s.size ≤ 200000 + 200 * j) r ?_ ?_ ls.length 0 (B x) (by omega) (by rw [B_size]; omega) ?_
 ·exact key
 ·intro j hj s hs
  have := hn _ (List.getElem_mem hj)
  rw [ByteArray.size_append, B_size]
  have hg : (gapL e).length ≤ 1 := by unfold gapL; split <;> simp
  simp only [List.length_append, List.length_cons, List.length_nil]; omega
 ·intro j hj s hs hr
  refine Ev.succ ?_
  simp only [laws_patchText.l1]
  have hlm : (ls.map fun l => B (l ++ [10])).length = ls.length := List.length_map ..
  refine Ev.if_pos (by omega) (Ev.if_pos (by omega) (Ev.if_pos (by omega) ?_))
  rw [w64s j (by omega)]
  have hjm : j < (ls.map fun l => B (l ++ [10])).length := by omega
  have er : rdOf ByteArray.empty (ls.map fun l => B (l ++ [10])) (j : Int) = B (ls[j] ++ [10]) := by
   unfold rdOf; rw [getD_nat _ _ j hjm]; simp
  have := hn _ (List.getElem_mem hj)
  rw [er]
  refine Ev.if_pos (by rw [B_size]; simp only [List.length_append, List.length_cons, List.length_nil]; omega) ?_
  cases e with
  | true =>
   refine Ev.if_pos rfl (Ev.if_pos (by rw [ByteArray.size_append, B_size]; simp only [List.length_append, List.length_cons, List.length_nil]; omega) ?_)
   have e9 : s ++ B ((ls[j] ++ [10]) ++ gapL true) = s ++ B (ls[j] ++ [10]) ++ (⟨#[10]⟩ : ByteArray) := by
    rw [show (⟨#[10]⟩ : ByteArray) = B [10] from rfl, ByteArray.append_assoc, B_append]; rfl
   rw [← e9]
   exact hr
  | false =>
   refine Ev.if_neg (by decide) ?_
   simpa [gapL] using hr
 ·intro s' es hs'
  refine Ev.succ ?_
  simp only [laws_patchText.l1]
  have hlm : (ls.map fun l => B (l ++ [10])).length = ls.length := List.length_map ..
  refine Ev.if_neg (by omega) ?_
  rw [w64s i (by omega)]
  have e2 : ∀ (m : List Bs) (x : Bs), m.foldl (fun s l => s ++ B ((l ++ [10]) ++ gapL e)) (B x) = B (x ++ blockL e m) := by
   intro m
   induction m with
   | nil => intro x; simp [blockL]
   | cons c l ih => intro x; rw [List.foldl_cons, B_append, ih]; simp [blockL]
  rw [List.drop_zero, e2] at es
  rw [es]
  exact h
theorem block_len (e : Bool) : ∀ ls : List Bs, (∀ l ∈ ls, l.length ≤ 121) → (blockL e ls).length ≤ 123 * ls.length
 | [], _ => by simp [blockL]
 | l :: ls, h => by
  have h1 := h l List.mem_cons_self
  have h2 := block_len e ls (fun x hx => h x (List.mem_cons_of_mem _ hx))
  have hg : (gapL e).length ≤ 1 := by unfold gapL; split <;> simp
  simp only [blockL, List.flatMap_cons, List.length_append, List.length_cons, List.length_nil] at h2 ⊢
  omega
theorem ev_patchText (l : List S33) (e : Bool) (hf : fits5 l = true) (hok : ∀ p ∈ l.map toP, okPiece p = true) (hl : l.length ≤ 8) : Ev (fun k => laws_patchText.f k l e) (B (textL e (l.map toP))) := by
 simp only [laws_patchText.f]
 refine Ev.bind (ev_patchesOf l hf) ?_
 have hps : (l.map toP).length ≤ 8 := by rw [List.length_map]; exact hl
 generalize l.map toP = ps at hok hps ⊢
 have e2 : ∀ (m : List S42) (x : Bs), m.foldl (fun s p => s ++ B (blockL e (linesL p))) (B x) = B (x ++ textL e m) := by
  intro m
  induction m with
  | nil => intro x; simp [textL]
  | cons c l ih => intro x; rw [List.foldl_cons, B_append, ih]; simp [textL]
 have key := fold_loop0 (fun k s i => laws_patchText.l0 k e s ps (ps.length : Int) i) ps (fun s p => s ++ B (blockL e (linesL p))) (fun i s => ∃ x, s = B x ∧ x.length ≤ 1107 * i) id (B []) ⟨[], rfl, by simp⟩ ?_ ?_ ?_
 ·have := e2 ps []
  rw [this] at key
  exact key
 ·rintro i hi s ⟨x, rfl, hx⟩
  have h1 := linesL_len _ (hok _ (List.getElem_mem hi))
  have h2 := block_len e _ h1.2
  exact ⟨x ++ blockL e (linesL ps[i]), B_append _ _, by rw [List.length_append]; omega⟩
 ·rintro s ⟨x, rfl, hx⟩
  exact Ev.succ ⟨0, fun k _ => by simp only [laws_patchText.l0]; rw [if_neg (by omega)]; rfl⟩
 ·rintro i hi s r ⟨x, rfl, hx⟩ hr
  refine Ev.succ ?_
  simp only [laws_patchText.l0]
  refine Ev.if_pos (by omega) (Ev.if_pos (by omega) (Ev.if_pos (by omega) ?_))
  simp only [rd_T42, getD_nat _ _ i hi]
  have hp := hok _ (List.getElem_mem hi)
  have h1 := linesL_len _ hp
  refine Ev.bind (ev_lines _ hp) ?_
  refine ev_block e ps i (by omega) (linesL ps[i]) h1.1 h1.2 x (by omega) r ?_
  rw [B_append] at hr
  exact hr
theorem cut1 (l : Bs) (i : Nat) (hi : i < l.length) : (B l).extract i (i + 1) = B [l[i]] := by
 rw [B_extract]
 congr 1
 rw [List.drop_eq_getElem_cons hi, show i + 1 - i = 1 by omega, List.take_succ_cons, List.take_zero]
theorem index_l0 (l : Bs) (c : UInt8) (hl : l.length ≤ 4611686018427387904) (m : Nat) (hm : m ≤ l.length) (hnot : ∀ j (hj : j < l.length), j < m → l[j] ≠ c) (hat : ∀ (hj : m < l.length), l[m] = c) : ∀ n i, i + n = m →
  Ev (fun k => q_zzIndex.l0 k (B l) (B [c]) (i : Int)) (if m < l.length then (m : Int) else -1)
 | 0, i, h => by
  obtain rfl : i = m := by omega
  refine Ev.succ ?_
  simp only [q_zzIndex.l0, B_size, List.length_cons, List.length_nil]
  rw [show ((0 + 1 : Nat) : Int) = 1 from rfl, w64s i (by omega)]
  by_cases hlt : i < l.length
  ·rw [if_pos hlt]
   refine Ev.if_pos (by omega) (Ev.if_pos (by omega) (Ev.if_pos (by omega) ?_))
   refine Ev.if_pos ?_ (Ev.const _)
   simp only [Int.toNat_natCast]
   rw [cut1 l i hlt, hat hlt]
  ·rw [if_neg hlt]
   exact Ev.if_neg (by omega) (Ev.const _)
 | n + 1, i, h => by
  have ih := index_l0 l c hl m hm hnot hat n (i + 1) (by omega)
  refine Ev.succ ?_
  simp only [q_zzIndex.l0, B_size, List.length_cons, List.length_nil]
  rw [show ((0 + 1 : Nat) : Int) = 1 from rfl, w64s i (by omega)]
  refine Ev.if_pos (by omega) (Ev.if_pos (by omega) (Ev.if_pos (by omega) ?_))
  refine Ev.if_neg ?_ ih
  simp only [Int.toNat_natCast]
  rw [cut1 l i (by omega), B_toList, B_toList]
  intro he
  exact hnot i (by omega) (by omega) (List.cons.inj he).1
theorem ev_index_no (l : Bs) (c : UInt8) (hl : l.length ≤ 4611686018427387904) (h : c ∉ l) : Ev (fun k => q_zzIndex.f k (B l) (B [c])) (-1) := by
 have := index_l0 l c hl l.length (Nat.le_refl _) (fun j hj _ he => h (he ▸ List.getElem_mem hj)) (fun hj => absurd hj (by omega)) l.length 0 (by omega)
 rw [if_neg (by omega)] at this
 exact this
theorem ev_index_at (a b : Bs) (c : UInt8) (hl : (a ++ c :: b).length ≤ 4611686018427387904) (h : c ∉ a) : Ev (fun k => q_zzIndex.f k (B (a ++ c :: b)) (B [c])) (a.length : Int) := by
 have := index_l0 (a ++ c :: b) c hl a.length (by simp) (fun j hj hlt he => by
  rw [List.getElem_append_left hlt] at he
  exact h (he ▸ List.getElem_mem hlt)) (fun hj => by simp) a.length 0 (by omega)
 rw [if_pos (by simp)] at this
 exact this
theorem cut_left (a b : Bs) (c : UInt8) : (B (a ++ c :: b)).extract 0 a.length = B a := by rw [B_extract]; simp
theorem cut_right (a b : Bs) (c : UInt8) : (B (a ++ c :: b)).extract (a.length + 1) (a ++ c :: b).length = B b := by
 rw [B_extract]
 congr 1
 rw [show a ++ c :: b = (a ++ [c]) ++ b by simp, show a.length + 1 = (a ++ [c]).length by simp, List.drop_left, List.take_of_length_le (by simp only [List.length_append, List.length_cons, List.length_nil]; omega)]
theorem split_last (l : Bs) (acc : List ByteArray) (hl : l.length ≤ 1000000000000) (ha : acc.length < 8796093022208) (h : 10 ∉ l) : Ev (fun k => q_zzSplit.l1 k (B l) (B [10]) acc) (acc ++ [B l]) := by
 refine Ev.succ ?_
 simp only [q_zzSplit.l1]
 exact Ev.bind (ev_index_no l 10 (by omega) h) (Ev.if_pos (by decide) (Ev.if_pos ha (Ev.const _)))
theorem split_cons (a b : Bs) (acc r : List ByteArray) (hl : (a ++ 10 :: b).length ≤ 1000000000000) (ha : acc.length < 8796093022208) (h : 10 ∉ a) (hr : Ev (fun k => q_zzSplit.l1 k (B b) (B [10]) (acc ++ [B a])) r) :
  Ev (fun k => q_zzSplit.l1 k (B (a ++ 10 :: b)) (B [10]) acc) r := by
 refine Ev.succ ?_
 simp only [q_zzSplit.l1]
 have hl2 : (a ++ 10 :: b).length = a.length + (b.length + 1) := by simp
 refine Ev.bind (ev_index_at a b 10 (by omega) h) (Ev.if_neg (by omega) (Ev.if_pos (by omega) ?_))
 have hw : wrap64 ((a.length : Int) + ((B [10]).size : Int)) = ((a.length + 1 : Nat) : Int) := by rw [B_size]; exact w64s _ (by omega)
 rw [hw]
 simp only [B_size, Int.toNat_natCast]
 rw [cut_left, cut_right]
 exact Ev.if_pos (by omega) (Ev.if_pos ha (Ev.if_pos (by omega) (Ev.if_pos (by omega) hr)))
theorem first_at (c : UInt8) : ∀ l : Bs, c ∈ l → ∃ a b, l = a ++ c :: b ∧ c ∉ a
 | [], h => by cases h
 | x :: l, h => by
  by_cases hx : x = c
  ·subst hx; exact ⟨[], l, rfl, by simp⟩
  ·have hl : c ∈ l := by
    rcases List.mem_cons.1 h with rfl | h
    ·exact absurd rfl hx
    ·exact h
   obtain ⟨a, b, rfl, hn⟩ := first_at c l hl
   refine ⟨x :: a, b, rfl, fun hm => ?_⟩
   rcases List.mem_cons.1 hm with rfl | hm
   ·exact hx rfl
   ·exact hn hm
theorem split_lines : ∀ (ls : List Bs) (rest : Bs) (acc r : List ByteArray), (ls.flatMap (fun l => l ++ [10]) ++ rest).length ≤ 1000000000000 → acc.length + ls.length < 8796093022208 → (∀ l ∈ ls, 10 ∉ l) →
  Ev (fun k => q_zzSplit.l1 k (B rest) (B [10]) (acc ++ ls.map B)) r → Ev (fun k => q_zzSplit.l1 k (B (ls.flatMap (fun l => l ++ [10]) ++ rest)) (B [10]) acc) r
 | [], rest, acc, r, _, _, _, h => by simpa using h
 | l :: ls, rest, acc, r, hl, ha, hn, h => by
  have e : ((l :: ls).flatMap (fun l => l ++ [10]) ++ rest) = l ++ 10 :: (ls.flatMap (fun l => l ++ [10]) ++ rest) := by simp
  rw [e] at hl ⊢
  have hl2 : (l ++ 10 :: (ls.flatMap (fun l => l ++ [10]) ++ rest)).length = l.length + ((ls.flatMap (fun l => l ++ [10]) ++ rest).length + 1) := by simp
  have ha2 : (l :: ls).length = ls.length + 1 := rfl
  refine split_cons l _ acc r hl (by omega) (hn l List.mem_cons_self) ?_
  refine split_lines ls rest (acc ++ [B l]) r (by omega) (by rw [List.length_append]; simp only [List.length_cons, List.length_nil]; omega) (fun x hx => hn x (List.mem_cons_of_mem _ hx)) ?_
  simpa using h
theorem ev_split {l : Bs} {r : List ByteArray} (h : Ev (fun k => q_zzSplit.l1 k (B l) (B [10]) []) r) : Ev (fun k => q_zzSplit.f k (B l) (⟨#[10]⟩ : ByteArray)) r := by
 simp only [q_zzSplit.f]
 exact Ev.if_neg (by decide) h
def replB (c : UInt8) : Bs := if c = 43 then [37, 50, 98] else [c]
def repl (l : Bs) : Bs := l.flatMap replB
def replW (w l : Bs) : Bs := l.flatMap fun c => if c = 43 then w else [c]
theorem replW_no (w l : Bs) (h : 43 ∉ l) : replW w l = l := by
 induction l with
 | nil => rfl
 | cons c l ih =>
  have hc : c ≠ 43 := fun e => h (e ▸ List.mem_cons_self)
  have := ih (fun hm => h (List.mem_cons_of_mem _ hm))
  simp only [replW, List.flatMap_cons] at this ⊢
  rw [this]
  simp [hc]
theorem repl_len : ∀ l : Bs, (repl l).length ≤ 3 * l.length
 | [] => by simp [repl]
 | c :: l => by
  have h2 := repl_len l
  have h1 : (replB c).length ≤ 3 := by unfold replB; split <;> simp
  simp only [repl, List.flatMap_cons, List.length_append, List.length_cons] at h2 ⊢
  omega
theorem replace_l0 (w : Bs) (hw : w.length ≤ 3) : ∀ (n : Nat) (l acc : Bs), l.length ≤ n → n ≤ 1000000 → acc.length + 3 * l.length ≤ 10000000 → Ev (fun k => q_zzReplace.l0 k (B l) (B [43]) (B w) (B acc)) (B (acc ++ replW w l)) := by
 intro n
 induction n with
 | zero =>
  intro l acc h hn ha
  have : l = [] := List.length_eq_zero_iff.1 (by omega)
  subst this
  refine Ev.succ ?_
  simp only [q_zzReplace.l0]
  refine Ev.bind (ev_index_no [] 43 (by simp) (by simp)) (Ev.if_pos (by decide) (Ev.if_pos (by rw [B_size, B_size]; simp only [List.length_nil]; omega) ?_))
  rw [B_append]
  exact Ev.const _
 | succ n ih =>
  intro l acc h hn ha
  by_cases h43 : 43 ∈ l
  ·obtain ⟨a, b, rfl, hna⟩ := first_at 43 l h43
   have hl : (a ++ 43 :: b).length = a.length + (b.length + 1) := by simp
   refine Ev.succ ?_
   simp only [q_zzReplace.l0]
   refine Ev.bind (ev_index_at a b 43 (by omega) hna) (Ev.if_neg (by omega) (Ev.if_pos (by omega) ?_))
   have hw1 : wrap64 ((a.length : Int) + ((B [43]).size : Int)) = ((a.length + 1 : Nat) : Int) := by rw [B_size]; exact w64s _ (by omega)
   rw [hw1]
   simp only [B_size, Int.toNat_natCast]
   rw [cut_left, cut_right, B_append]
   simp only [B_size]
   refine Ev.if_pos (by omega) (Ev.if_pos (by omega) (Ev.if_pos (by simp only [List.length_append]; omega) (Ev.if_pos (by omega) (Ev.if_pos (by omega) ?_))))
   rw [B_append]
   have e : acc ++ replW w (a ++ 43 :: b) = (acc ++ (a ++ w)) ++ replW w b := by
    have := replW_no w a hna
    simp only [replW, List.flatMap_append, List.flatMap_cons] at this ⊢
    rw [this]
    simp
   rw [e]
   exact ih b _ (by omega) (by omega) (by simp only [List.length_append]; omega)
  ·refine Ev.succ ?_
   simp only [q_zzReplace.l0]
   refine Ev.bind (ev_index_no l 43 (by omega) h43) (Ev.if_pos (by decide) (Ev.if_pos (by rw [B_size, B_size]; omega) ?_))
   rw [B_append, replW_no w l h43]
   exact Ev.const _
theorem ev_replaceW (w : Bs) (hw : w.length ≤ 3) (l : Bs) (h : l.length ≤ 1000000) : Ev (fun k => q_zzReplace.f k (B l) (⟨#[43]⟩ : ByteArray) (B w)) (B (replW w l)) := by
 simp only [q_zzReplace.f]
 exact replace_l0 w hw l.length l [] (Nat.le_refl _) h (by simp only [List.length_nil]; omega)
theorem ev_replace (l : Bs) (h : l.length ≤ 1000000) : Ev (fun k => q_zzReplace.f k (B l) (⟨#[43]⟩ : ByteArray) (⟨#[37, 50, 98]⟩ : ByteArray)) (B (repl l)) := ev_replaceW [37, 50, 98] (by decide) l h
def dig (c : Int) : Int := if 48 ≤ c ∧ c ≤ 57 then c - 48 else if 97 ≤ c ∧ c ≤ 102 then c - 87 else if 65 ≤ c ∧ c ≤ 70 then c - 55 else 16
theorem ev_digit (c : Int) (h0 : 0 ≤ c) (h : c < 256) : Ev (fun k => q_zzDigit.f k c) (dig c) := by
 have hj1 : ∀ b : Bool, b = (decide (97 ≤ c) && decide (c ≤ 102)) → ¬ (48 ≤ c ∧ c ≤ 57) → Ev (fun k => q_zzDigit.j1 k c b) (dig c) := by
  intro b hb hn
  refine Ev.succ ?_
  simp only [q_zzDigit.j1]
  cases b with
  | true =>
   have := hb.symm
   simp only [Bool.and_eq_true, decide_eq_true_eq] at this
   rw [show dig c = c - 87 by unfold dig; rw [if_neg hn, if_pos this], show (((c - 97) % 256) + 10) % 256 = c - 87 by omega]
   exact Ev.if_pos rfl (Ev.const _)
  | false =>
   have := hb.symm
   simp only [Bool.and_eq_false_iff, decide_eq_false_iff_not] at this
   have hd : dig c = if 65 ≤ c ∧ c ≤ 70 then c - 55 else 16 := by
    unfold dig
    rw [if_neg hn, if_neg (show ¬ (97 ≤ c ∧ c ≤ 102) by omega)]
   rw [hd]
   refine Ev.if_neg (by decide) ?_
   by_cases h1 : 65 ≤ c
   ·refine Ev.if_pos h1 ?_
    by_cases h2 : c ≤ 70
    ·rw [if_pos (show 65 ≤ c ∧ c ≤ 70 from ⟨h1, h2⟩), show (((c - 65) % 256) + 10) % 256 = c - 55 by omega]
     exact Ev.if_pos h2 (Ev.const _)
    ·rw [if_neg (show ¬ (65 ≤ c ∧ c ≤ 70) by omega)]
     exact Ev.if_neg h2 (Ev.const _)
   ·rw [if_neg (show ¬ (65 ≤ c ∧ c ≤ 70) by omega)]
    exact Ev.if_neg h1 (Ev.const _)
 have hj0 : ∀ b : Bool, b = (decide (48 ≤ c) && decide (c ≤ 57)) → Ev (fun k => q_zzDigit.j0 k c b) (dig c) := by
  intro b hb
  refine Ev.succ ?_
  simp only [q_zzDigit.j0]
  cases b with
  | true =>
   have := hb.symm
   simp only [Bool.and_eq_true, decide_eq_true_eq] at this
   unfold dig
   rw [if_pos this, show (c - 48) % 256 = c - 48 by omega]
   exact Ev.if_pos rfl (Ev.const _)
  | false =>
   have := hb.symm
   simp only [Bool.and_eq_false_iff, decide_eq_false_iff_not] at this
   refine Ev.if_neg (by decide) ?_
   by_cases h1 : 97 ≤ c
   ·exact Ev.if_pos h1 (hj1 _ (by simp [h1]) (by omega))
   ·exact Ev.if_neg h1 (hj1 _ (by simp [h1]) (by omega))
 simp only [q_zzDigit.f]
 by_cases h1 : 48 ≤ c
 ·exact Ev.if_pos h1 (hj0 _ (by simp [h1]))
 ·exact Ev.if_neg h1 (hj0 _ (by simp [h1]))
theorem w64p2 (n : Nat) (h : n < 4611686018427387904) : wrap64 ((n : Int) + 2) = ((n + 1 + 1 : Nat) : Int) := by
 have e : ((n : Int) + 2) = (((n + 1 + 1 : Nat)) : Int) := by omega
 rw [e]
 exact w64 _ (by omega)
def Unit_ (u : Bs) (c : UInt8) : Prop := (u = [c] ∧ c ≠ 37 ∧ c ≠ 43) ∨ ∃ h l : UInt8, u = [37, h, l] ∧ dig (h.toNat : Int) ≤ 15 ∧ dig (l.toNat : Int) ≤ 15 ∧ Go.bits .or .u8 ((dig (h.toNat : Int) * 16) % 256) (dig (l.toNat : Int)) = (c.toNat : Int)
theorem at_drop {l t : Bs} {i : Nat} {c : UInt8} (h : l.drop i = c :: t) : ∃ hi : i < l.length, l[i] = c ∧ l.drop (i + 1) = t := by
 have hi : i < l.length := by
  rcases Nat.lt_or_ge i l.length with h' | h'
  ·exact h'
  ·rw [List.drop_eq_nil_of_le h'] at h; cases h
 refine ⟨hi, ?_⟩
 rw [List.drop_eq_getElem_cons hi] at h
 exact ⟨(List.cons.inj h).1, (List.cons.inj h).2⟩
theorem unescape_l0 (m : Bs) (hm : m.length ≤ 1000000) : ∀ (us : List (Bs × UInt8)) (i : Nat) (acc : List Int), (∀ x ∈ us, Unit_ x.1 x.2) → m.drop i = us.flatMap (·.1) → acc.length + us.length ≤ 2000000 →
  Ev (fun k => q_zzQueryUnescape.l0 k (B m) acc (i : Int)) (strOfNums (acc ++ us.map fun x => (x.2.toNat : Int)), none)
 | [], i, acc, hu, hd, ha => by
  refine Ev.succ ?_
  simp only [q_zzQueryUnescape.l0, B_size]
  have : ¬ i < m.length := by
   intro hi
   rw [List.drop_eq_getElem_cons hi] at hd
   cases hd
  refine Ev.if_neg (by omega) ?_
  simpa using Ev.const _
 | (u, c) :: us, i, acc, hu, hd, ha => by
  have hl : ((u, c) :: us).length = us.length + 1 := rfl
  have ih := fun j acc' => unescape_l0 m hm us j acc' (fun x hx => hu x (List.mem_cons_of_mem _ hx))
  have hal : acc.length < 140737488355328 := by omega
  have hres : acc ++ ((u, c) :: us).map (fun x => (x.2.toNat : Int)) = (acc ++ [(c.toNat : Int)]) ++ us.map (fun x => (x.2.toNat : Int)) := by simp
  rw [hres]
  refine Ev.succ ?_
  simp only [q_zzQueryUnescape.l0, B_size]
  rcases hu _ List.mem_cons_self with ⟨e, hc1, hc2⟩ | ⟨h, l, e, d1, d2, d3⟩
  ·obtain rfl : u = [c] := e
   obtain ⟨hi, hci, hd2⟩ := at_drop (show m.drop i = c :: us.flatMap (·.1) by simpa using hd)
   have hb : bt (B m) (i : Int) = (c.toNat : Int) := by rw [B_bt m i hi, hci]
   have n1 : ¬ (c.toNat : Int) = 37 := fun h_ => hc1 (UInt8.toNat_inj.1 (show c.toNat = 37 by omega))
   have n2 : ¬ (c.toNat : Int) = 43 := fun h_ => hc2 (UInt8.toNat_inj.1 (show c.toNat = 43 by omega))
   rw [hb, w64s i (by omega)]
   exact Ev.if_pos (by omega) (Ev.if_pos (by omega) (Ev.if_neg n1 (Ev.if_neg n2 (Ev.if_pos (by omega) (ih (i + 1) _ hd2 (by rw [List.length_append]; simp only [List.length_cons, List.length_nil]; omega))))))
  ·obtain rfl : u = [37, h, l] := e
   obtain ⟨hi, hci, hd2⟩ := at_drop (show m.drop i = 37 :: h :: l :: us.flatMap (·.1) by simpa using hd)
   obtain ⟨hi1, hci1, hd3⟩ := at_drop hd2
   obtain ⟨hi2, hci2, hd4⟩ := at_drop hd3
   have hb : bt (B m) (i : Int) = 37 := by rw [B_bt m i hi, hci]; rfl
   have hb1 : bt (B m) ((i + 1 : Nat) : Int) = (h.toNat : Int) := by rw [B_bt m (i + 1) hi1, hci1]
   have hb2 : bt (B m) ((i + 1 + 1 : Nat) : Int) = (l.toNat : Int) := by rw [B_bt m (i + 1 + 1) hi2, hci2]
   have hi9 : i < 1000000 := Nat.lt_of_lt_of_le hi hm
   have hw1 := w64s i (Nat.lt_of_lt_of_le hi9 (by decide))
   have hw2 := w64p2 i (Nat.lt_of_lt_of_le hi9 (by decide))
   have hw3 := w64s (i + 1 + 1) (Nat.lt_of_lt_of_le (Nat.lt_of_lt_of_le hi2 hm) (by decide))
   have b1 := UInt8.toNat_lt h
   have b2 := UInt8.toNat_lt l
   have e1 := ev_digit (h.toNat : Int) (Int.natCast_nonneg _) (Int.ofNat_lt.2 b1)
   have e2 := ev_digit (l.toNat : Int) (Int.natCast_nonneg _) (Int.ofNat_lt.2 b2)
   have q1 : (i : Int) < (m.length : Int) := Int.ofNat_lt.2 hi
   have q2 : ((i + 1 : Nat) : Int) < (m.length : Int) := Int.ofNat_lt.2 hi1
   have q3 : ((i + 1 + 1 : Nat) : Int) < (m.length : Int) := Int.ofNat_lt.2 hi2
   rw [hb, hw1, hw2, hb1, hb2]
   refine Ev.if_pos q1 ?_
   refine Ev.if_pos (Int.natCast_nonneg _) ?_
   refine Ev.if_pos rfl ?_
   refine Ev.if_neg (Int.not_le.2 q3) ?_
   refine Ev.if_pos (Int.natCast_nonneg _) ?_
   refine Ev.if_pos q2 ?_
   refine Ev.bind e1 ?_
   refine Ev.if_neg (Int.not_lt.2 d1) ?_
   refine Ev.if_pos (Int.natCast_nonneg _) ?_
   refine Ev.if_pos q3 ?_
   refine Ev.bind e2 ?_
   rw [decide_eq_false (Int.not_lt.2 d2)]
   refine Ev.succ ?_
   simp only [q_zzQueryUnescape.j1, B_size]
   rw [hw1, hw2, hb1, hb2, hw3]
   refine Ev.if_neg (by decide) ?_
   refine Ev.if_pos (Int.natCast_nonneg _) ?_
   refine Ev.if_pos q2 ?_
   refine Ev.bind e1 ?_
   refine Ev.if_pos (Int.natCast_nonneg _) ?_
   refine Ev.if_pos q3 ?_
   refine Ev.bind e2 ?_
   refine Ev.if_pos hal ?_
   rw [d3]
   exact ih (i + 1 + 1 + 1) _ hd4 (by rw [List.length_append]; simp only [List.length_cons, List.length_nil]; omega)
theorem strOfNums_bytes (l : Bs) : strOfNums (l.map fun c => (c.toNat : Int)) = B l := B_ext (by
 rw [strOfNums_data, List.map_map]
 conv => rhs; rw [← List.map_id l]
 exact List.map_congr_left fun c _ => by simp)
theorem ev_unescape (us : List (Bs × UInt8)) (hu : ∀ x ∈ us, Unit_ x.1 x.2) (hl : us.length ≤ 100000) (hm : (us.flatMap (·.1)).length ≤ 1000000) :
  Ev (fun k => q_zzQueryUnescape.f k (B (us.flatMap (·.1)))) (B (us.map (·.2)), none) := by
 have := unescape_l0 (us.flatMap (·.1)) hm us 0 [] hu (by simp) (by simp only [List.length_nil]; omega)
 rw [List.nil_append, show (us.map fun x => (x.2.toNat : Int)) = (us.map (·.2)).map (fun c => (c.toNat : Int)) by simp, strOfNums_bytes] at this
 exact this
def unitOk (c : Nat) : Bool :=
 let b := UInt8.ofNat c; let u := repl (escB b)
 (u == [b] && !(b == 37) && !(b == 43)) || (match u with
  | [37, h, l] => decide (dig (h.toNat : Int) ≤ 15) && decide (dig (l.toNat : Int) ≤ 15) && Go.bits .or .u8 ((dig (h.toNat : Int) * 16) % 256) (dig (l.toNat : Int)) == (b.toNat : Int)
  | _ => false)
theorem unit_all : (List.range 256).all unitOk = true := by kernel_rfl
theorem unit_esc (c : UInt8) : Unit_ (repl (escB c)) c := by
 have h := List.all_eq_true.1 unit_all c.toNat (List.mem_range.2 (UInt8.toNat_lt c))
 unfold unitOk at h
 simp only [UInt8.ofNat_toNat] at h
 generalize repl (escB c) = u at h
 rcases Bool.or_eq_true_iff.1 h with h | h
 ·simp only [Bool.and_eq_true, beq_iff_eq, Bool.not_eq_true', beq_eq_false_iff_ne] at h
  exact .inl ⟨h.1.1, h.1.2, h.2⟩
 ·split at h
  ·rename_i h1 l1 _
   simp only [Bool.and_eq_true, decide_eq_true_eq, beq_iff_eq] at h
   exact .inr ⟨h1, l1, rfl, h.1.1, h.1.2, h.2⟩
  ·cases h
theorem unescape_esc (s : Bs) (hs : s.length ≤ 1000) : Ev (fun k => q_zzQueryUnescape.f k (B (repl (esc s)))) (B s, none) := by
 have e : repl (esc s) = (s.map fun c => (repl (escB c), c)).flatMap (·.1) := by
  simp [repl, esc, List.flatMap_assoc, List.flatMap_map]
 have h1 := repl_len (esc s)
 have h2 := esc_len s
 have := ev_unescape (s.map fun c => (repl (escB c), c)) (fun x hx => by
  obtain ⟨c, _, rfl⟩ := List.mem_map.1 hx
  exact unit_esc c) (by rw [List.length_map]; omega) (by rw [← e]; omega)
 rw [← e] at this
 simpa [List.map_map, Function.comp_def] using this
def ErrAt (w : World) (v : Value) : Option ByteArray → Prop
 | none => v = .nilIface
 | some m => ∃ g, v = .iface 121 (.pointer (some ⟨g, 0, none⟩)) ∧ w.heap[g]? = some (.cells #[.string m] 123 (0, 0))
theorem new_err (m : ByteArray) (w : World) : Calls Tryz.prog 39 #[.string m] w fun e w' => ∃ g, e = .returned (.iface 121 (.pointer (some ⟨g, 0, none⟩))) ∧ w'.heap[g]? = some (.cells #[.string m] 123 (0, 0)) ∧ Below w.heap.size w w' := by
 have hu := Tryz.underlying123
 go_enter Tryz.func39, Tryz.ntmps39
 go_wp2
 go_ret
 refine ⟨_, rfl, ?_, ?_⟩
 ·exact heap_alloc_new w _
 ·exact Below.alloc (Below.refl _ _) (Nat.le_refl _) _
theorem error_text (g : Nat) (m : ByteArray) (w : World) (hg : w.heap[g]? = some (.cells #[.string m] 123 (0, 0))) : Calls Tryz.prog 188 #[.pointer (some ⟨g, 0, none⟩)] w fun e w' => e = .returned (.string m) ∧ w' = w := by
 have hu := Tryz.underlying123
 have hc0 := bc_ hg 0
 go_enter Tryz.func188, Tryz.ntmps188
 go_wp2
 go_ret
 exact ⟨rfl, rfl⟩
def q_zzCut.f (a0 : ByteArray) (a1 : ByteArray) : Option (ByteArray × Bool) := if (a0.size : Int) < (a1.size : Int) then (some (a0, false)) else (if 0 ≤ (a1.size : Int) then (if (a1.size : Int) ≤ (a0.size : Int) then (if (a0.extract 0 a1.size).toList = a1.toList then (some (a0.extract a1.size a0.size, true)) else (some (a0, false))) else (none)) else (none))
theorem q_zzCut.calls (a0 : ByteArray) (a1 : ByteArray) (r1 : ByteArray) (r2 : Bool) (w : World) (h : q_zzCut.f a0 a1 = some (r1, r2)) :
  Calls Tryz.prog 69 #[.string a0, .string a1] w fun e w' => e = .returned (.tuple #[.string r1, .bool r2]) ∧ Drawn0 w w' := by
 have H : (if (a0.size : Int) < (a1.size : Int) then (some (a0, false)) else (if 0 ≤ (a1.size : Int) then (if (a1.size : Int) ≤ (a0.size : Int) then (if (a0.extract 0 a1.size).toList = a1.toList then (some (a0.extract a1.size a0.size, true)) else (some (a0, false))) else (none)) else (none))) = some (r1, r2) := h
 clear h
 by_cases c3 : (a0.size : Int) < (a1.size : Int)
 ·rw [if_pos c3] at H
  have c3b0 := decide_eq_true c3
  have c3b1 : decide (a0.size < a1.size) = true := decide_eq_true (Int.ofNat_lt.mp c3)
  clear c3
  simp only [Option.some.injEq, Prod.mk.injEq] at H
  obtain ⟨rfl, rfl⟩ := H
  go_enter Tryz.func69, Tryz.ntmps69
  go_wp2
  go_ret2
  exact ⟨by rfl, by repeat (exact Drawn0.refl _)⟩
 ·rw [if_neg c3] at H
  have c3b0 := decide_eq_false c3
  have c3b1 : decide (a0.size < a1.size) = false := decide_eq_false (fun h => c3 (Int.ofNat_lt.mpr h))
  clear c3
  replace H := yes_ H; obtain ⟨c4, H⟩ := H
  have c4b0 := eq_true c4
  have c4b1 := decide_eq_true c4
  clear c4
  replace H := yes_ H; obtain ⟨c5, H⟩ := H
  have c5b0 := eq_true c5
  have c5b1 := decide_eq_true c5
  clear c5
  by_cases c6 : (a0.extract 0 a1.size).toList = a1.toList
  ·rw [if_pos c6] at H
   have c6b0 := beq_iff_eq.mpr c6
   have c6b1 := bne_eq_false_iff_eq.mpr c6
   clear c6
   have c7b0 := eq_true (of_decide_eq_true (by assumption) : 0 ≤ (a1.size : Int))
   have c8b0 := eq_true (of_decide_eq_true (by assumption) : (a1.size : Int) ≤ (a0.size : Int))
   simp only [Option.some.injEq, Prod.mk.injEq] at H
   obtain ⟨rfl, rfl⟩ := H
   go_enter Tryz.func69, Tryz.ntmps69
   go_wp2
   go_ret2
   exact ⟨by rfl, by repeat (exact Drawn0.refl _)⟩
  ·rw [if_neg c6] at H
   have c6b0 := beq_eq_false_iff_ne.mpr c6
   have c6b1 := bne_iff_ne.mpr c6
   simp only [Option.some.injEq, Prod.mk.injEq] at H
   obtain ⟨rfl, rfl⟩ := H
   go_enter Tryz.func69, Tryz.ntmps69
   go_wp2
   go_ret2
   exact ⟨by rfl, by repeat (exact Drawn0.refl _)⟩
def q_zzDigits.l0 : Nat → ByteArray → Int → Option (Int)
 | 0, _, _ => none
 | k + 1, x0, x3 => if x3 < (x0.size : Int) then (if 0 ≤ x3 then (if 48 ≤ (bt x0 x3) then (if (bt x0 x3) ≤ 57 then (q_zzDigits.l0 k x0 (wrap64 (x3 + 1))) else (some x3)) else (some x3)) else (none)) else (some x3)
def q_zzDigits.f (k : Nat) (a0 : ByteArray) : Option (Int) := q_zzDigits.l0 k a0 0
theorem q_zzDigits.calls (k : Nat) (a0 : ByteArray) (r : Int) (w : World) (h : q_zzDigits.f k a0 = some r) :
  Calls Tryz.prog 70 #[.string a0] w fun e w' => e = .returned (.int .i64 r) ∧ Drawn0 w w' := by
 have H : (q_zzDigits.l0 k a0 0) = some r := h
 clear h
 have H' := Aside0.mk H
 clear H
 go_enter Tryz.func70, Tryz.ntmps70
 go_wp2
 go_loopg [3] k (fun kq v3 w' => ∃ (x3_1 : Int), v3 = .int .i64 x3_1 ∧ Aside0 (q_zzDigits.l0 kq a0 x3_1 = some r) ∧ Aside0 (kq ≤ k) ∧ Drawn0 w w')
 case atStart => exact ⟨(0), (by rfl), H', ⟨Nat.le_refl _⟩, by repeat (exact Drawn0.refl _)⟩
 case round =>
  clear H'
  obtain ⟨x3_1, rfl, HA, HK1, ⟨m1, rfl⟩⟩ := hrel
  cases gk with
  | zero => exact absurd HA.out (by simp [q_zzDigits.l0])
  | succ k1 =>
   have H := HA.out; clear HA
   simp only [q_zzDigits.l0] at H
   by_cases c2 : x3_1 < (a0.size : Int)
   ·rw [if_pos c2] at H
    have c2b0 := decide_eq_true c2
    clear c2
    replace H := yes_ H; obtain ⟨c3, H⟩ := H
    have c3b0 := decide_eq_true c3
    clear c3
    by_cases c5 : 48 ≤ (bt a0 x3_1)
    ·rw [if_pos c5] at H
     have c5b0 := decide_eq_true c5
     clear c5
     by_cases c7 : (bt a0 x3_1) ≤ 57
     ·rw [if_pos c7] at H
      have c7b0 := decide_eq_true c7
      clear c7
      have H' := Aside0.mk H
      clear H
      have p4 : 0 ≤ (x3_1 : Int) := of_decide_eq_true (by assumption)
      have q4 : x3_1 < (a0.size : Int) := of_decide_eq_true (by assumption)
      have hx4 := bt_at a0 x3_1
      replace p4 := eq_true p4
      replace q4 := eq_true q4
      have p6 : 0 ≤ (x3_1 : Int) := of_decide_eq_true (by assumption)
      have q6 : x3_1 < (a0.size : Int) := of_decide_eq_true (by assumption)
      have hx6 := bt_at a0 x3_1
      replace p6 := eq_true p6
      replace q6 := eq_true q6
      go_wp2
      go_roundg k1
      case measure => have := HK1.out; omega
      case rel => exact ⟨(wrap64 (x3_1 + 1)), (by rfl), H', ⟨by have := HK1.out; omega⟩, by repeat (first | exact Drawn0.refl _ | apply Drawn0.step)⟩
     ·rw [if_neg c7] at H
      have c7b0 := decide_eq_false c7
      clear c7
      obtain rfl := Option.some.inj H
      have p4 : 0 ≤ (x3_1 : Int) := of_decide_eq_true (by assumption)
      have q4 : x3_1 < (a0.size : Int) := of_decide_eq_true (by assumption)
      have hx4 := bt_at a0 x3_1
      replace p4 := eq_true p4
      replace q4 := eq_true q4
      have p6 : 0 ≤ (x3_1 : Int) := of_decide_eq_true (by assumption)
      have q6 : x3_1 < (a0.size : Int) := of_decide_eq_true (by assumption)
      have hx6 := bt_at a0 x3_1
      replace p6 := eq_true p6
      replace q6 := eq_true q6
      go_wp2
      go_ret
      exact ⟨by rfl, by repeat (first | exact Drawn0.refl _ | apply Drawn0.step)⟩
    ·rw [if_neg c5] at H
     have c5b0 := decide_eq_false c5
     clear c5
     obtain rfl := Option.some.inj H
     have p4 : 0 ≤ (x3_1 : Int) := of_decide_eq_true (by assumption)
     have q4 : x3_1 < (a0.size : Int) := of_decide_eq_true (by assumption)
     have hx4 := bt_at a0 x3_1
     replace p4 := eq_true p4
     replace q4 := eq_true q4
     go_wp2
     go_ret
     exact ⟨by rfl, by repeat (first | exact Drawn0.refl _ | apply Drawn0.step)⟩
   ·rw [if_neg c2] at H
    have c2b0 := decide_eq_false c2
    clear c2
    obtain rfl := Option.some.inj H
    go_wp2
    go_ret
    exact ⟨by rfl, by repeat (first | exact Drawn0.refl _ | apply Drawn0.step)⟩
mutual
def q_zzHeader.l0 : Nat → List ByteArray → ByteArray → Int → Option (List ByteArray)
 | 0, _, _, _ => none
 | k + 1, x3, x4, x6 => if x6 < 2 then ((q_zzDigits.f k x4).bind fun t658 => (if t658 = 0 then (some ([] : List ByteArray)) else (if 0 ≤ t658 then (if t658 ≤ (x4.size : Int) then (if x3.length < 8796093022208 then ((some (x3 ++ [x4.extract 0 (t658 : Int).toNat] : List ByteArray)).bind fun y659 => ((q_zzCut.f (x4.extract (t658 : Int).toNat x4.size) (⟨#[44]⟩ : ByteArray)).bind fun bt662 => (if bt662.2 = true then ((q_zzDigits.f k bt662.1).bind fun t664 => (q_zzHeader.j1 k y659 bt662.1 x6 t664)) else (q_zzHeader.j1 k y659 (x4.extract (t658 : Int).toNat x4.size) x6 0)))) else (none)) else (none)) else (none)))) else (if x4.toList = ([] : List UInt8) then (if x3.length = 0 then none else (some x3)) else (some ([] : List ByteArray)))
def q_zzHeader.j1 : Nat → List ByteArray → ByteArray → Int → Int → Option (List ByteArray)
 | 0, _, _, _, _ => none
 | k + 1, x3, x4, x6, x8 => if 0 ≤ x8 then (if x8 ≤ (x4.size : Int) then (if x3.length < 8796093022208 then ((some (x3 ++ [x4.extract 0 (x8 : Int).toNat] : List ByteArray)).bind fun y665 => (if x6 = 1 then ((q_zzCut.f (x4.extract (x8 : Int).toNat x4.size) (⟨#[32, 64, 64]⟩ : ByteArray)).bind fun bt668 => (if bt668.2 = true then (q_zzHeader.l0 k y665 bt668.1 (wrap64 (x6 + 1))) else (some ([] : List ByteArray)))) else ((q_zzCut.f (x4.extract (x8 : Int).toNat x4.size) (⟨#[32, 43]⟩ : ByteArray)).bind fun bt670 => (if bt670.2 = true then (q_zzHeader.l0 k y665 bt670.1 (wrap64 (x6 + 1))) else (some ([] : List ByteArray)))))) else (none)) else (none)) else (none)
end
def q_zzHeader.f (k : Nat) (a0 : ByteArray) : Option (List ByteArray) := (q_zzCut.f a0 (⟨#[64, 64, 32, 45]⟩ : ByteArray)).bind fun bt656 => (if bt656.2 = true then (q_zzHeader.l0 k (([a0] : List ByteArray)) bt656.1 0) else (some ([] : List ByteArray)))
def q_zzHeader.T11 : Bool × List (List Nat × List Nat) := (true, [([], []), ([], []), ([], []), ([1, 2], [1, 2]), ([3], [3]), ([0, 4], [0, 4]), ([], []), ([], []), ([6, 7], [6, 7]), ([5, 5, 0, 1, 2, 3, 4, 5], [0, 5]), ([8, 9, 0, 1, 2, 3, 4, 5, 6, 7, 8, 9], [1, 6, 8])])
def q_zzHeader.B11 : List Nat := [0, 0, 0, 6, 14, 31, 0, 0, 192, 63, 1023]
theorem q_zzHeader.tab11 : rtab .any (opsOf Tryz.f38 11) = q_zzHeader.T11 := by kernel_rfl
theorem q_zzHeader.bits11 : waitsOk q_zzHeader.T11.2 q_zzHeader.B11 = true := by kernel_rfl
def q_zzHeader.T17 : Bool × List (List Nat × List Nat) := (true, [([], []), ([], []), ([], []), ([1, 2], [1, 2]), ([3], [3]), ([0, 4], [0, 4]), ([], []), ([], []), ([6, 7], [6, 7]), ([5, 5, 0, 1, 2, 3, 4, 5], [0, 5]), ([8, 9, 0, 1, 2, 3, 4, 5, 6, 7, 8, 9], [1, 6, 8])])
def q_zzHeader.B17 : List Nat := [0, 0, 0, 6, 14, 31, 0, 0, 192, 63, 1023]
theorem q_zzHeader.tab17 : rtab .any (opsOf Tryz.f38 17) = q_zzHeader.T17 := by kernel_rfl
theorem q_zzHeader.bits17 : waitsOk q_zzHeader.T17.2 q_zzHeader.B17 = true := by kernel_rfl
theorem q_zzHeader.calls (k : Nat) (a0 : ByteArray) (r : List ByteArray) (w : World) (h : q_zzHeader.f k a0 = some r) :
  Calls Tryz.prog 38 #[.string a0] w fun e w' => ∃ v0_ : Value, e = .returned (v0_) ∧ Kd.R Kd.string 9 w' w.heap.size (fun _ => True) v0_ r ∧ Below w.heap.size w w' ∧ (r = [] → v0_ = .slice none 0 0) := by
 have HB := aS_ (Below.refl w.heap.size w)
 have H : ((q_zzCut.f a0 (⟨#[64, 64, 32, 45]⟩ : ByteArray)).bind fun bt656 => (if bt656.2 = true then (q_zzHeader.l0 k (([a0] : List ByteArray)) bt656.1 0) else (some ([] : List ByteArray)))) = some r := h
 clear h
 obtain ⟨y653, hy653⟩ : ∃ y_ : List ByteArray, y_ = (([a0] : List ByteArray)) := ⟨_, rfl⟩
 replace H : ((q_zzCut.f a0 (⟨#[64, 64, 32, 45]⟩ : ByteArray)).bind fun bt656 => (if bt656.2 = true then (q_zzHeader.l0 k y653 bt656.1 0) else (some ([] : List ByteArray)))) = some r := by (rw [hy653]; with_reducible exact H)
 have Ny653 := Aside0.mk hy653
 clear hy653
 replace H := Option.bind_eq_some_iff.mp H
 obtain ⟨⟨t656, t657⟩, A20, H⟩ := H
 try dsimp only at H
 have A2 := Aside0.mk A20
 clear A20
 by_cases c3 : t657 = true
 ·subst c3
  rw [if_pos rfl] at H
  have H' := Aside0.mk H
  clear H
  go_enter Tryz.func38, Tryz.ntmps38
  go_wp2_with (first | ((with_reducible refine gate_dst (N := 13) rfl ?_); refine Kd.R_lit Kd.string _ 9 ?hg (N := 13) ?hd (xs := ([a0] : List ByteArray)) (inner := [.string a0]) (ok := fun _ => True) (okp := fun _ => True) ?hr ?hp (fun _ hk => hk) trivial (Below.refl _ _) (Nat.le_refl _) (by simp) ?_; (case hd => rfl); (case hg => rfl); (case hr => (go_simp; done)); (case hp => exact (Reps.one (show Kd.M Kd.string _ _ _ a0 [.string a0] from rfl) (Reps.none _ _))); intro v654 w4 ho5 hb hg_ hnew_; clear hg_ hnew_; (rw [← Ny653.out] at ho5); have HO655 := aS_ (Kd.R_lower ho5 (bz_ (bel_ HB.out))); replace HB := aS_ (bt_ (bel_ HB.out) hb); clear hb ho5) | ((with_reducible refine gate_callee (f := 69) rfl ?_); refine goesL_ (some 16) rfl rfl Tryz.func69 (by kernel_rfl) rfl #[.string a0, .string (⟨#[64, 64, 32, 45]⟩ : ByteArray)] rfl (by (try simp only [List.map_toArray, List.map_cons, List.map_nil]); rfl) ?_; (with_reducible refine (q_zzCut.calls a0 (⟨#[64, 64, 32, 45]⟩ : ByteArray) t656 true _ A2.out).mono ?_); rintro e w' ⟨rfl, ⟨nd, rfl⟩⟩; refine ⟨_, rfl, ?_⟩))
  go_loopg [3, 4, 6] k (fun kq v3 v4 v6 w' => ∃ (x3_1 : List ByteArray) (x4_1 : ByteArray) (x6_1 : Int), v4 = .string x4_1 ∧ v6 = .int .i64 x6_1 ∧ Aside0 (q_zzHeader.l0 kq x3_1 x4_1 x6_1 = some r) ∧ Aside0 (kq ≤ k) ∧ Aside0 (Kd.R Kd.string 9 w' w.heap.size (fun _ => True) v3 x3_1) ∧ Aside0 (Below w.heap.size w w'))
  case atStart => exact ⟨(y653), (t656), (0), (by rfl), (by rfl), H', ⟨Nat.le_refl _⟩, ⟨Kd.R_st HO655.out⟩, ⟨bel_ HB.out⟩⟩
  case round =>
   clear H'
   obtain ⟨x3_1, x4_1, x6_1, rfl, rfl, HA, HK1, HO_3, HB⟩ := hrel
   cases gk with
   | zero => exact absurd HA.out (by simp [q_zzHeader.l0])
   | succ k1 =>
    have H := HA.out; clear HA
    simp only [q_zzHeader.l0] at H
    by_cases c6 : x6_1 < 2
    ·rw [if_pos c6] at H
     have c6b0 := decide_eq_true c6
     clear c6
     replace H := Option.bind_eq_some_iff.mp H
     obtain ⟨t658, A70, H⟩ := H
     have A7 := Aside0.mk A70
     clear A70
     by_cases c8 : t658 = 0
     ·rw [if_pos c8] at H
      have c8b0 := beq_iff_eq.mpr c8
      have c8b1 := bne_eq_false_iff_eq.mpr c8
      clear c8
      obtain rfl := Option.some.inj H
      go_wp2_with (((with_reducible refine gate_callee (f := 70) rfl ?_); refine goesL_ (some 26) rfl rfl Tryz.func70 (by kernel_rfl) rfl #[.string x4_1] rfl (by (try simp only [List.map_toArray, List.map_cons, List.map_nil]); rfl) ?_; (with_reducible refine (q_zzDigits.calls k1 x4_1 t658 _ A7.out).mono ?_); rintro e w' ⟨rfl, ⟨nd, rfl⟩⟩; refine ⟨_, rfl, ?_⟩))
      go_ret
      exact ⟨_, by rfl, by exact Kd.R_nil _ _ _ _ _, bel_ HB.out, by rfl⟩
     ·rw [if_neg c8] at H
      have c8b0 := beq_eq_false_iff_ne.mpr c8
      have c8b1 := bne_iff_ne.mpr c8
      replace H := yes_ H; obtain ⟨c9, H⟩ := H
      have c9b0 := eq_true c9
      have c9b1 := decide_eq_true c9
      clear c9
      replace H := yes_ H; obtain ⟨c10, H⟩ := H
      have c10b0 := eq_true c10
      have c10b1 := decide_eq_true c10
      clear c10
      replace H := yes_ H; obtain ⟨c11, H⟩ := H
      have LMc11 := Aside0.mk c11
      clear c11
      obtain ⟨y659, hy659, H⟩ := bindc_ H
      have Ny659 := Aside0.mk hy659
      clear hy659
      have c12b0 := eq_true (of_decide_eq_true (by assumption) : 0 ≤ t658)
      have c13b0 := eq_true (of_decide_eq_true (by assumption) : t658 ≤ (x4_1.size : Int))
      replace H := Option.bind_eq_some_iff.mp H
      obtain ⟨⟨t662, t663⟩, A140, H⟩ := H
      try dsimp only at H
      have A14 := Aside0.mk A140
      clear A140
      have HC15 := Aside0.mk H
      clear H
      try go_wp2_with (((with_reducible refine gate_callee (f := 70) rfl ?_); refine goesL_ (some 26) rfl rfl Tryz.func70 (by kernel_rfl) rfl #[.string x4_1] rfl (by (try simp only [List.map_toArray, List.map_cons, List.map_nil]); rfl) ?_; (with_reducible refine (q_zzDigits.calls k1 x4_1 t658 _ A7.out).mono ?_); rintro e w' ⟨rfl, ⟨nd, rfl⟩⟩; refine ⟨_, rfl, ?_⟩))
      (try (rw [drewN_self wr]; generalize hq_ : World.drewN wr _ = wr; have n0_ : Aside0 (Kd.R Kd.string 9 wr w.heap.size (fun _ => True) u3 x3_1) := ⟨by rw [← hq_]; exact (Kd.R_st HO_3.out)⟩; have n1_ : Aside0 (Below w.heap.size w wr) := ⟨by rw [← hq_]; exact (bel_ HB.out)⟩; clear HO_3 HB hq_; have HO_3 := n0_; have HB := n1_; clear n0_ n1_))
      replace HO_3 := aS_ (Kd.R_drew HO_3.out)
      replace HB := aS_ (bD_ HB.out)
      refine sA_ (fun w' => True) [] q_zzHeader.tab11 q_zzHeader.bits11 trivial (fun hHeld HT_ HW_ => ?_)
      generalize wr.drew = w16 at HO_3 HB hHeld ⊢
      refine pA_ 0 (h:=pA_ 1 (h:=pA_ 2 (h:=pA_ 3 (h:=pA_ 6 (h:=pA_ 7 (h:=pA_ 8 (h:=?_)))))))
      refine oA_ 4 (some 33) (h:=fun K hK => ?_)
      refine value_ (w1 := ?_) (v := ?_) (by rfl) rfl ?_ ?_
      rotate_left 2
      ·go_simp
       constructor
       ·rfl
       ·rfl
      refine hK.out _ _ trivial (fun hHeld => ?_)
      clear hK K
      refine nA_ (h:=?_)
      refine oA_ 5 (some 34) (h:=fun K hK => ?_)
      refine Kd.R_append_step Kd.string (w0 := w) w.heap.size (by rfl) (.tmp 29) (.tmp 33) 61 9 (.string ⟨#[]⟩) 16 rfl Tryz.underlying61 info9 rfl (by decide) (by omega) u3 x3_1 (x4_1.extract 0 (t658 : Int).toNat) [.string (x4_1.extract 0 (t658 : Int).toNat)] (fun _ => True) (fun _ => False) rfl rfl ?aP (fun _ hk => hk.elim) ?aF ?aO ?aB ?aS ?aL ?_
      (case aP => exact rfl)
      (case aB => exact (bel_ HB.out))
      (case aF => exact (fun _ _ => trivial))
      (case aO => exact (Kd.R_st HO_3.out))
      (case aS => exact (bz_ (bel_ HB.out)))
      (case aL => have := LMc11.out; omega)
      intro v660 w17 ho hb hg hat
      rw [← Ny659.out] at ho
      replace HB := aS_ (hb)
      have HO661 := aS_ (ho)
      clear HO_3
      clear ho hb hg hat
      refine hK.out _ _ trivial (fun hHeld => ?_)
      clear hK K
      refine nA_ (h:=?_)
      refine pA_ 9 (h:=pA_ 10 (h:=?_))
      refine done_ (done_of HT_.out (by kernel_rfl)) ?_
      go_upto_if 43 with (((with_reducible refine gate_callee (f := 69) rfl ?_); refine goesL_ (some 40) rfl rfl Tryz.func69 (by kernel_rfl) rfl #[.string (x4_1.extract (t658 : Int).toNat x4_1.size), .string (⟨#[44]⟩ : ByteArray)] rfl (by (try simp only [List.map_toArray, List.map_cons, List.map_nil]); rfl) ?_; (with_reducible refine (q_zzCut.calls (x4_1.extract (t658 : Int).toNat x4_1.size) (⟨#[44]⟩ : ByteArray) t662 t663 _ A14.out).mono ?_); rintro e w' ⟨rfl, ⟨nd, rfl⟩⟩; refine ⟨_, rfl, ?_⟩))
      go_cut [4, 8] (fun v4 v8 wc => ∃ (kq : Nat) (x4_14 : ByteArray) (x8_14 : Int), v4 = .string x4_14 ∧ v8 = .int .i64 x8_14 ∧ Aside0 (q_zzHeader.j1 kq y659 x4_14 x6_1 x8_14 = some r) ∧ Aside0 (kq ≤ k1) ∧ Aside0 (Kd.R Kd.string 9 wc w.heap.size (fun _ => True) v660 y659) ∧ Aside0 (Below w.heap.size w wc))
      case first =>
       have H := HC15.out
       clear HC15
       by_cases c18 : t663 = true
       ·subst c18
        rw [if_pos rfl] at H
        replace H := Option.bind_eq_some_iff.mp H
        obtain ⟨t664, A190, H⟩ := H
        have A19 := Aside0.mk A190
        clear A190
        have H' := Aside0.mk H
        clear H
        go_wp2_with (((with_reducible refine gate_callee (f := 70) rfl ?_); refine goesL_ (some 46) rfl rfl Tryz.func70 (by kernel_rfl) rfl #[.string t662] rfl (by (try simp only [List.map_toArray, List.map_cons, List.map_nil]); rfl) ?_; (with_reducible refine (q_zzDigits.calls k1 t662 t664 _ A19.out).mono ?_); rintro e w' ⟨rfl, ⟨nd, rfl⟩⟩; refine ⟨_, rfl, ?_⟩))
        go_meet
        case rel => exact ⟨_, (t662), (t664), (by rfl), (by rfl), H', ⟨by have := HK1.out; omega⟩, ⟨Kd.R_st HO661.out⟩, ⟨bel_ HB.out⟩⟩
       ·replace c18 := Bool.eq_false_iff.mpr c18
        subst c18
        rw [if_neg (show ¬ (false = true) by decide)] at H
        have H' := Aside0.mk H
        clear H
        go_wp2
        go_meet
        case rel => exact ⟨_, (x4_1.extract (t658 : Int).toNat x4_1.size), (0), (by rfl), (by rfl), H', ⟨by have := HK1.out; omega⟩, ⟨Kd.R_st HO661.out⟩, ⟨bel_ HB.out⟩⟩
      case rest =>
       clear HC15
       obtain ⟨kq, x4_14, x8_14, rfl, rfl, HA, HJ14, HO_3, HB⟩ := hcut
       cases kq with
       | zero => exact absurd HA.out (by simp [q_zzHeader.j1])
       | succ kj14 =>
        have H := HA.out; clear HA
        simp only [q_zzHeader.j1] at H
        replace H := yes_ H; obtain ⟨c20, H⟩ := H
        have c20b0 := eq_true c20
        have c20b1 := decide_eq_true c20
        clear c20
        replace H := yes_ H; obtain ⟨c21, H⟩ := H
        have c21b0 := eq_true c21
        have c21b1 := decide_eq_true c21
        clear c21
        replace H := yes_ H; obtain ⟨c22, H⟩ := H
        have LMc22 := Aside0.mk c22
        clear c22
        obtain ⟨y665, hy665, H⟩ := bindc_ H
        have Ny665 := Aside0.mk hy665
        clear hy665
        have c23b0 := eq_true (of_decide_eq_true (by assumption) : 0 ≤ x8_14)
        have c24b0 := eq_true (of_decide_eq_true (by assumption) : x8_14 ≤ (x4_14.size : Int))
        by_cases c25 : x6_1 = 1
        ·rw [if_pos c25] at H
         have c25b0 := beq_iff_eq.mpr c25
         have c25b1 := bne_eq_false_iff_eq.mpr c25
         clear c25
         replace H := Option.bind_eq_some_iff.mp H
         obtain ⟨⟨t668, t669⟩, A260, H⟩ := H
         try dsimp only at H
         have A26 := Aside0.mk A260
         clear A260
         by_cases c27 : t669 = true
         ·subst c27
          rw [if_pos rfl] at H
          have H' := Aside0.mk H
          clear H
          try go_wp2
          replace HO_3 := aS_ (Kd.R_drew HO_3.out)
          replace HB := aS_ (bD_ HB.out)
          refine sA_ (fun w' => True) [] q_zzHeader.tab17 q_zzHeader.bits17 trivial (fun hHeld HT_ HW_ => ?_)
          generalize wc.drew = w28 at HO_3 HB hHeld ⊢
          refine pA_ 0 (h:=pA_ 1 (h:=pA_ 2 (h:=pA_ 3 (h:=pA_ 6 (h:=pA_ 7 (h:=pA_ 8 (h:=?_)))))))
          refine oA_ 4 (some 51) (h:=fun K hK => ?_)
          refine value_ (w1 := ?_) (v := ?_) (by rfl) rfl ?_ ?_
          rotate_left 2
          ·go_simp
           constructor
           ·rfl
           ·rfl
          refine hK.out _ _ trivial (fun hHeld => ?_)
          clear hK K
          refine nA_ (h:=?_)
          refine oA_ 5 (some 52) (h:=fun K hK => ?_)
          refine Kd.R_append_step Kd.string (w0 := w) w.heap.size (by rfl) (.tmp 47) (.tmp 51) 61 9 (.string ⟨#[]⟩) 16 rfl Tryz.underlying61 info9 rfl (by decide) (by omega) v660 y659 (x4_14.extract 0 (x8_14 : Int).toNat) [.string (x4_14.extract 0 (x8_14 : Int).toNat)] (fun _ => True) (fun _ => False) rfl rfl ?aP (fun _ hk => hk.elim) ?aF ?aO ?aB ?aS ?aL ?_
          (case aP => exact rfl)
          (case aB => exact (bel_ HB.out))
          (case aF => exact (fun _ _ => trivial))
          (case aO => exact (Kd.R_st HO_3.out))
          (case aS => exact (bz_ (bel_ HB.out)))
          (case aL => have := LMc22.out; omega)
          intro v666 w29 ho hb hg hat
          rw [← Ny665.out] at ho
          replace HB := aS_ (hb)
          have HO667 := aS_ (ho)
          clear HO_3
          clear ho hb hg hat
          refine hK.out _ _ trivial (fun hHeld => ?_)
          clear hK K
          refine nA_ (h:=?_)
          refine pA_ 9 (h:=pA_ 10 (h:=?_))
          refine done_ (done_of HT_.out (by kernel_rfl)) ?_
          try go_wp2_with (((with_reducible refine gate_callee (f := 69) rfl ?_); refine goesL_ (some 61) rfl rfl Tryz.func69 (by kernel_rfl) rfl #[.string (x4_14.extract (x8_14 : Int).toNat x4_14.size), .string (⟨#[32, 64, 64]⟩ : ByteArray)] rfl (by (try simp only [List.map_toArray, List.map_cons, List.map_nil]); rfl) ?_; (with_reducible refine (q_zzCut.calls (x4_14.extract (x8_14 : Int).toNat x4_14.size) (⟨#[32, 64, 64]⟩ : ByteArray) t668 true _ A26.out).mono ?_); rintro e w' ⟨rfl, ⟨nd, rfl⟩⟩; refine ⟨_, rfl, ?_⟩))
          go_roundg kj14
          case measure => have := HK1.out; have := HJ14.out; omega
          case rel => exact ⟨(y665), (t668), (wrap64 (x6_1 + 1)), (by rfl), (by rfl), H', ⟨by have := HK1.out; have := HJ14.out; omega⟩, ⟨Kd.R_st HO667.out⟩, ⟨bel_ HB.out⟩⟩
         ·replace c27 := Bool.eq_false_iff.mpr c27
          subst c27
          rw [if_neg (show ¬ (false = true) by decide)] at H
          obtain rfl := Option.some.inj H
          try go_wp2
          replace HO_3 := aS_ (Kd.R_drew HO_3.out)
          replace HB := aS_ (bD_ HB.out)
          refine sA_ (fun w' => True) [] q_zzHeader.tab17 q_zzHeader.bits17 trivial (fun hHeld HT_ HW_ => ?_)
          generalize wc.drew = w30 at HO_3 HB hHeld ⊢
          refine pA_ 0 (h:=pA_ 1 (h:=pA_ 2 (h:=pA_ 3 (h:=pA_ 6 (h:=pA_ 7 (h:=pA_ 8 (h:=?_)))))))
          refine oA_ 4 (some 51) (h:=fun K hK => ?_)
          refine value_ (w1 := ?_) (v := ?_) (by rfl) rfl ?_ ?_
          rotate_left 2
          ·go_simp
           constructor
           ·rfl
           ·rfl
          refine hK.out _ _ trivial (fun hHeld => ?_)
          clear hK K
          refine nA_ (h:=?_)
          refine oA_ 5 (some 52) (h:=fun K hK => ?_)
          refine Kd.R_append_step Kd.string (w0 := w) w.heap.size (by rfl) (.tmp 47) (.tmp 51) 61 9 (.string ⟨#[]⟩) 16 rfl Tryz.underlying61 info9 rfl (by decide) (by omega) v660 y659 (x4_14.extract 0 (x8_14 : Int).toNat) [.string (x4_14.extract 0 (x8_14 : Int).toNat)] (fun _ => True) (fun _ => False) rfl rfl ?aP (fun _ hk => hk.elim) ?aF ?aO ?aB ?aS ?aL ?_
          (case aP => exact rfl)
          (case aB => exact (bel_ HB.out))
          (case aF => exact (fun _ _ => trivial))
          (case aO => exact (Kd.R_st HO_3.out))
          (case aS => exact (bz_ (bel_ HB.out)))
          (case aL => have := LMc22.out; omega)
          intro v666 w31 ho hb hg hat
          rw [← Ny665.out] at ho
          replace HB := aS_ (hb)
          have HO667 := aS_ (ho)
          clear HO_3
          clear ho hb hg hat
          refine hK.out _ _ trivial (fun hHeld => ?_)
          clear hK K
          refine nA_ (h:=?_)
          refine pA_ 9 (h:=pA_ 10 (h:=?_))
          refine done_ (done_of HT_.out (by kernel_rfl)) ?_
          try go_wp2_with (((with_reducible refine gate_callee (f := 69) rfl ?_); refine goesL_ (some 61) rfl rfl Tryz.func69 (by kernel_rfl) rfl #[.string (x4_14.extract (x8_14 : Int).toNat x4_14.size), .string (⟨#[32, 64, 64]⟩ : ByteArray)] rfl (by (try simp only [List.map_toArray, List.map_cons, List.map_nil]); rfl) ?_; (with_reducible refine (q_zzCut.calls (x4_14.extract (x8_14 : Int).toNat x4_14.size) (⟨#[32, 64, 64]⟩ : ByteArray) t668 false _ A26.out).mono ?_); rintro e w' ⟨rfl, ⟨nd, rfl⟩⟩; refine ⟨_, rfl, ?_⟩))
          go_ret
          exact ⟨_, by rfl, by exact Kd.R_nil _ _ _ _ _, bel_ HB.out, by rfl⟩
        ·rw [if_neg c25] at H
         have c25b0 := beq_eq_false_iff_ne.mpr c25
         have c25b1 := bne_iff_ne.mpr c25
         replace H := Option.bind_eq_some_iff.mp H
         obtain ⟨⟨t670, t671⟩, A320, H⟩ := H
         try dsimp only at H
         have A32 := Aside0.mk A320
         clear A320
         by_cases c33 : t671 = true
         ·subst c33
          rw [if_pos rfl] at H
          have H' := Aside0.mk H
          clear H
          try go_wp2
          replace HO_3 := aS_ (Kd.R_drew HO_3.out)
          replace HB := aS_ (bD_ HB.out)
          refine sA_ (fun w' => True) [] q_zzHeader.tab17 q_zzHeader.bits17 trivial (fun hHeld HT_ HW_ => ?_)
          generalize wc.drew = w34 at HO_3 HB hHeld ⊢
          refine pA_ 0 (h:=pA_ 1 (h:=pA_ 2 (h:=pA_ 3 (h:=pA_ 6 (h:=pA_ 7 (h:=pA_ 8 (h:=?_)))))))
          refine oA_ 4 (some 51) (h:=fun K hK => ?_)
          refine value_ (w1 := ?_) (v := ?_) (by rfl) rfl ?_ ?_
          rotate_left 2
          ·go_simp
           constructor
           ·rfl
           ·rfl
          refine hK.out _ _ trivial (fun hHeld => ?_)
          clear hK K
          refine nA_ (h:=?_)
          refine oA_ 5 (some 52) (h:=fun K hK => ?_)
          refine Kd.R_append_step Kd.string (w0 := w) w.heap.size (by rfl) (.tmp 47) (.tmp 51) 61 9 (.string ⟨#[]⟩) 16 rfl Tryz.underlying61 info9 rfl (by decide) (by omega) v660 y659 (x4_14.extract 0 (x8_14 : Int).toNat) [.string (x4_14.extract 0 (x8_14 : Int).toNat)] (fun _ => True) (fun _ => False) rfl rfl ?aP (fun _ hk => hk.elim) ?aF ?aO ?aB ?aS ?aL ?_
          (case aP => exact rfl)
          (case aB => exact (bel_ HB.out))
          (case aF => exact (fun _ _ => trivial))
          (case aO => exact (Kd.R_st HO_3.out))
          (case aS => exact (bz_ (bel_ HB.out)))
          (case aL => have := LMc22.out; omega)
          intro v666 w35 ho hb hg hat
          rw [← Ny665.out] at ho
          replace HB := aS_ (hb)
          have HO667 := aS_ (ho)
          clear HO_3
          clear ho hb hg hat
          refine hK.out _ _ trivial (fun hHeld => ?_)
          clear hK K
          refine nA_ (h:=?_)
          refine pA_ 9 (h:=pA_ 10 (h:=?_))
          refine done_ (done_of HT_.out (by kernel_rfl)) ?_
          try go_wp2_with (((with_reducible refine gate_callee (f := 69) rfl ?_); refine goesL_ (some 61) rfl rfl Tryz.func69 (by kernel_rfl) rfl #[.string (x4_14.extract (x8_14 : Int).toNat x4_14.size), .string (⟨#[32, 43]⟩ : ByteArray)] rfl (by (try simp only [List.map_toArray, List.map_cons, List.map_nil]); rfl) ?_; (with_reducible refine (q_zzCut.calls (x4_14.extract (x8_14 : Int).toNat x4_14.size) (⟨#[32, 43]⟩ : ByteArray) t670 true _ A32.out).mono ?_); rintro e w' ⟨rfl, ⟨nd, rfl⟩⟩; refine ⟨_, rfl, ?_⟩))
          go_roundg kj14
          case measure => have := HK1.out; have := HJ14.out; omega
          case rel => exact ⟨(y665), (t670), (wrap64 (x6_1 + 1)), (by rfl), (by rfl), H', ⟨by have := HK1.out; have := HJ14.out; omega⟩, ⟨Kd.R_st HO667.out⟩, ⟨bel_ HB.out⟩⟩
         ·replace c33 := Bool.eq_false_iff.mpr c33
          subst c33
          rw [if_neg (show ¬ (false = true) by decide)] at H
          obtain rfl := Option.some.inj H
          try go_wp2
          replace HO_3 := aS_ (Kd.R_drew HO_3.out)
          replace HB := aS_ (bD_ HB.out)
          refine sA_ (fun w' => True) [] q_zzHeader.tab17 q_zzHeader.bits17 trivial (fun hHeld HT_ HW_ => ?_)
          generalize wc.drew = w36 at HO_3 HB hHeld ⊢
          refine pA_ 0 (h:=pA_ 1 (h:=pA_ 2 (h:=pA_ 3 (h:=pA_ 6 (h:=pA_ 7 (h:=pA_ 8 (h:=?_)))))))
          refine oA_ 4 (some 51) (h:=fun K hK => ?_)
          refine value_ (w1 := ?_) (v := ?_) (by rfl) rfl ?_ ?_
          rotate_left 2
          ·go_simp
           constructor
           ·rfl
           ·rfl
          refine hK.out _ _ trivial (fun hHeld => ?_)
          clear hK K
          refine nA_ (h:=?_)
          refine oA_ 5 (some 52) (h:=fun K hK => ?_)
          refine Kd.R_append_step Kd.string (w0 := w) w.heap.size (by rfl) (.tmp 47) (.tmp 51) 61 9 (.string ⟨#[]⟩) 16 rfl Tryz.underlying61 info9 rfl (by decide) (by omega) v660 y659 (x4_14.extract 0 (x8_14 : Int).toNat) [.string (x4_14.extract 0 (x8_14 : Int).toNat)] (fun _ => True) (fun _ => False) rfl rfl ?aP (fun _ hk => hk.elim) ?aF ?aO ?aB ?aS ?aL ?_
          (case aP => exact rfl)
          (case aB => exact (bel_ HB.out))
          (case aF => exact (fun _ _ => trivial))
          (case aO => exact (Kd.R_st HO_3.out))
          (case aS => exact (bz_ (bel_ HB.out)))
          (case aL => have := LMc22.out; omega)
          intro v666 w37 ho hb hg hat
          rw [← Ny665.out] at ho
          replace HB := aS_ (hb)
          have HO667 := aS_ (ho)
          clear HO_3
          clear ho hb hg hat
          refine hK.out _ _ trivial (fun hHeld => ?_)
          clear hK K
          refine nA_ (h:=?_)
          refine pA_ 9 (h:=pA_ 10 (h:=?_))
          refine done_ (done_of HT_.out (by kernel_rfl)) ?_
          try go_wp2_with (((with_reducible refine gate_callee (f := 69) rfl ?_); refine goesL_ (some 61) rfl rfl Tryz.func69 (by kernel_rfl) rfl #[.string (x4_14.extract (x8_14 : Int).toNat x4_14.size), .string (⟨#[32, 43]⟩ : ByteArray)] rfl (by (try simp only [List.map_toArray, List.map_cons, List.map_nil]); rfl) ?_; (with_reducible refine (q_zzCut.calls (x4_14.extract (x8_14 : Int).toNat x4_14.size) (⟨#[32, 43]⟩ : ByteArray) t670 false _ A32.out).mono ?_); rintro e w' ⟨rfl, ⟨nd, rfl⟩⟩; refine ⟨_, rfl, ?_⟩))
          go_ret
          exact ⟨_, by rfl, by exact Kd.R_nil _ _ _ _ _, bel_ HB.out, by rfl⟩
    ·rw [if_neg c6] at H
     have c6b0 := decide_eq_false c6
     clear c6
     by_cases c38 : x4_1.toList = ([] : List UInt8)
     ·rw [if_pos c38] at H
      by_cases cz_ : x3_1.length = 0
      ·rw [if_pos cz_] at H
       exact absurd H (by simp)
      rw [if_neg cz_] at H
      have c38b0 := beq_iff_eq.mpr c38
      have c38b1 := bne_eq_false_iff_eq.mpr c38
      clear c38
      obtain rfl := Option.some.inj H
      go_wp2
      go_ret
      exact ⟨_, by rfl, Kd.R_st HO_3.out, bel_ HB.out, fun h_ => absurd (by rw [h_]; rfl) cz_⟩
     ·rw [if_neg c38] at H
      have c38b0 := beq_eq_false_iff_ne.mpr c38
      have c38b1 := bne_iff_ne.mpr c38
      obtain rfl := Option.some.inj H
      go_wp2
      go_ret
      exact ⟨_, by rfl, by exact Kd.R_nil _ _ _ _ _, bel_ HB.out, by rfl⟩
 ·replace c3 := Bool.eq_false_iff.mpr c3
  subst c3
  rw [if_neg (show ¬ (false = true) by decide)] at H
  obtain rfl := Option.some.inj H
  go_enter Tryz.func38, Tryz.ntmps38
  go_wp2_with (first | ((with_reducible refine gate_dst (N := 13) rfl ?_); refine Kd.R_lit Kd.string _ 9 ?hg (N := 13) ?hd (xs := ([a0] : List ByteArray)) (inner := [.string a0]) (ok := fun _ => True) (okp := fun _ => True) ?hr ?hp (fun _ hk => hk) trivial (Below.refl _ _) (Nat.le_refl _) (by simp) ?_; (case hd => rfl); (case hg => rfl); (case hr => (go_simp; done)); (case hp => exact (Reps.one (show Kd.M Kd.string _ _ _ a0 [.string a0] from rfl) (Reps.none _ _))); intro v654 w39 ho40 hb hg_ hnew_; clear hg_ hnew_; (rw [← Ny653.out] at ho40); have HO655 := aS_ (Kd.R_lower ho40 (bz_ (bel_ HB.out))); replace HB := aS_ (bt_ (bel_ HB.out) hb); clear hb ho40) | ((with_reducible refine gate_callee (f := 69) rfl ?_); refine goesL_ (some 16) rfl rfl Tryz.func69 (by kernel_rfl) rfl #[.string a0, .string (⟨#[64, 64, 32, 45]⟩ : ByteArray)] rfl (by (try simp only [List.map_toArray, List.map_cons, List.map_nil]); rfl) ?_; (with_reducible refine (q_zzCut.calls a0 (⟨#[64, 64, 32, 45]⟩ : ByteArray) t656 false _ A2.out).mono ?_); rintro e w' ⟨rfl, ⟨nd, rfl⟩⟩; refine ⟨_, rfl, ?_⟩))
  go_ret
  exact ⟨_, by rfl, by exact Kd.R_nil _ _ _ _ _, bel_ HB.out, by rfl⟩
mutual
def p_PatchFromText.l0 : Nat → List (S67) → List ByteArray → Int → Option ((List (S67)) × Option ByteArray)
 | 0, _, _, _ => none
 | k + 1, x6, x7, x8 => if x8 < (x7.length : Int) then (if 0 ≤ x8 then ((q_zzHeader.f k (rdOf ByteArray.empty x7 x8)).bind fun t740 => (if (t740.length : Int) = 0 then (if 22 + (rdOf ByteArray.empty x7 x8).size ≤ 9223372036854775807 then (some (x6, some ((⟨#[73, 110, 118, 97, 108, 105, 100, 32, 112, 97, 116, 99, 104, 32, 115, 116, 114, 105, 110, 103, 58, 32]⟩ : ByteArray) ++ (rdOf ByteArray.empty x7 x8)))) else (none)) else ((q_zzHeader.f k (rdOf ByteArray.empty x7 x8)).bind fun t744 => (if 1 < (t744.length : Int) then ((strconv_Atoi.f (rdOf ByteArray.empty t744 1)).bind fun bt748 => (if 2 < (t744.length : Int) then (if ((rdOf ByteArray.empty t744 2).size : Int) = 0 then (p_PatchFromText.j1 k x6 x7 x8 t744 (wrap64 (bt748.1 - 1)) 0 1 0) else (if (rdOf ByteArray.empty t744 2).toList = ([48] : List UInt8) then (p_PatchFromText.j1 k x6 x7 x8 t744 bt748.1 0 0 0) else ((strconv_Atoi.f (rdOf ByteArray.empty t744 2)).bind fun bt753 => (p_PatchFromText.j1 k x6 x7 x8 t744 (wrap64 (bt748.1 - 1)) 0 bt753.1 0)))) else (none))) else (none))))) else (none)) else (some (x6, none))
def p_PatchFromText.j1 : Nat → List (S67) → List ByteArray → Int → List ByteArray → Int → Int → Int → Int → Option ((List (S67)) × Option ByteArray)
 | 0, _, _, _, _, _, _, _, _ => none
 | k + 1, x6, x7, x8, x12, x739001, x739002, x739003, x739004 => if 3 < (x12.length : Int) then ((strconv_Atoi.f (rdOf ByteArray.empty x12 3)).bind fun bt756 => (if 4 < (x12.length : Int) then (if ((rdOf ByteArray.empty x12 4).size : Int) = 0 then (p_PatchFromText.j2 k x6 x7 x8 x739001 (wrap64 (bt756.1 - 1)) x739003 1) else (if (rdOf ByteArray.empty x12 4).toList = ([48] : List UInt8) then (p_PatchFromText.j2 k x6 x7 x8 x739001 bt756.1 x739003 0) else ((strconv_Atoi.f (rdOf ByteArray.empty x12 4)).bind fun bt761 => (p_PatchFromText.j2 k x6 x7 x8 x739001 (wrap64 (bt756.1 - 1)) x739003 bt761.1)))) else (none))) else (none)
def p_PatchFromText.j2 : Nat → List (S67) → List ByteArray → Int → Int → Int → Int → Int → Option ((List (S67)) × Option ByteArray)
 | 0, _, _, _, _, _, _, _ => none
 | k + 1, x6, x7, x8, x739001, x739002, x739003, x739004 => p_PatchFromText.l1 k x6 x7 (wrap64 (x8 + 1)) ([] : List (S93)) x739001 x739002 x739003 x739004
def p_PatchFromText.l1 : Nat → List (S67) → List ByteArray → Int → List (S93) → Int → Int → Int → Int → Option ((List (S67)) × Option ByteArray)
 | 0, _, _, _, _, _, _, _, _ => none
 | k + 1, x6, x7, x8, x739000, x739001, x739002, x739003, x739004 => if x8 < (x7.length : Int) then (if 0 ≤ x8 then (if ((rdOf ByteArray.empty x7 x8).size : Int) > 0 then (if 0 < ((rdOf ByteArray.empty x7 x8).size : Int) then (if 1 ≤ ((rdOf ByteArray.empty x7 x8).size : Int) then ((q_zzReplace.f k ((rdOf ByteArray.empty x7 x8).extract 1 (rdOf ByteArray.empty x7 x8).size) (⟨#[43]⟩ : ByteArray) (⟨#[37, 50, 98]⟩ : ByteArray)).bind fun t769 => ((q_zzQueryUnescape.f k t769).bind fun bt770 => (if (bt (rdOf ByteArray.empty x7 x8) 0) = 45 then (if x739000.length < 5864062014805 then (p_PatchFromText.l1 k x6 x7 (wrap64 (x8 + 1)) (x739000 ++ [(⟨(-1), bt770.1⟩ : S93)]) x739001 x739002 x739003 x739004) else (none)) else (if (bt (rdOf ByteArray.empty x7 x8) 0) = 43 then (if x739000.length < 5864062014805 then (p_PatchFromText.l1 k x6 x7 (wrap64 (x8 + 1)) (x739000 ++ [(⟨1, bt770.1⟩ : S93)]) x739001 x739002 x739003 x739004) else (none)) else (if (bt (rdOf ByteArray.empty x7 x8) 0) = 32 then (if x739000.length < 5864062014805 then (p_PatchFromText.l1 k x6 x7 (wrap64 (x8 + 1)) (x739000 ++ [(⟨0, bt770.1⟩ : S93)]) x739001 x739002 x739003 x739004) else (none)) else (if (bt (rdOf ByteArray.empty x7 x8) 0) = 64 then (if x6.length < 2513169434916 then (p_PatchFromText.l0 k (x6 ++ [(⟨x739000, x739001, x739002, x739003, x739004⟩ : S67)]) x7 x8) else (none)) else (if 20 + (Utf8.encode (bt (rdOf ByteArray.empty x7 x8) 0)).size + 6 + bt770.1.size ≤ 9223372036854775807 then (some (x6, some ((((⟨#[73, 110, 118, 97, 108, 105, 100, 32, 112, 97, 116, 99, 104, 32, 109, 111, 100, 101, 32, 39]⟩ : ByteArray) ++ (Utf8.encode (bt (rdOf ByteArray.empty x7 x8) 0))) ++ (⟨#[39, 32, 105, 110, 58, 32]⟩ : ByteArray)) ++ bt770.1))) else (none)))))))) else (none)) else (none)) else (p_PatchFromText.l1 k x6 x7 (wrap64 (x8 + 1)) x739000 x739001 x739002 x739003 x739004)) else (none)) else (if x6.length < 2513169434916 then (p_PatchFromText.l0 k (x6 ++ [(⟨x739000, x739001, x739002, x739003, x739004⟩ : S67)]) x7 x8) else (none))
end
def p_PatchFromText.f (k : Nat) (a0 : Nat) (a1 : ByteArray) : Option ((List (S67)) × Option ByteArray) := (some (([] : List (S67)) : List (S67))).bind fun y732 => (if (a1.size : Int) = 0 then (some (y732, none)) else ((q_zzSplit.f k a1 (⟨#[10]⟩ : ByteArray)).bind fun t735 => (p_PatchFromText.l0 k y732 t735 0)))
theorem p_PatchFromText.calls (k : Nat) (a0 : Nat) (a1 : ByteArray) (r1 : List (S67)) (r2 : Option ByteArray) (w : World) (hd0 : DmpAt w a0) (h : p_PatchFromText.f k a0 a1 = some (r1, r2)) :
  Calls Tryz.prog 22 #[.pointer (some ⟨a0, 0, none⟩), .string a1] w fun e w' => ∃ v0_ : Value, ∃ ev_ : Value, e = .returned (.tuple #[v0_, ev_]) ∧ Kd.S k67 67 w' w.heap.size (fun _ => True) v0_ r1 ∧ ErrAt w' ev_ r2 ∧ Below w.heap.size w w' := by
 have hu67 := Tryz.underlying67
 have hu93 := Tryz.underlying93
 have HD0 := Aside0.mk hd0
 clear hd0
 have HB := aS_ (Below.refl w.heap.size w)
 have H : ((some (([] : List (S67)) : List (S67))).bind fun y732 => (if (a1.size : Int) = 0 then (some (y732, none)) else ((q_zzSplit.f k a1 (⟨#[10]⟩ : ByteArray)).bind fun t735 => (p_PatchFromText.l0 k y732 t735 0)))) = some (r1, r2) := h
 clear h
 obtain ⟨y732, hy732, H⟩ := bindc_ H
 have Ny732 := Aside0.mk hy732
 clear hy732
 by_cases c3 : (a1.size : Int) = 0
 ·rw [if_pos c3] at H
  have c3b0 := beq_iff_eq.mpr c3
  have c3b1 := bne_eq_false_iff_eq.mpr c3
  clear c3
  simp only [Option.some.injEq, Prod.mk.injEq] at H
  obtain ⟨rfl, rfl⟩ := H
  go_enter Tryz.func22, Tryz.ntmps22
  go_wp2_with (((with_reducible refine gate_dst (N := 13) rfl ?_); refine Kd.S_lit k67 _ 67 ?hg (N := 13) ?hd (xs := ([] : List (S67))) (inner := []) (ok := fun _ => True) (okp := fun _ => True) ?hr ?hp (fun _ hk => hk) trivial (Below.refl _ _) (Nat.le_refl _) (by simp) ?_; (case hd => rfl); (case hg => rfl); (case hr => (go_simp; done)); (case hp => exact (Reps.none _ _)); intro v733 w4 ho5 hb hg_ hnew_; clear hg_ hnew_; (rw [← Ny732.out] at ho5); have HO734 := aS_ (Kd.S_lower ho5 (bz_ (bel_ HB.out))); replace HB := aS_ (bt_ (bel_ HB.out) hb); clear hb ho5))
  go_ret2
  exact ⟨_, _, by rfl, Kd.S_st HO734.out, by exact rfl, bel_ HB.out⟩
 ·rw [if_neg c3] at H
  have c3b0 := beq_eq_false_iff_ne.mpr c3
  have c3b1 := bne_iff_ne.mpr c3
  replace H := Option.bind_eq_some_iff.mp H
  obtain ⟨t735, A60, H⟩ := H
  have A6 := Aside0.mk A60
  clear A60
  have H' := Aside0.mk H
  clear H
  go_enter Tryz.func22, Tryz.ntmps22
  go_wp2_with (first | ((with_reducible refine gate_dst (N := 13) rfl ?_); refine Kd.S_lit k67 _ 67 ?hg (N := 13) ?hd (xs := ([] : List (S67))) (inner := []) (ok := fun _ => True) (okp := fun _ => True) ?hr ?hp (fun _ hk => hk) trivial (Below.refl _ _) (Nat.le_refl _) (by simp) ?_; (case hd => rfl); (case hg => rfl); (case hr => (go_simp; done)); (case hp => exact (Reps.none _ _)); intro v733 w7 ho8 hb hg_ hnew_; clear hg_ hnew_; (rw [← Ny732.out] at ho8); have HO734 := aS_ (Kd.S_lower ho8 (bz_ (bel_ HB.out))); replace HB := aS_ (bt_ (bel_ HB.out) hb); clear hb ho8) | ((with_reducible refine gate_callee (f := 37) rfl ?_); refine goesL_ (some 19) rfl rfl Tryz.func37 (by kernel_rfl) rfl #[.string a1, .string (⟨#[10]⟩ : ByteArray)] rfl (by (try simp only [List.map_toArray, List.map_cons, List.map_nil]); rfl) ?_; (with_reducible refine (q_zzSplit.calls k a1 (⟨#[10]⟩ : ByteArray) t735 _ A6.out).mono ?_); rintro e w9 ⟨v736, rfl, ho0, hb⟩; refine ⟨_, rfl, ?_⟩; replace HO734 := aS_ (Kd.S_below (Kd.S_st HO734.out) hb); have HO737 := aS_ (Kd.R_lower ho0 (bz_ (bel_ HB.out))); replace HB := aS_ (bt_ (bel_ HB.out) hb)) | ((with_reducible refine gate_dst (N := 9) rfl ?_); refine box_event ?hg (N := 9) ?hd (cs := #[.slice none 0 0, .int .i64 0, .int .i64 0, .int .i64 0, .int .i64 0]) (t := 67) ?hr ?_; (case hd => rfl); (case hg => rfl); (case hr => (go_simp; done)); intro gb738 hg w10 hbox hb; replace HO734 := aS_ (Kd.S_below (Kd.S_elderB (Kd.S_st HO734.out) gb738 (Nat.le_of_eq hg.symm)) hb); replace HO737 := aS_ (Kd.R_below (Kd.R_st HO737.out) hb); have BK738 := aS_ (hbox); have GW738 := aS_ ((by rw [hg]; exact (bz_ (bel_ HB.out)) : w.heap.size ≤ gb738)); have GE738 := aS_ ((by rw [hg]; exact (bz_ (bel_ HB.out)) : w.heap.size ≤ gb738)); replace HB := aS_ (bt_ (bel_ HB.out) hb); clear hb hbox hg))
  go_loopg [6, 8] k (fun kq v6 v8 w' => ∃ (x6_1 : List (S67)) (x8_1 : Int) (x739000_1 : List (S93)) (x739001_1 : Int) (x739002_1 : Int) (x739003_1 : Int) (x739004_1 : Int) (u739000 : Value), v8 = .int .i64 x8_1 ∧ Aside0 (p_PatchFromText.l0 kq x6_1 t735 x8_1 = some (r1, r2)) ∧ Aside0 (kq ≤ k) ∧ Aside0 (Kd.S k67 67 w' w.heap.size (fun k_ => some k_ ≠ ((.slice none 0 0) : Value).ownBlock ∧ k_ ≠ gb738) v6 x6_1) ∧ Aside0 (Kd.R Kd.string 9 w' w.heap.size (fun _ => True) v736 t735) ∧ Aside0 (Kd.R k93 93 w' w.heap.size (fun _ => True) (.slice none 0 0) x739000_1) ∧ Aside0 (w'.heap[gb738]? = some (.cells #[u739000, .int .i64 x739001_1, .int .i64 x739002_1, .int .i64 x739003_1, .int .i64 x739004_1] 67 (0, 0))) ∧ Aside0 (Below w.heap.size w w'))
  case atStart => exact ⟨(y732), (0), (([] : List (S93))), (0), (0), (0), (0), (.slice none 0 0), (by rfl), H', ⟨Nat.le_refl _⟩, ⟨Kd.S_st (Kd.S_mono HO734.out (fun _ hk => ⟨(by simp [Value.ownBlock]), hk.2⟩))⟩, ⟨Kd.R_st HO737.out⟩, ⟨by exact Kd.R_nil _ _ _ _ _⟩, ⟨blk_st BK738.out⟩, ⟨by with_reducible repeat exact HB.out⟩⟩
  case round =>
   clear H'
   obtain ⟨x6_1, x8_1, x739000_1, x739001_1, x739002_1, x739003_1, x739004_1, u739000, rfl, HA, HK1, HO_6, HO_7, HO_739000, BK738, HB⟩ := hrel
   cases gk with
   | zero => exact absurd HA.out (by simp [p_PatchFromText.l0])
   | succ k1 =>
    have H := HA.out; clear HA
    simp only [p_PatchFromText.l0] at H
    by_cases c11 : x8_1 < (t735.length : Int)
    ·rw [if_pos c11] at H
     have c11b0 := decide_eq_true c11
     clear c11
     replace H := yes_ H; obtain ⟨c12, H⟩ := H
     have c12b0 := decide_eq_true c12
     clear c12
     replace H := Option.bind_eq_some_iff.mp H
     obtain ⟨t740, A130, H⟩ := H
     have A13 := Aside0.mk A130
     clear A130
     by_cases c14 : (t740.length : Int) = 0
     ·rw [if_pos c14] at H
      have c14n_ : t740 = [] := List.length_eq_zero_iff.mp (by omega)
      have c14b0 := beq_iff_eq.mpr c14
      replace H := yes_ H; obtain ⟨c14s, H⟩ := H
      simp only [Option.some.injEq, Prod.mk.injEq] at H
      obtain ⟨rfl, rfl⟩ := H
      have c14z : (9223372036854775807 < 22 + (rdOf ByteArray.empty t735 x8_1).size) = False := eq_false (by omega)
      obtain ⟨Ao20, co20, eo20⟩ := Kd.R_slice HO_7.out
      subst eo20
      have p739 : 0 ≤ (x8_1 : Int) := of_decide_eq_true (by assumption)
      have q739 : x8_1 < (t735.length : Int) := of_decide_eq_true (by assumption)
      obtain ⟨ad739, e739, hx739_0⟩ := Kd.at_string (Kd.R_reads' HO_7.out).2.2 x8_1 p739 q739
      cases e739
      replace p739 := eq_true p739
      replace q739 := eq_true q739
      have hnn_ : ∀ W : World, (binOp .eql 61 (.slice none 0 0) (.slice none 0 0)).run Tryz.prog W = .ok (.bool true) W := fun W => Lib.run_eql_slice_nil W 61 9 none 0 0 0 0 Tryz.underlying61
      go_wp2_with (first | (go_at_call 38; refine (q_zzHeader.calls k1 (rdOf ByteArray.empty t735 x8_1) t740 _ A13.out).mono ?_; rintro e w21 ⟨v741, rfl, ho0, hb21_, hni_⟩; obtain rfl := hni_ c14n_; have hx743_0 := pw_cell_below hb21_ hx739_0) | (go_at_call 39; refine (new_err _ _).mono ?_; rintro e w22 ⟨g_, rfl, hg_, hb22_⟩))
      go_ret2
      exact ⟨_, _, rfl, Kd.S_mono (Kd.S_below (Kd.S_below HO_6.out hb21_) hb22_) (fun _ _ => trivial), ⟨g_, rfl, hg_⟩, bt_ (bt_ HB.out hb21_) hb22_⟩
     ·rw [if_neg c14] at H
      have c14b0 := beq_eq_false_iff_ne.mpr c14
      have c14b1 := bne_iff_ne.mpr c14
      have c14b2 : ¬ (t740 = []) := fun h_ => c14 (by rw [h_]; rfl)
      replace H := Option.bind_eq_some_iff.mp H
      obtain ⟨t744, A150, H⟩ := H
      have A15 := Aside0.mk A150
      clear A150
      replace H := yes_ H; obtain ⟨c16, H⟩ := H
      have c16b0 := decide_eq_true c16
      have c16b1 : decide (1 < t744.length) = true := decide_eq_true (by omega)
      clear c16
      replace H := Option.bind_eq_some_iff.mp H
      obtain ⟨⟨t748, t749⟩, A170, H⟩ := H
      try dsimp only at H
      have A17 := Aside0.mk A170
      clear A170
      replace H := yes_ H; obtain ⟨c18, H⟩ := H
      have c18b0 := decide_eq_true c18
      have c18b1 : decide (2 < t744.length) = true := decide_eq_true (by omega)
      clear c18
      have HC19 := Aside0.mk H
      clear H
      obtain ⟨Ao20, co20, eo20⟩ := Kd.R_slice HO_7.out
      subst eo20
      have p739 : 0 ≤ (x8_1 : Int) := of_decide_eq_true (by assumption)
      have q739 : x8_1 < (t735.length : Int) := of_decide_eq_true (by assumption)
      obtain ⟨ad739, e739, hx739_0⟩ := Kd.at_string (Kd.R_reads' HO_7.out).2.2 x8_1 p739 q739
      cases e739
      replace p739 := eq_true p739
      replace q739 := eq_true q739
      go_upto_if 55 with (first | ((with_reducible refine gate_callee (f := 38) rfl ?_); refine goesL_ (some 28) rfl rfl Tryz.func38 (by kernel_rfl) rfl #[.string (rdOf ByteArray.empty t735 x8_1)] rfl (by (try simp only [List.map_toArray, List.map_cons, List.map_nil]); rfl) ?_; (with_reducible refine (q_zzHeader.calls k1 (rdOf ByteArray.empty t735 x8_1) t740 _ A13.out).mono ?_); rintro e w21 ⟨v741, rfl, ho0, hb, hni_⟩; refine ⟨_, rfl, ?_⟩; replace HO_6 := aS_ (Kd.S_below (Kd.S_st HO_6.out) hb); replace HO_739000 := aS_ (Kd.R_below (Kd.R_st HO_739000.out) hb); have HO742 := aS_ (Kd.R_lower (Kd.R_new' ho0 (Kd.R_lt (Kd.R_st HO_7.out))) (bz_ (by with_reducible repeat exact HB.out))); replace HO_7 := aS_ (Kd.R_elder' (Kd.R_st HO_7.out) (Kd.R_base ho0) hb); replace BK738 := aS_ (blk_below (g := gb738) (o := .cells #[u739000, .int .i64 x739001_1, .int .i64 x739002_1, .int .i64 x739003_1, .int .i64 x739004_1] 67 (0, 0)) (blk_st BK738.out) hb); replace HB := aS_ (bt_ (by with_reducible repeat exact HB.out) hb); obtain ⟨Ao22, co22, eo22⟩ := Kd.R_slice HO742.out; subst eo22; have hnn23 := run_nnil (c := co22) (P := Tryz.prog) Tryz.underlying61 ((Kd.R_reads' HO742.out).2.2) (by have h_ := (of_decide_eq_false (by assumption) : ¬ (t740.length : Int) = 0); omega); obtain ⟨hcz24_0, hcz24_1, hcz24_2, hcz24_3, hcz24_4, hfz24_0, hfz24_1, hfz24_2, hfz24_3, hfz24_4⟩ := blk5 BK738.out; have p743 : 0 ≤ (x8_1 : Int) := of_decide_eq_true (by assumption); have q743 : x8_1 < (t735.length : Int) := of_decide_eq_true (by assumption); obtain ⟨ad743, e743, hx743_0⟩ := Kd.at_string (Kd.R_reads' HO_7.out).2.2 x8_1 p743 q743; obtain rfl : ad739 = ad743 := (by injection e743); have hn743_0 : ad739.block ≠ gb738 := Kd.own_blk (Kd.R_ne HO_7.out BK738.out (by decide)); have hn743_1 : ad739.block ≠ gb738 := Kd.own_blk (Kd.R_ne HO_7.out BK738.out (by decide)); have hn743_2 : ad739.block ≠ gb738 := Kd.own_blk (Kd.R_ne HO_7.out BK738.out (by decide)); have hn743_3 : ad739.block ≠ gb738 := Kd.own_blk (Kd.R_ne HO_7.out BK738.out (by decide)); have hn743_4 : ad739.block ≠ gb738 := Kd.own_blk (Kd.R_ne HO_7.out BK738.out (by decide)); replace hx743_0 := (cell_far (p := ⟨gb738, 0, none⟩) (by (rw [add_block]; exact hn743_0)) (.slice none 0 0)).trans hx743_0; replace hx743_0 := (cell_far (p := ⟨gb738, 1, none⟩) (by (rw [add_block]; exact hn743_1)) (.int .i64 0)).trans hx743_0; replace hx743_0 := (cell_far (p := ⟨gb738, 2, none⟩) (by (rw [add_block]; exact hn743_2)) (.int .i64 0)).trans hx743_0; replace hx743_0 := (cell_far (p := ⟨gb738, 3, none⟩) (by (rw [add_block]; exact hn743_3)) (.int .i64 0)).trans hx743_0; replace hx743_0 := (cell_far (p := ⟨gb738, 4, none⟩) (by (rw [add_block]; exact hn743_4)) (.int .i64 0)).trans hx743_0; clear hn743_0; clear hn743_1; clear hn743_2; clear hn743_3; clear hn743_4; replace p743 := eq_true p743; replace q743 := eq_true q743) | ((with_reducible refine gate_callee (f := 38) rfl ?_); refine goesL_ (some 42) rfl rfl Tryz.func38 (by kernel_rfl) rfl #[.string (rdOf ByteArray.empty t735 x8_1)] rfl (by (try simp only [List.map_toArray, List.map_cons, List.map_nil]); rfl) ?_; (with_reducible refine (q_zzHeader.calls k1 (rdOf ByteArray.empty t735 x8_1) t744 _ A15.out).mono ?_); rintro e w25 ⟨v745, rfl, ho0, hb, hni_⟩; refine ⟨_, rfl, ?_⟩; replace HO_6 := aS_ (Kd.S_below (Kd.S_st ((Kd.S_mono (Kd.S_far (p := ⟨gb738, 4, none⟩) (Kd.S_far (p := ⟨gb738, 3, none⟩) (Kd.S_far (p := ⟨gb738, 2, none⟩) (Kd.S_far (p := ⟨gb738, 1, none⟩) (Kd.S_far (p := ⟨gb738, 0, none⟩) (Kd.S_mono HO_6.out (fun k_ hk => (⟨hk, hk.2⟩ : _ ∧ k_ ≠ gb738))) (fun _ hk => hk.2) (.slice none 0 0)) (fun _ hk => hk.2) (.int .i64 0)) (fun _ hk => hk.2) (.int .i64 0)) (fun _ hk => hk.2) (.int .i64 0)) (fun _ hk => hk.2) (.int .i64 0)) (fun _ h_ => h_.1)))) hb); replace HO_739000 := aS_ (Kd.R_below (Kd.R_st ((Kd.R_mono (Kd.R_far (p := ⟨gb738, 4, none⟩) (Kd.R_far (p := ⟨gb738, 3, none⟩) (Kd.R_far (p := ⟨gb738, 2, none⟩) (Kd.R_far (p := ⟨gb738, 1, none⟩) (Kd.R_far (p := ⟨gb738, 0, none⟩) (Kd.R_types HO_739000.out BK738.out (by decide)) (fun _ hk => hk.2) (.slice none 0 0)) (fun _ hk => hk.2) (.int .i64 0)) (fun _ hk => hk.2) (.int .i64 0)) (fun _ hk => hk.2) (.int .i64 0)) (fun _ hk => hk.2) (.int .i64 0)) (fun _ h_ => h_.1)))) hb); have HO746 := aS_ (Kd.R_lower (Kd.R_new' (Kd.R_new' ho0 (Kd.R_lt (Kd.R_st ((Kd.R_mono (Kd.R_far (p := ⟨gb738, 4, none⟩) (Kd.R_far (p := ⟨gb738, 3, none⟩) (Kd.R_far (p := ⟨gb738, 2, none⟩) (Kd.R_far (p := ⟨gb738, 1, none⟩) (Kd.R_far (p := ⟨gb738, 0, none⟩) (Kd.R_types HO_7.out BK738.out (by decide)) (fun _ hk => hk.2) (.slice none 0 0)) (fun _ hk => hk.2) (.int .i64 0)) (fun _ hk => hk.2) (.int .i64 0)) (fun _ hk => hk.2) (.int .i64 0)) (fun _ hk => hk.2) (.int .i64 0)) (fun _ h_ => h_.1)))))) (Kd.R_lt (Kd.R_st ((Kd.R_mono (Kd.R_far (p := ⟨gb738, 4, none⟩) (Kd.R_far (p := ⟨gb738, 3, none⟩) (Kd.R_far (p := ⟨gb738, 2, none⟩) (Kd.R_far (p := ⟨gb738, 1, none⟩) (Kd.R_far (p := ⟨gb738, 0, none⟩) (Kd.R_types HO742.out BK738.out (by decide)) (fun _ hk => hk.2) (.slice none 0 0)) (fun _ hk => hk.2) (.int .i64 0)) (fun _ hk => hk.2) (.int .i64 0)) (fun _ hk => hk.2) (.int .i64 0)) (fun _ hk => hk.2) (.int .i64 0)) (fun _ h_ => h_.1)))))) (bz_ (by with_reducible repeat first | exact HB.out | refine bS_ ?_ GE738.out))); replace HO_7 := aS_ (Kd.R_elder' (Kd.R_st ((Kd.R_mono (Kd.R_far (p := ⟨gb738, 4, none⟩) (Kd.R_far (p := ⟨gb738, 3, none⟩) (Kd.R_far (p := ⟨gb738, 2, none⟩) (Kd.R_far (p := ⟨gb738, 1, none⟩) (Kd.R_far (p := ⟨gb738, 0, none⟩) (Kd.R_types HO_7.out BK738.out (by decide)) (fun _ hk => hk.2) (.slice none 0 0)) (fun _ hk => hk.2) (.int .i64 0)) (fun _ hk => hk.2) (.int .i64 0)) (fun _ hk => hk.2) (.int .i64 0)) (fun _ hk => hk.2) (.int .i64 0)) (fun _ h_ => h_.1)))) (Kd.R_base ho0) hb); replace HO742 := aS_ (Kd.R_elder' (Kd.R_st ((Kd.R_mono (Kd.R_far (p := ⟨gb738, 4, none⟩) (Kd.R_far (p := ⟨gb738, 3, none⟩) (Kd.R_far (p := ⟨gb738, 2, none⟩) (Kd.R_far (p := ⟨gb738, 1, none⟩) (Kd.R_far (p := ⟨gb738, 0, none⟩) (Kd.R_types HO742.out BK738.out (by decide)) (fun _ hk => hk.2) (.slice none 0 0)) (fun _ hk => hk.2) (.int .i64 0)) (fun _ hk => hk.2) (.int .i64 0)) (fun _ hk => hk.2) (.int .i64 0)) (fun _ hk => hk.2) (.int .i64 0)) (fun _ h_ => h_.1)))) (Kd.R_base ho0) hb); replace BK738 := aS_ (blk_below (g := gb738) (o := .cells #[.slice none 0 0, .int .i64 0, .int .i64 0, .int .i64 0, .int .i64 0] 67 (0, 0)) (by (with_reducible skip); refine blk_put (cs := #[.slice none 0 0, .int .i64 0, .int .i64 0, .int .i64 0, .int .i64 x739004_1]) ?_ 4 _ rfl; (with_reducible skip); refine blk_put (cs := #[.slice none 0 0, .int .i64 0, .int .i64 0, .int .i64 x739003_1, .int .i64 x739004_1]) ?_ 3 _ rfl; (with_reducible skip); refine blk_put (cs := #[.slice none 0 0, .int .i64 0, .int .i64 x739002_1, .int .i64 x739003_1, .int .i64 x739004_1]) ?_ 2 _ rfl; (with_reducible skip); refine blk_put (cs := #[.slice none 0 0, .int .i64 x739001_1, .int .i64 x739002_1, .int .i64 x739003_1, .int .i64 x739004_1]) ?_ 1 _ rfl; (with_reducible skip); refine blk_put (cs := #[u739000, .int .i64 x739001_1, .int .i64 x739002_1, .int .i64 x739003_1, .int .i64 x739004_1]) ?_ 0 _ rfl; (with_reducible skip); exact BK738.out) hb); replace HB := aS_ (bt_ (by with_reducible repeat first | exact HB.out | refine bS_ ?_ GE738.out) hb); obtain ⟨Ao26, co26, eo26⟩ := Kd.R_slice HO746.out; subst eo26; have p747 : 0 ≤ (1 : Int) := (by omega); have q747 : 1 < (t744.length : Int) := of_decide_eq_true (by assumption); obtain ⟨ad747, e747, hx747_0⟩ := Kd.at_string (Kd.R_reads' HO746.out).2.2 1 p747 q747; cases e747; (try simp only [show (1 : Int).toNat = 1 from rfl, Nat.reduceMul, Nat.reduceEqDiff, Go.Addr.add, ↓reduceIte] at hx747_0); have qi747 : (1 < t744.length) = True := eq_true (by omega); replace p747 := eq_true p747; replace q747 := eq_true q747) | ((with_reducible refine gate_callee (f := 40) rfl ?_); refine goesL_ (some 47) rfl rfl Tryz.func40 (by kernel_rfl) rfl #[.string (rdOf ByteArray.empty t744 1)] rfl (by (try simp only [List.map_toArray, List.map_cons, List.map_nil]); rfl) ?_; (with_reducible refine (strconv_Atoi.calls (rdOf ByteArray.empty t744 1) t748 t749 _ A17.out).mono ?_); rintro e w27 ⟨rfl, hb⟩; refine ⟨_, rfl, ?_⟩; replace HO_6 := aS_ (Kd.S_below (Kd.S_st HO_6.out) hb); replace HO_7 := aS_ (Kd.R_below (Kd.R_st HO_7.out) hb); replace HO_739000 := aS_ (Kd.R_below (Kd.R_st HO_739000.out) hb); replace HO742 := aS_ (Kd.R_below (Kd.R_st HO742.out) hb); replace HO746 := aS_ (Kd.R_below (Kd.R_st HO746.out) hb); replace BK738 := aS_ (blk_below (g := gb738) (o := .cells #[.slice none 0 0, .int .i64 0, .int .i64 0, .int .i64 0, .int .i64 0] 67 (0, 0)) (blk_st BK738.out) hb); replace HB := aS_ (bt_ (by with_reducible repeat exact HB.out) hb); obtain ⟨hcz28_0, hcz28_1, hcz28_2, hcz28_3, hcz28_4, hfz28_0, hfz28_1, hfz28_2, hfz28_3, hfz28_4⟩ := blk5 BK738.out; have p750 : 0 ≤ (2 : Int) := (by omega); have q750 : 2 < (t744.length : Int) := of_decide_eq_true (by assumption); obtain ⟨ad750, e750, hx750_0⟩ := Kd.at_string (Kd.R_reads' HO746.out).2.2 2 p750 q750; obtain rfl : ad747 = ad750 := (by injection e750); (try simp only [show (2 : Int).toNat = 2 from rfl, Nat.reduceMul, Nat.reduceEqDiff, Go.Addr.add, ↓reduceIte] at hx750_0); have qi750 : (2 < t744.length) = True := eq_true (by omega); have hn750_0 : ad747.block ≠ gb738 := Kd.own_blk (Kd.R_ne HO746.out BK738.out (by decide)); replace hx750_0 := (cell_far (p := ⟨gb738, 1, none⟩) (by exact hn750_0) (.int .i64 t748)).trans hx750_0; clear hn750_0; replace p750 := eq_true p750; replace q750 := eq_true q750))
      go_cut [] (fun wc => ∃ (kq : Nat) (x739001_18 : Int) (x739003_18 : Int), Aside0 (p_PatchFromText.j1 kq x6_1 t735 x8_1 t744 x739001_18 0 x739003_18 0 = some (r1, r2)) ∧ Aside0 (kq ≤ k1) ∧ Aside0 (Kd.S k67 67 wc w.heap.size (fun k_ => k_ ≠ gb738) u6 x6_1) ∧ Aside0 (Kd.R Kd.string 9 wc w.heap.size (fun k_ => some k_ ≠ ((.slice (some ad747) t744.length co26) : Value).ownBlock) (.slice (some ad739) t735.length co20) t735) ∧ Aside0 (Kd.R Kd.string 9 wc w.heap.size (fun k_ => some k_ ≠ ((.slice (some ad739) t735.length co20) : Value).ownBlock) (.slice (some ad747) t744.length co26) t744) ∧ Aside0 (wc.heap[gb738]? = some (.cells #[(.slice none 0 0), .int .i64 x739001_18, .int .i64 0, .int .i64 x739003_18, .int .i64 0] 67 (0, 0))) ∧ Aside0 (Below w.heap.size w wc))
      case first =>
       have H := HC19.out
       clear HC19
       by_cases c29 : ((rdOf ByteArray.empty t744 2).size : Int) = 0
       ·rw [if_pos c29] at H
        have c29b0 := beq_iff_eq.mpr c29
        have c29b1 := bne_eq_false_iff_eq.mpr c29
        clear c29
        (rw [c29b0])
        have H' := Aside0.mk H
        clear H
        obtain ⟨hcz30_0, hcz30_1, hcz30_2, hcz30_3, hcz30_4, hfz30_0, hfz30_1, hfz30_2, hfz30_3, hfz30_4⟩ := blk5 BK738.out
        go_wp2
        go_meet
        case rel => exact ⟨_, (wrap64 (t748 - 1)), (1), H', ⟨by have := HK1.out; omega⟩, ⟨Kd.S_st (Kd.S_mono (Kd.S_far (p := ⟨gb738, 3, none⟩) (Kd.S_far (p := ⟨gb738, 1, none⟩) (Kd.S_far (p := ⟨gb738, 1, none⟩) (Kd.S_mono HO_6.out (fun k_ hk => (⟨hk, hk.2⟩ : _ ∧ k_ ≠ gb738))) (fun _ hk => hk.2) (.int .i64 t748)) (fun _ hk => hk.2) (.int .i64 (wrap64 (t748 - 1)))) (fun _ hk => hk.2) (.int .i64 1)) (fun _ hk => hk.1.2))⟩, ⟨Kd.R_st (Kd.R_mono (Kd.R_far (p := ⟨gb738, 3, none⟩) (Kd.R_far (p := ⟨gb738, 1, none⟩) (Kd.R_far (p := ⟨gb738, 1, none⟩) (Kd.R_types HO_7.out BK738.out (by decide)) (fun _ hk => hk.2) (.int .i64 t748)) (fun _ hk => hk.2) (.int .i64 (wrap64 (t748 - 1)))) (fun _ hk => hk.2) (.int .i64 1)) (fun _ hk => hk.1.2))⟩, ⟨Kd.R_st (Kd.R_mono (Kd.R_far (p := ⟨gb738, 3, none⟩) (Kd.R_far (p := ⟨gb738, 1, none⟩) (Kd.R_far (p := ⟨gb738, 1, none⟩) (Kd.R_types HO746.out BK738.out (by decide)) (fun _ hk => hk.2) (.int .i64 t748)) (fun _ hk => hk.2) (.int .i64 (wrap64 (t748 - 1)))) (fun _ hk => hk.2) (.int .i64 1)) (fun _ hk => hk.1.1.2))⟩, ⟨by (with_reducible skip); refine blk_put (cs := #[.slice none 0 0, .int .i64 (wrap64 (t748 - 1)), .int .i64 0, .int .i64 0, .int .i64 0]) ?_ 3 _ rfl; (with_reducible skip); refine blk_put (cs := #[.slice none 0 0, .int .i64 t748, .int .i64 0, .int .i64 0, .int .i64 0]) ?_ 1 _ rfl; (with_reducible skip); refine blk_put (cs := #[.slice none 0 0, .int .i64 0, .int .i64 0, .int .i64 0, .int .i64 0]) ?_ 1 _ rfl; (with_reducible skip); exact BK738.out⟩, ⟨by with_reducible repeat first | exact HB.out | refine bS_ ?_ GE738.out⟩⟩
       ·rw [if_neg c29] at H
        have c29b0 := beq_eq_false_iff_ne.mpr c29
        have c29b1 := bne_iff_ne.mpr c29
        (rw [c29b0])
        by_cases c31 : (rdOf ByteArray.empty t744 2).toList = ([48] : List UInt8)
        ·rw [if_pos c31] at H
         have c31b0 := beq_iff_eq.mpr c31
         have c31b1 := bne_eq_false_iff_eq.mpr c31
         clear c31
         have H' := Aside0.mk H
         clear H
         have p751 : 0 ≤ (2 : Int) := (by omega)
         have q751 : 2 < (t744.length : Int) := of_decide_eq_true (by assumption)
         obtain ⟨ad751, e751, hx751_0⟩ := Kd.at_string (Kd.R_reads' HO746.out).2.2 2 p751 q751
         obtain rfl : ad747 = ad751 := (by injection e751)
         (try simp only [show (2 : Int).toNat = 2 from rfl, Nat.reduceMul, Nat.reduceEqDiff, Go.Addr.add, ↓reduceIte] at hx751_0)
         have qi751 : (2 < t744.length) = True := eq_true (by omega)
         have hn751_0 : ad747.block ≠ gb738 := Kd.own_blk (Kd.R_ne HO746.out BK738.out (by decide))
         replace hx751_0 := (cell_far (p := ⟨gb738, 1, none⟩) (by exact hn751_0) (.int .i64 t748)).trans hx751_0
         clear hn751_0
         replace p751 := eq_true p751
         replace q751 := eq_true q751
         obtain ⟨hcz32_0, hcz32_1, hcz32_2, hcz32_3, hcz32_4, hfz32_0, hfz32_1, hfz32_2, hfz32_3, hfz32_4⟩ := blk5 BK738.out
         go_wp2
         go_meet
         case rel => exact ⟨_, (t748), (0), H', ⟨by have := HK1.out; omega⟩, ⟨Kd.S_st (Kd.S_mono (Kd.S_far (p := ⟨gb738, 3, none⟩) (Kd.S_far (p := ⟨gb738, 1, none⟩) (Kd.S_mono HO_6.out (fun k_ hk => (⟨hk, hk.2⟩ : _ ∧ k_ ≠ gb738))) (fun _ hk => hk.2) (.int .i64 t748)) (fun _ hk => hk.2) (.int .i64 0)) (fun _ hk => hk.1.2))⟩, ⟨Kd.R_st (Kd.R_mono (Kd.R_far (p := ⟨gb738, 3, none⟩) (Kd.R_far (p := ⟨gb738, 1, none⟩) (Kd.R_types HO_7.out BK738.out (by decide)) (fun _ hk => hk.2) (.int .i64 t748)) (fun _ hk => hk.2) (.int .i64 0)) (fun _ hk => hk.1.2))⟩, ⟨Kd.R_st (Kd.R_mono (Kd.R_far (p := ⟨gb738, 3, none⟩) (Kd.R_far (p := ⟨gb738, 1, none⟩) (Kd.R_types HO746.out BK738.out (by decide)) (fun _ hk => hk.2) (.int .i64 t748)) (fun _ hk => hk.2) (.int .i64 0)) (fun _ hk => hk.1.1.2))⟩, ⟨by (with_reducible skip); refine blk_put (cs := #[.slice none 0 0, .int .i64 t748, .int .i64 0, .int .i64 0, .int .i64 0]) ?_ 3 _ rfl; (with_reducible skip); refine blk_put (cs := #[.slice none 0 0, .int .i64 0, .int .i64 0, .int .i64 0, .int .i64 0]) ?_ 1 _ rfl; (with_reducible skip); exact BK738.out⟩, ⟨by with_reducible repeat first | exact HB.out | refine bS_ ?_ GE738.out⟩⟩
        ·rw [if_neg c31] at H
         have c31b0 := beq_eq_false_iff_ne.mpr c31
         have c31b1 := bne_iff_ne.mpr c31
         replace H := Option.bind_eq_some_iff.mp H
         obtain ⟨⟨t753, t754⟩, A330, H⟩ := H
         try dsimp only at H
         have A33 := Aside0.mk A330
         clear A330
         have H' := Aside0.mk H
         clear H
         have p751 : 0 ≤ (2 : Int) := (by omega)
         have q751 : 2 < (t744.length : Int) := of_decide_eq_true (by assumption)
         obtain ⟨ad751, e751, hx751_0⟩ := Kd.at_string (Kd.R_reads' HO746.out).2.2 2 p751 q751
         obtain rfl : ad747 = ad751 := (by injection e751)
         (try simp only [show (2 : Int).toNat = 2 from rfl, Nat.reduceMul, Nat.reduceEqDiff, Go.Addr.add, ↓reduceIte] at hx751_0)
         have qi751 : (2 < t744.length) = True := eq_true (by omega)
         have hn751_0 : ad747.block ≠ gb738 := Kd.own_blk (Kd.R_ne HO746.out BK738.out (by decide))
         replace hx751_0 := (cell_far (p := ⟨gb738, 1, none⟩) (by exact hn751_0) (.int .i64 t748)).trans hx751_0
         clear hn751_0
         replace p751 := eq_true p751
         replace q751 := eq_true q751
         obtain ⟨hcz34_0, hcz34_1, hcz34_2, hcz34_3, hcz34_4, hfz34_0, hfz34_1, hfz34_2, hfz34_3, hfz34_4⟩ := blk5 BK738.out
         have p752 : 0 ≤ (2 : Int) := (by omega)
         have q752 : 2 < (t744.length : Int) := of_decide_eq_true (by assumption)
         obtain ⟨ad752, e752, hx752_0⟩ := Kd.at_string (Kd.R_reads' HO746.out).2.2 2 p752 q752
         obtain rfl : ad747 = ad752 := (by injection e752)
         (try simp only [show (2 : Int).toNat = 2 from rfl, Nat.reduceMul, Nat.reduceEqDiff, Go.Addr.add, ↓reduceIte] at hx752_0)
         have qi752 : (2 < t744.length) = True := eq_true (by omega)
         have hn752_0 : ad747.block ≠ gb738 := Kd.own_blk (Kd.R_ne HO746.out BK738.out (by decide))
         have hn752_1 : ad747.block ≠ gb738 := Kd.own_blk (Kd.R_ne HO746.out BK738.out (by decide))
         replace hx752_0 := (cell_far (p := ⟨gb738, 1, none⟩) (by exact hn752_0) (.int .i64 t748)).trans hx752_0
         replace hx752_0 := (cell_far (p := ⟨gb738, 1, none⟩) (by exact hn752_1) (.int .i64 (wrap64 (t748 - 1)))).trans hx752_0
         clear hn752_0
         clear hn752_1
         replace p752 := eq_true p752
         replace q752 := eq_true q752
         go_wp2_with (((with_reducible refine gate_callee (f := 40) rfl ?_); refine goesL_ (some 74) rfl rfl Tryz.func40 (by kernel_rfl) rfl #[.string (rdOf ByteArray.empty t744 2)] rfl (by (try simp only [List.map_toArray, List.map_cons, List.map_nil]); rfl) ?_; (with_reducible refine (strconv_Atoi.calls (rdOf ByteArray.empty t744 2) t753 t754 _ A33.out).mono ?_); rintro e w35 ⟨rfl, hb⟩; refine ⟨_, rfl, ?_⟩; replace HO_6 := aS_ (Kd.S_below (Kd.S_st ((Kd.S_mono (Kd.S_far (p := ⟨gb738, 1, none⟩) (Kd.S_far (p := ⟨gb738, 1, none⟩) (Kd.S_mono HO_6.out (fun k_ hk => (⟨hk, hk.2⟩ : _ ∧ k_ ≠ gb738))) (fun _ hk => hk.2) (.int .i64 t748)) (fun _ hk => hk.2) (.int .i64 (wrap64 (t748 - 1)))) (fun _ h_ => h_.1)))) hb); replace HO_7 := aS_ (Kd.R_below (Kd.R_st ((Kd.R_mono (Kd.R_far (p := ⟨gb738, 1, none⟩) (Kd.R_far (p := ⟨gb738, 1, none⟩) (Kd.R_types HO_7.out BK738.out (by decide)) (fun _ hk => hk.2) (.int .i64 t748)) (fun _ hk => hk.2) (.int .i64 (wrap64 (t748 - 1)))) (fun _ h_ => h_.1)))) hb); replace HO_739000 := aS_ (Kd.R_below (Kd.R_st ((Kd.R_mono (Kd.R_far (p := ⟨gb738, 1, none⟩) (Kd.R_far (p := ⟨gb738, 1, none⟩) (Kd.R_types HO_739000.out BK738.out (by decide)) (fun _ hk => hk.2) (.int .i64 t748)) (fun _ hk => hk.2) (.int .i64 (wrap64 (t748 - 1)))) (fun _ h_ => h_.1)))) hb); replace HO742 := aS_ (Kd.R_below (Kd.R_st ((Kd.R_mono (Kd.R_far (p := ⟨gb738, 1, none⟩) (Kd.R_far (p := ⟨gb738, 1, none⟩) (Kd.R_types HO742.out BK738.out (by decide)) (fun _ hk => hk.2) (.int .i64 t748)) (fun _ hk => hk.2) (.int .i64 (wrap64 (t748 - 1)))) (fun _ h_ => h_.1)))) hb); replace HO746 := aS_ (Kd.R_below (Kd.R_st ((Kd.R_mono (Kd.R_far (p := ⟨gb738, 1, none⟩) (Kd.R_far (p := ⟨gb738, 1, none⟩) (Kd.R_types HO746.out BK738.out (by decide)) (fun _ hk => hk.2) (.int .i64 t748)) (fun _ hk => hk.2) (.int .i64 (wrap64 (t748 - 1)))) (fun _ h_ => h_.1)))) hb); replace BK738 := aS_ (blk_below (g := gb738) (o := .cells #[.slice none 0 0, .int .i64 (wrap64 (t748 - 1)), .int .i64 0, .int .i64 0, .int .i64 0] 67 (0, 0)) (by (with_reducible skip); refine blk_put (cs := #[.slice none 0 0, .int .i64 t748, .int .i64 0, .int .i64 0, .int .i64 0]) ?_ 1 _ rfl; (with_reducible skip); refine blk_put (cs := #[.slice none 0 0, .int .i64 0, .int .i64 0, .int .i64 0, .int .i64 0]) ?_ 1 _ rfl; (with_reducible skip); exact BK738.out) hb); replace HB := aS_ (bt_ (by with_reducible repeat first | exact HB.out | refine bS_ ?_ GE738.out) hb); obtain ⟨hcz36_0, hcz36_1, hcz36_2, hcz36_3, hcz36_4, hfz36_0, hfz36_1, hfz36_2, hfz36_3, hfz36_4⟩ := blk5 BK738.out))
         go_meet
         case rel => exact ⟨_, (wrap64 (t748 - 1)), (t753), H', ⟨by have := HK1.out; omega⟩, ⟨Kd.S_st (Kd.S_mono (Kd.S_far (p := ⟨gb738, 3, none⟩) (Kd.S_mono HO_6.out (fun k_ hk => (⟨hk, hk.2⟩ : _ ∧ k_ ≠ gb738))) (fun _ hk => hk.2) (.int .i64 t753)) (fun _ hk => hk.1.2))⟩, ⟨Kd.R_st (Kd.R_mono (Kd.R_far (p := ⟨gb738, 3, none⟩) (Kd.R_types HO_7.out BK738.out (by decide)) (fun _ hk => hk.2) (.int .i64 t753)) (fun _ hk => hk.1.2))⟩, ⟨Kd.R_st (Kd.R_mono (Kd.R_far (p := ⟨gb738, 3, none⟩) (Kd.R_types HO746.out BK738.out (by decide)) (fun _ hk => hk.2) (.int .i64 t753)) (fun _ hk => hk.1.1.2))⟩, ⟨by (with_reducible skip); refine blk_put (cs := #[.slice none 0 0, .int .i64 (wrap64 (t748 - 1)), .int .i64 0, .int .i64 0, .int .i64 0]) ?_ 3 _ rfl; (with_reducible skip); exact BK738.out⟩, ⟨by with_reducible repeat first | exact HB.out | refine bS_ ?_ GE738.out⟩⟩
      case rest =>
       clear HC19
       obtain ⟨kq, x739001_18, x739003_18, HA, HJ18, HO_6, HO_7, HO_12, BK738, HB⟩ := hcut
       cases kq with
       | zero => exact absurd HA.out (by simp [p_PatchFromText.j1])
       | succ kj18 =>
        have H := HA.out; clear HA
        simp only [p_PatchFromText.j1] at H
        replace H := yes_ H; obtain ⟨c37, H⟩ := H
        have c37b0 := decide_eq_true c37
        have c37b1 : decide (3 < t744.length) = true := decide_eq_true (by omega)
        clear c37
        replace H := Option.bind_eq_some_iff.mp H
        obtain ⟨⟨t756, t757⟩, A380, H⟩ := H
        try dsimp only at H
        have A38 := Aside0.mk A380
        clear A380
        replace H := yes_ H; obtain ⟨c39, H⟩ := H
        have c39b0 := decide_eq_true c39
        have c39b1 : decide (4 < t744.length) = true := decide_eq_true (by omega)
        clear c39
        have HC40 := Aside0.mk H
        clear H
        have p755 : 0 ≤ (3 : Int) := (by omega)
        have q755 : 3 < (t744.length : Int) := of_decide_eq_true (by assumption)
        obtain ⟨ad755, e755, hx755_0⟩ := Kd.at_string (Kd.R_reads' HO_12.out).2.2 3 p755 q755
        obtain rfl : ad747 = ad755 := (by injection e755)
        (try simp only [show (3 : Int).toNat = 3 from rfl, Nat.reduceMul, Nat.reduceEqDiff, Go.Addr.add, ↓reduceIte] at hx755_0)
        have qi755 : (3 < t744.length) = True := eq_true (by omega)
        replace p755 := eq_true p755
        replace q755 := eq_true q755
        go_upto_if 90 with (((with_reducible refine gate_callee (f := 40) rfl ?_); refine goesL_ (some 82) rfl rfl Tryz.func40 (by kernel_rfl) rfl #[.string (rdOf ByteArray.empty t744 3)] rfl (by (try simp only [List.map_toArray, List.map_cons, List.map_nil]); rfl) ?_; (with_reducible refine (strconv_Atoi.calls (rdOf ByteArray.empty t744 3) t756 t757 _ A38.out).mono ?_); rintro e w41 ⟨rfl, hb⟩; refine ⟨_, rfl, ?_⟩; replace HO_6 := aS_ (Kd.S_below (Kd.S_st HO_6.out) hb); replace HO_7 := aS_ (Kd.R_below (Kd.R_st HO_7.out) hb); replace HO_12 := aS_ (Kd.R_below (Kd.R_st HO_12.out) hb); replace BK738 := aS_ (blk_below (g := gb738) (o := .cells #[.slice none 0 0, .int .i64 x739001_18, .int .i64 0, .int .i64 x739003_18, .int .i64 0] 67 (0, 0)) (blk_st BK738.out) hb); replace HB := aS_ (bt_ (by with_reducible repeat exact HB.out) hb); obtain ⟨hcz42_0, hcz42_1, hcz42_2, hcz42_3, hcz42_4, hfz42_0, hfz42_1, hfz42_2, hfz42_3, hfz42_4⟩ := blk5 BK738.out; have p758 : 0 ≤ (4 : Int) := (by omega); have q758 : 4 < (t744.length : Int) := of_decide_eq_true (by assumption); obtain ⟨ad758, e758, hx758_0⟩ := Kd.at_string (Kd.R_reads' HO_12.out).2.2 4 p758 q758; obtain rfl : ad747 = ad758 := (by injection e758); (try simp only [show (4 : Int).toNat = 4 from rfl, Nat.reduceMul, Nat.reduceEqDiff, Go.Addr.add, ↓reduceIte] at hx758_0); have qi758 : (4 < t744.length) = True := eq_true (by omega); have hn758_0 : ad747.block ≠ gb738 := Kd.own_blk (Kd.R_ne HO_12.out BK738.out (by decide)); replace hx758_0 := (cell_far (p := ⟨gb738, 2, none⟩) (by exact hn758_0) (.int .i64 t756)).trans hx758_0; clear hn758_0; replace p758 := eq_true p758; replace q758 := eq_true q758))
        go_cut [] (fun wc => ∃ (kq : Nat) (x739002_39 : Int) (x739004_39 : Int), Aside0 (p_PatchFromText.j2 kq x6_1 t735 x8_1 x739001_18 x739002_39 x739003_18 x739004_39 = some (r1, r2)) ∧ Aside0 (kq ≤ kj18) ∧ Aside0 (Kd.S k67 67 wc w.heap.size (fun k_ => k_ ≠ gb738) u6 x6_1) ∧ Aside0 (Kd.R Kd.string 9 wc w.heap.size (fun _ => True) (.slice (some ad739) t735.length co20) t735) ∧ Aside0 (wc.heap[gb738]? = some (.cells #[(.slice none 0 0), .int .i64 x739001_18, .int .i64 x739002_39, .int .i64 x739003_18, .int .i64 x739004_39] 67 (0, 0))) ∧ Aside0 (Below w.heap.size w wc))
        case first =>
         have H := HC40.out
         clear HC40
         by_cases c43 : ((rdOf ByteArray.empty t744 4).size : Int) = 0
         ·rw [if_pos c43] at H
          have c43b0 := beq_iff_eq.mpr c43
          have c43b1 := bne_eq_false_iff_eq.mpr c43
          clear c43
          (rw [c43b0])
          have H' := Aside0.mk H
          clear H
          obtain ⟨hcz44_0, hcz44_1, hcz44_2, hcz44_3, hcz44_4, hfz44_0, hfz44_1, hfz44_2, hfz44_3, hfz44_4⟩ := blk5 BK738.out
          go_wp2
          go_meet
          case rel => exact ⟨_, (wrap64 (t756 - 1)), (1), H', ⟨by have := HK1.out; have := HJ18.out; omega⟩, ⟨Kd.S_st (Kd.S_mono (Kd.S_far (p := ⟨gb738, 4, none⟩) (Kd.S_far (p := ⟨gb738, 2, none⟩) (Kd.S_far (p := ⟨gb738, 2, none⟩) (Kd.S_mono HO_6.out (fun k_ hk => (⟨hk, hk⟩ : _ ∧ k_ ≠ gb738))) (fun _ hk => hk.2) (.int .i64 t756)) (fun _ hk => hk.2) (.int .i64 (wrap64 (t756 - 1)))) (fun _ hk => hk.2) (.int .i64 1)) (fun _ hk => hk.1))⟩, ⟨Kd.R_st (Kd.R_mono (Kd.R_far (p := ⟨gb738, 4, none⟩) (Kd.R_far (p := ⟨gb738, 2, none⟩) (Kd.R_far (p := ⟨gb738, 2, none⟩) (Kd.R_types HO_7.out BK738.out (by decide)) (fun _ hk => hk.2) (.int .i64 t756)) (fun _ hk => hk.2) (.int .i64 (wrap64 (t756 - 1)))) (fun _ hk => hk.2) (.int .i64 1)) (fun _ hk => trivial))⟩, ⟨by (with_reducible skip); refine blk_put (cs := #[.slice none 0 0, .int .i64 x739001_18, .int .i64 (wrap64 (t756 - 1)), .int .i64 x739003_18, .int .i64 0]) ?_ 4 _ rfl; (with_reducible skip); refine blk_put (cs := #[.slice none 0 0, .int .i64 x739001_18, .int .i64 t756, .int .i64 x739003_18, .int .i64 0]) ?_ 2 _ rfl; (with_reducible skip); refine blk_put (cs := #[.slice none 0 0, .int .i64 x739001_18, .int .i64 0, .int .i64 x739003_18, .int .i64 0]) ?_ 2 _ rfl; (with_reducible skip); exact BK738.out⟩, ⟨by with_reducible repeat first | exact HB.out | refine bS_ ?_ GE738.out⟩⟩
         ·rw [if_neg c43] at H
          have c43b0 := beq_eq_false_iff_ne.mpr c43
          have c43b1 := bne_iff_ne.mpr c43
          (rw [c43b0])
          by_cases c45 : (rdOf ByteArray.empty t744 4).toList = ([48] : List UInt8)
          ·rw [if_pos c45] at H
           have c45b0 := beq_iff_eq.mpr c45
           have c45b1 := bne_eq_false_iff_eq.mpr c45
           clear c45
           have H' := Aside0.mk H
           clear H
           have p759 : 0 ≤ (4 : Int) := (by omega)
           have q759 : 4 < (t744.length : Int) := of_decide_eq_true (by assumption)
           obtain ⟨ad759, e759, hx759_0⟩ := Kd.at_string (Kd.R_reads' HO_12.out).2.2 4 p759 q759
           obtain rfl : ad747 = ad759 := (by injection e759)
           (try simp only [show (4 : Int).toNat = 4 from rfl, Nat.reduceMul, Nat.reduceEqDiff, Go.Addr.add, ↓reduceIte] at hx759_0)
           have qi759 : (4 < t744.length) = True := eq_true (by omega)
           have hn759_0 : ad747.block ≠ gb738 := Kd.own_blk (Kd.R_ne HO_12.out BK738.out (by decide))
           replace hx759_0 := (cell_far (p := ⟨gb738, 2, none⟩) (by exact hn759_0) (.int .i64 t756)).trans hx759_0
           clear hn759_0
           replace p759 := eq_true p759
           replace q759 := eq_true q759
           obtain ⟨hcz46_0, hcz46_1, hcz46_2, hcz46_3, hcz46_4, hfz46_0, hfz46_1, hfz46_2, hfz46_3, hfz46_4⟩ := blk5 BK738.out
           go_wp2
           go_meet
           case rel => exact ⟨_, (t756), (0), H', ⟨by have := HK1.out; have := HJ18.out; omega⟩, ⟨Kd.S_st (Kd.S_mono (Kd.S_far (p := ⟨gb738, 4, none⟩) (Kd.S_far (p := ⟨gb738, 2, none⟩) (Kd.S_mono HO_6.out (fun k_ hk => (⟨hk, hk⟩ : _ ∧ k_ ≠ gb738))) (fun _ hk => hk.2) (.int .i64 t756)) (fun _ hk => hk.2) (.int .i64 0)) (fun _ hk => hk.1))⟩, ⟨Kd.R_st (Kd.R_mono (Kd.R_far (p := ⟨gb738, 4, none⟩) (Kd.R_far (p := ⟨gb738, 2, none⟩) (Kd.R_types HO_7.out BK738.out (by decide)) (fun _ hk => hk.2) (.int .i64 t756)) (fun _ hk => hk.2) (.int .i64 0)) (fun _ hk => trivial))⟩, ⟨by (with_reducible skip); refine blk_put (cs := #[.slice none 0 0, .int .i64 x739001_18, .int .i64 t756, .int .i64 x739003_18, .int .i64 0]) ?_ 4 _ rfl; (with_reducible skip); refine blk_put (cs := #[.slice none 0 0, .int .i64 x739001_18, .int .i64 0, .int .i64 x739003_18, .int .i64 0]) ?_ 2 _ rfl; (with_reducible skip); exact BK738.out⟩, ⟨by with_reducible repeat first | exact HB.out | refine bS_ ?_ GE738.out⟩⟩
          ·rw [if_neg c45] at H
           have c45b0 := beq_eq_false_iff_ne.mpr c45
           have c45b1 := bne_iff_ne.mpr c45
           replace H := Option.bind_eq_some_iff.mp H
           obtain ⟨⟨t761, t762⟩, A470, H⟩ := H
           try dsimp only at H
           have A47 := Aside0.mk A470
           clear A470
           have H' := Aside0.mk H
           clear H
           have p759 : 0 ≤ (4 : Int) := (by omega)
           have q759 : 4 < (t744.length : Int) := of_decide_eq_true (by assumption)
           obtain ⟨ad759, e759, hx759_0⟩ := Kd.at_string (Kd.R_reads' HO_12.out).2.2 4 p759 q759
           obtain rfl : ad747 = ad759 := (by injection e759)
           (try simp only [show (4 : Int).toNat = 4 from rfl, Nat.reduceMul, Nat.reduceEqDiff, Go.Addr.add, ↓reduceIte] at hx759_0)
           have qi759 : (4 < t744.length) = True := eq_true (by omega)
           have hn759_0 : ad747.block ≠ gb738 := Kd.own_blk (Kd.R_ne HO_12.out BK738.out (by decide))
           replace hx759_0 := (cell_far (p := ⟨gb738, 2, none⟩) (by exact hn759_0) (.int .i64 t756)).trans hx759_0
           clear hn759_0
           replace p759 := eq_true p759
           replace q759 := eq_true q759
           obtain ⟨hcz48_0, hcz48_1, hcz48_2, hcz48_3, hcz48_4, hfz48_0, hfz48_1, hfz48_2, hfz48_3, hfz48_4⟩ := blk5 BK738.out
           have p760 : 0 ≤ (4 : Int) := (by omega)
           have q760 : 4 < (t744.length : Int) := of_decide_eq_true (by assumption)
           obtain ⟨ad760, e760, hx760_0⟩ := Kd.at_string (Kd.R_reads' HO_12.out).2.2 4 p760 q760
           obtain rfl : ad747 = ad760 := (by injection e760)
           (try simp only [show (4 : Int).toNat = 4 from rfl, Nat.reduceMul, Nat.reduceEqDiff, Go.Addr.add, ↓reduceIte] at hx760_0)
           have qi760 : (4 < t744.length) = True := eq_true (by omega)
           have hn760_0 : ad747.block ≠ gb738 := Kd.own_blk (Kd.R_ne HO_12.out BK738.out (by decide))
           have hn760_1 : ad747.block ≠ gb738 := Kd.own_blk (Kd.R_ne HO_12.out BK738.out (by decide))
           replace hx760_0 := (cell_far (p := ⟨gb738, 2, none⟩) (by exact hn760_0) (.int .i64 t756)).trans hx760_0
           replace hx760_0 := (cell_far (p := ⟨gb738, 2, none⟩) (by exact hn760_1) (.int .i64 (wrap64 (t756 - 1)))).trans hx760_0
           clear hn760_0
           clear hn760_1
           replace p760 := eq_true p760
           replace q760 := eq_true q760
           go_wp2_with (((with_reducible refine gate_callee (f := 40) rfl ?_); refine goesL_ (some 109) rfl rfl Tryz.func40 (by kernel_rfl) rfl #[.string (rdOf ByteArray.empty t744 4)] rfl (by (try simp only [List.map_toArray, List.map_cons, List.map_nil]); rfl) ?_; (with_reducible refine (strconv_Atoi.calls (rdOf ByteArray.empty t744 4) t761 t762 _ A47.out).mono ?_); rintro e w49 ⟨rfl, hb⟩; refine ⟨_, rfl, ?_⟩; replace HO_6 := aS_ (Kd.S_below (Kd.S_st ((Kd.S_mono (Kd.S_far (p := ⟨gb738, 2, none⟩) (Kd.S_far (p := ⟨gb738, 2, none⟩) (Kd.S_mono HO_6.out (fun k_ hk => (⟨hk, hk⟩ : _ ∧ k_ ≠ gb738))) (fun _ hk => hk.2) (.int .i64 t756)) (fun _ hk => hk.2) (.int .i64 (wrap64 (t756 - 1)))) (fun _ h_ => h_.1)))) hb); replace HO_7 := aS_ (Kd.R_below (Kd.R_st ((Kd.R_mono (Kd.R_far (p := ⟨gb738, 2, none⟩) (Kd.R_far (p := ⟨gb738, 2, none⟩) (Kd.R_types HO_7.out BK738.out (by decide)) (fun _ hk => hk.2) (.int .i64 t756)) (fun _ hk => hk.2) (.int .i64 (wrap64 (t756 - 1)))) (fun _ h_ => h_.1)))) hb); replace HO_12 := aS_ (Kd.R_below (Kd.R_st ((Kd.R_mono (Kd.R_far (p := ⟨gb738, 2, none⟩) (Kd.R_far (p := ⟨gb738, 2, none⟩) (Kd.R_types HO_12.out BK738.out (by decide)) (fun _ hk => hk.2) (.int .i64 t756)) (fun _ hk => hk.2) (.int .i64 (wrap64 (t756 - 1)))) (fun _ h_ => h_.1)))) hb); replace BK738 := aS_ (blk_below (g := gb738) (o := .cells #[.slice none 0 0, .int .i64 x739001_18, .int .i64 (wrap64 (t756 - 1)), .int .i64 x739003_18, .int .i64 0] 67 (0, 0)) (by (with_reducible skip); refine blk_put (cs := #[.slice none 0 0, .int .i64 x739001_18, .int .i64 t756, .int .i64 x739003_18, .int .i64 0]) ?_ 2 _ rfl; (with_reducible skip); refine blk_put (cs := #[.slice none 0 0, .int .i64 x739001_18, .int .i64 0, .int .i64 x739003_18, .int .i64 0]) ?_ 2 _ rfl; (with_reducible skip); exact BK738.out) hb); replace HB := aS_ (bt_ (by with_reducible repeat first | exact HB.out | refine bS_ ?_ GE738.out) hb); obtain ⟨hcz50_0, hcz50_1, hcz50_2, hcz50_3, hcz50_4, hfz50_0, hfz50_1, hfz50_2, hfz50_3, hfz50_4⟩ := blk5 BK738.out))
           go_meet
           case rel => exact ⟨_, (wrap64 (t756 - 1)), (t761), H', ⟨by have := HK1.out; have := HJ18.out; omega⟩, ⟨Kd.S_st (Kd.S_mono (Kd.S_far (p := ⟨gb738, 4, none⟩) (Kd.S_mono HO_6.out (fun k_ hk => (⟨hk, hk⟩ : _ ∧ k_ ≠ gb738))) (fun _ hk => hk.2) (.int .i64 t761)) (fun _ hk => hk.1))⟩, ⟨Kd.R_st (Kd.R_mono (Kd.R_far (p := ⟨gb738, 4, none⟩) (Kd.R_types HO_7.out BK738.out (by decide)) (fun _ hk => hk.2) (.int .i64 t761)) (fun _ hk => trivial))⟩, ⟨by (with_reducible skip); refine blk_put (cs := #[.slice none 0 0, .int .i64 x739001_18, .int .i64 (wrap64 (t756 - 1)), .int .i64 x739003_18, .int .i64 0]) ?_ 4 _ rfl; (with_reducible skip); exact BK738.out⟩, ⟨by with_reducible repeat first | exact HB.out | refine bS_ ?_ GE738.out⟩⟩
        case rest =>
         clear HC40
         obtain ⟨kq, x739002_39, x739004_39, HA, HJ39, HO_6, HO_7, BK738, HB⟩ := hcut
         cases kq with
         | zero => exact absurd HA.out (by simp [p_PatchFromText.j2])
         | succ kj39 =>
          have H := HA.out; clear HA
          simp only [p_PatchFromText.j2] at H
          have H' := Aside0.mk H
          clear H
          go_wp2
          go_loopg [8] kj39 (fun kq v8 w' => ∃ (x8_4 : Int) (x739000_4 : List (S93)) (u739000 : Value), v8 = .int .i64 x8_4 ∧ Aside0 (p_PatchFromText.l1 kq x6_1 t735 x8_4 x739000_4 x739001_18 x739002_39 x739003_18 x739004_39 = some (r1, r2)) ∧ Aside0 (kq ≤ kj39) ∧ Aside0 (Kd.S k67 67 w' w.heap.size (fun k_ => some k_ ≠ (u739000 : Value).ownBlock ∧ k_ ≠ gb738) u6 x6_1) ∧ Aside0 (Kd.R Kd.string 9 w' w.heap.size (fun _ => True) (.slice (some ad739) t735.length co20) t735) ∧ Aside0 (Kd.R k93 93 w' w.heap.size (fun _ => True) u739000 x739000_4) ∧ Aside0 (w'.heap[gb738]? = some (.cells #[u739000, .int .i64 x739001_18, .int .i64 x739002_39, .int .i64 x739003_18, .int .i64 x739004_39] 67 (0, 0))) ∧ Aside0 (Below w.heap.size w w'))
          case atStart => exact ⟨(wrap64 (x8_1 + 1)), (([] : List (S93))), (.slice none 0 0), (by rfl), H', ⟨Nat.le_refl _⟩, ⟨Kd.S_st (Kd.S_mono HO_6.out (fun _ hk => ⟨(by simp [Value.ownBlock]), hk⟩))⟩, ⟨Kd.R_st HO_7.out⟩, ⟨by exact Kd.R_nil _ _ _ _ _⟩, ⟨blk_st BK738.out⟩, ⟨by with_reducible repeat exact HB.out⟩⟩
          case round =>
           clear H'
           obtain ⟨x8_4, x739000_4, u739000, rfl, HA, HK4, HO_6, HO_7, HO_739000, BK738, HB⟩ := hrel
           cases gk with
           | zero => exact absurd HA.out (by simp [p_PatchFromText.l1])
           | succ k4 =>
            have H := HA.out; clear HA
            simp only [p_PatchFromText.l1] at H
            by_cases c51 : x8_4 < (t735.length : Int)
            ·rw [if_pos c51] at H
             have c51b0 := decide_eq_true c51
             clear c51
             replace H := yes_ H; obtain ⟨c52, H⟩ := H
             have c52b0 := decide_eq_true c52
             clear c52
             by_cases c53 : ((rdOf ByteArray.empty t735 x8_4).size : Int) > 0
             ·rw [if_pos c53] at H
              have c53b0 : decide (0 < ((rdOf ByteArray.empty t735 x8_4).size : Int)) = true := decide_eq_true c53
              have c53b1 : decide (0 < (rdOf ByteArray.empty t735 x8_4).size) = true := decide_eq_true (by omega)
              clear c53
              replace H := yes_ H; obtain ⟨c54, H⟩ := H
              have c54b0 := decide_eq_true c54
              have c54b1 : decide (0 < (rdOf ByteArray.empty t735 x8_4).size) = true := decide_eq_true (by omega)
              clear c54
              replace H := yes_ H; obtain ⟨c56, H⟩ := H
              have c56b0 := eq_true c56
              have c56b1 := decide_eq_true c56
              clear c56
              replace H := Option.bind_eq_some_iff.mp H
              obtain ⟨t769, A570, H⟩ := H
              have A57 := Aside0.mk A570
              clear A570
              replace H := Option.bind_eq_some_iff.mp H
              obtain ⟨⟨t770, t771⟩, A580, H⟩ := H
              try dsimp only at H
              have A58 := Aside0.mk A580
              clear A580
              by_cases c59 : (bt (rdOf ByteArray.empty t735 x8_4) 0) = 45
              ·rw [if_pos c59] at H
               have c59b0 := beq_iff_eq.mpr c59
               have c59b1 := bne_eq_false_iff_eq.mpr c59
               clear c59
               replace H := yes_ H; obtain ⟨c60, H⟩ := H
               have LMc60 := Aside0.mk c60
               clear c60
               obtain ⟨y772, hy772⟩ : ∃ y_ : List (S93), y_ = (x739000_4 ++ [(⟨(-1), t770⟩ : S93)]) := ⟨_, rfl⟩
               replace H : (p_PatchFromText.l1 k4 x6_1 t735 (wrap64 (x8_4 + 1)) y772 x739001_18 x739002_39 x739003_18 x739004_39) = some (r1, r2) := by (rw [hy772]; with_reducible exact H)
               have Ny772 := Aside0.mk hy772
               clear hy772
               have H' := Aside0.mk H
               clear H
               have p766 : 0 ≤ (x8_4 : Int) := of_decide_eq_true (by assumption)
               have q766 : x8_4 < (t735.length : Int) := of_decide_eq_true (by assumption)
               obtain ⟨ad766, e766, hx766_0⟩ := Kd.at_string (Kd.R_reads' HO_7.out).2.2 x8_4 p766 q766
               obtain rfl : ad739 = ad766 := (by injection e766)
               replace p766 := eq_true p766
               replace q766 := eq_true q766
               have p767 : 0 ≤ (x8_4 : Int) := of_decide_eq_true (by assumption)
               have q767 : x8_4 < (t735.length : Int) := of_decide_eq_true (by assumption)
               obtain ⟨ad767, e767, hx767_0⟩ := Kd.at_string (Kd.R_reads' HO_7.out).2.2 x8_4 p767 q767
               obtain rfl : ad739 = ad767 := (by injection e767)
               replace p767 := eq_true p767
               replace q767 := eq_true q767
               have p55 : 0 ≤ (0 : Int) := (by omega)
               have q55 : 0 < (rdOf ByteArray.empty t735 x8_4).size := (by have : (0 : Int) < ((rdOf ByteArray.empty t735 x8_4).size : Int) := of_decide_eq_true (by assumption); omega)
               have hx55 : ∀ h : 0 < (rdOf ByteArray.empty t735 x8_4).size, (((rdOf ByteArray.empty t735 x8_4)[0]'h).toNat : Int) = bt (rdOf ByteArray.empty t735 x8_4) 0 := bt_at (rdOf ByteArray.empty t735 x8_4) 0
               clear p55
               have qi55 : (0 < ((rdOf ByteArray.empty t735 x8_4).size : Int)) = True := eq_true (of_decide_eq_true (by assumption))
               replace q55 := eq_true q55
               have p768 : 0 ≤ (x8_4 : Int) := of_decide_eq_true (by assumption)
               have q768 : x8_4 < (t735.length : Int) := of_decide_eq_true (by assumption)
               obtain ⟨ad768, e768, hx768_0⟩ := Kd.at_string (Kd.R_reads' HO_7.out).2.2 x8_4 p768 q768
               obtain rfl : ad739 = ad768 := (by injection e768)
               replace p768 := eq_true p768
               replace q768 := eq_true q768
               go_wp2_with (first | ((with_reducible refine gate_callee (f := 41) rfl ?_); refine goesL_ (some 138) rfl rfl Tryz.func41 (by kernel_rfl) rfl #[.string ((rdOf ByteArray.empty t735 x8_4).extract 1 (rdOf ByteArray.empty t735 x8_4).size), .string (⟨#[43]⟩ : ByteArray), .string (⟨#[37, 50, 98]⟩ : ByteArray)] rfl (by (try simp only [List.map_toArray, List.map_cons, List.map_nil]); rfl) ?_; (with_reducible refine (q_zzReplace.calls k4 ((rdOf ByteArray.empty t735 x8_4).extract 1 (rdOf ByteArray.empty t735 x8_4).size) (⟨#[43]⟩ : ByteArray) (⟨#[37, 50, 98]⟩ : ByteArray) t769 _ A57.out).mono ?_); rintro e w' ⟨rfl, ⟨nd, rfl⟩⟩; refine ⟨_, rfl, ?_⟩; (try (rw [drewN_self wr]; generalize hq_ : World.drewN wr _ = wr; have n0_ : Aside0 (Kd.S k67 67 wr w.heap.size (fun k_ => some k_ ≠ (u739000 : Value).ownBlock ∧ k_ ≠ gb738) u6 x6_1) := ⟨by rw [← hq_]; exact (Kd.S_st HO_6.out)⟩; have n1_ : Aside0 (Kd.R Kd.string 9 wr w.heap.size (fun _ => True) (.slice (some ad739) t735.length co20) t735) := ⟨by rw [← hq_]; exact (Kd.R_st HO_7.out)⟩; have n2_ : Aside0 (Kd.R k93 93 wr w.heap.size (fun _ => True) u739000 x739000_4) := ⟨by rw [← hq_]; exact (Kd.R_st HO_739000.out)⟩; have n3_ : Aside0 (wr.heap[gb738]? = some (.cells #[u739000, .int .i64 x739001_18, .int .i64 x739002_39, .int .i64 x739003_18, .int .i64 x739004_39] 67 (0, 0))) := ⟨by rw [← hq_]; exact (blk_st BK738.out)⟩; have n4_ : Aside0 (Below w.heap.size w wr) := ⟨by rw [← hq_]; exact (by with_reducible repeat first | exact HB.out | apply bN_)⟩; clear HO_6 HO_7 HO_739000 BK738 HB hq_; have HO_6 := n0_; have HO_7 := n1_; have HO_739000 := n2_; have BK738 := n3_; have HB := n4_; clear n0_ n1_ n2_ n3_ n4_))) | ((with_reducible refine gate_callee (f := 42) rfl ?_); refine goesL_ (some 141) rfl rfl Tryz.func42 (by kernel_rfl) rfl #[.string t769] rfl (by (try simp only [List.map_toArray, List.map_cons, List.map_nil]); rfl) ?_; (with_reducible refine (q_zzQueryUnescape.calls k4 t769 t770 t771 _ A58.out).mono ?_); rintro e w61 ⟨rfl, hb⟩; refine ⟨_, rfl, ?_⟩; replace HO_6 := aS_ (Kd.S_below (Kd.S_st HO_6.out) hb); replace HO_7 := aS_ (Kd.R_below (Kd.R_st HO_7.out) hb); replace HO_739000 := aS_ (Kd.R_below (Kd.R_st HO_739000.out) hb); replace BK738 := aS_ (blk_below (g := gb738) (o := .cells #[u739000, .int .i64 x739001_18, .int .i64 x739002_39, .int .i64 x739003_18, .int .i64 x739004_39] 67 (0, 0)) (blk_st BK738.out) hb); replace HB := aS_ (bt_ (by with_reducible repeat exact HB.out) hb); obtain ⟨hcz62_0, hcz62_1, hcz62_2, hcz62_3, hcz62_4, hfz62_0, hfz62_1, hfz62_2, hfz62_3, hfz62_4⟩ := blk5 BK738.out) | ((with_reducible refine gate_builtin (b := .append) (xs := #[.tmp 147, .tmp 150]) rfl ?_); at_builtin; refine Kd.R_append k93 (w0 := w) w.heap.size rfl (.tmp 147) (.tmp 150) 65 93 (.agg #[(.int .i8 0), (.string ⟨#[]⟩)]) 24 rfl Tryz.underlying65 info93 rfl (by decide) (by omega) u739000 x739000_4 (⟨(-1), t770⟩ : S93) [.int .i8 (-1), .string t770] (fun _ => True) (fun _ => False) rfl rfl ?aP (fun _ hk => hk.elim) ?aF ?aO ?aB ?aS ?aL ?_; (case aP => exact k93_mkM _ _ _ (⟨(-1), t770⟩ : S93)); (case aB => exact (by with_reducible repeat exact HB.out)); (case aF => exact (fun _ _ => trivial)); (case aO => exact (Kd.R_st HO_739000.out)); (case aS => exact (bz_ (by with_reducible repeat exact HB.out))); (case aL => have := LMc60.out; omega); intro v773 w63 ho hb hg hat; rw [← Ny772.out] at ho; replace HO_6 := aS_ (Kd.S_after (ok := (fun k_ => k_ ≠ gb738)) (Kd.S_st (Kd.S_mono HO_6.out (fun _ hk => ⟨hk.2, hk.1⟩))) hg hat); replace HO_7 := aS_ (Kd.R_over' (Kd.R_st HO_7.out) (Kd.R_typed (Kd.R_st HO_739000.out)) (by decide) hg); replace BK738 := aS_ (blk_grown (g := gb738) (o := .cells #[u739000, .int .i64 x739001_18, .int .i64 x739002_39, .int .i64 x739003_18, .int .i64 x739004_39] 67 (0, 0)) (blk_st BK738.out) hg (Kd.R_ne HO_739000.out BK738.out (by decide))); replace HB := aS_ (hb); have HO774 := aS_ (ho); clear HO_739000; clear ho hb hg hat; obtain ⟨Ao64, co64, eo64⟩ := Kd.R_slice HO774.out; subst eo64; obtain ⟨hcz65_0, hcz65_1, hcz65_2, hcz65_3, hcz65_4, hfz65_0, hfz65_1, hfz65_2, hfz65_3, hfz65_4⟩ := blk5 BK738.out))
               go_roundg k4
               case measure => have := HK1.out; have := HJ18.out; have := HJ39.out; have := HK4.out; omega
               case rel => exact ⟨(wrap64 (x8_4 + 1)), (y772), (.slice Ao64 y772.length co64), (by rfl), H', ⟨by have := HK1.out; have := HJ18.out; have := HJ39.out; have := HK4.out; omega⟩, ⟨Kd.S_st (Kd.S_mono (Kd.S_far (p := ⟨gb738, 0, none⟩) (Kd.S_mono HO_6.out (fun k_ hk => (⟨hk, hk.1⟩ : _ ∧ k_ ≠ gb738))) (fun _ hk => hk.2) (.slice Ao64 y772.length co64)) (fun _ hk => ⟨hk.1.2, hk.1.1⟩))⟩, ⟨Kd.R_st (Kd.R_mono (Kd.R_far (p := ⟨gb738, 0, none⟩) (Kd.R_types HO_7.out BK738.out (by decide)) (fun _ hk => hk.2) (.slice Ao64 y772.length co64)) (fun _ hk => trivial))⟩, ⟨Kd.R_st (Kd.R_mono (Kd.R_far (p := ⟨gb738, 0, none⟩) (Kd.R_types HO774.out BK738.out (by decide)) (fun _ hk => hk.2) (.slice Ao64 y772.length co64)) (fun _ hk => trivial))⟩, ⟨by (with_reducible skip); refine blk_put (cs := #[u739000, .int .i64 x739001_18, .int .i64 x739002_39, .int .i64 x739003_18, .int .i64 x739004_39]) ?_ 0 _ rfl; (with_reducible skip); exact BK738.out⟩, ⟨by with_reducible repeat first | exact HB.out | refine bS_ ?_ GE738.out⟩⟩
              ·rw [if_neg c59] at H
               have c59b0 := beq_eq_false_iff_ne.mpr c59
               have c59b1 := bne_iff_ne.mpr c59
               by_cases c66 : (bt (rdOf ByteArray.empty t735 x8_4) 0) = 43
               ·rw [if_pos c66] at H
                have c66b0 := beq_iff_eq.mpr c66
                have c66b1 := bne_eq_false_iff_eq.mpr c66
                clear c66
                replace H := yes_ H; obtain ⟨c67, H⟩ := H
                have LMc67 := Aside0.mk c67
                clear c67
                obtain ⟨y775, hy775⟩ : ∃ y_ : List (S93), y_ = (x739000_4 ++ [(⟨1, t770⟩ : S93)]) := ⟨_, rfl⟩
                replace H : (p_PatchFromText.l1 k4 x6_1 t735 (wrap64 (x8_4 + 1)) y775 x739001_18 x739002_39 x739003_18 x739004_39) = some (r1, r2) := by (rw [hy775]; with_reducible exact H)
                have Ny775 := Aside0.mk hy775
                clear hy775
                have H' := Aside0.mk H
                clear H
                have p766 : 0 ≤ (x8_4 : Int) := of_decide_eq_true (by assumption)
                have q766 : x8_4 < (t735.length : Int) := of_decide_eq_true (by assumption)
                obtain ⟨ad766, e766, hx766_0⟩ := Kd.at_string (Kd.R_reads' HO_7.out).2.2 x8_4 p766 q766
                obtain rfl : ad739 = ad766 := (by injection e766)
                replace p766 := eq_true p766
                replace q766 := eq_true q766
                have p767 : 0 ≤ (x8_4 : Int) := of_decide_eq_true (by assumption)
                have q767 : x8_4 < (t735.length : Int) := of_decide_eq_true (by assumption)
                obtain ⟨ad767, e767, hx767_0⟩ := Kd.at_string (Kd.R_reads' HO_7.out).2.2 x8_4 p767 q767
                obtain rfl : ad739 = ad767 := (by injection e767)
                replace p767 := eq_true p767
                replace q767 := eq_true q767
                have p55 : 0 ≤ (0 : Int) := (by omega)
                have q55 : 0 < (rdOf ByteArray.empty t735 x8_4).size := (by have : (0 : Int) < ((rdOf ByteArray.empty t735 x8_4).size : Int) := of_decide_eq_true (by assumption); omega)
                have hx55 : ∀ h : 0 < (rdOf ByteArray.empty t735 x8_4).size, (((rdOf ByteArray.empty t735 x8_4)[0]'h).toNat : Int) = bt (rdOf ByteArray.empty t735 x8_4) 0 := bt_at (rdOf ByteArray.empty t735 x8_4) 0
                clear p55
                have qi55 : (0 < ((rdOf ByteArray.empty t735 x8_4).size : Int)) = True := eq_true (of_decide_eq_true (by assumption))
                replace q55 := eq_true q55
                have p768 : 0 ≤ (x8_4 : Int) := of_decide_eq_true (by assumption)
                have q768 : x8_4 < (t735.length : Int) := of_decide_eq_true (by assumption)
                obtain ⟨ad768, e768, hx768_0⟩ := Kd.at_string (Kd.R_reads' HO_7.out).2.2 x8_4 p768 q768
                obtain rfl : ad739 = ad768 := (by injection e768)
                replace p768 := eq_true p768
                replace q768 := eq_true q768
                go_wp2_with (first | ((with_reducible refine gate_callee (f := 41) rfl ?_); refine goesL_ (some 138) rfl rfl Tryz.func41 (by kernel_rfl) rfl #[.string ((rdOf ByteArray.empty t735 x8_4).extract 1 (rdOf ByteArray.empty t735 x8_4).size), .string (⟨#[43]⟩ : ByteArray), .string (⟨#[37, 50, 98]⟩ : ByteArray)] rfl (by (try simp only [List.map_toArray, List.map_cons, List.map_nil]); rfl) ?_; (with_reducible refine (q_zzReplace.calls k4 ((rdOf ByteArray.empty t735 x8_4).extract 1 (rdOf ByteArray.empty t735 x8_4).size) (⟨#[43]⟩ : ByteArray) (⟨#[37, 50, 98]⟩ : ByteArray) t769 _ A57.out).mono ?_); rintro e w' ⟨rfl, ⟨nd, rfl⟩⟩; refine ⟨_, rfl, ?_⟩; (try (rw [drewN_self wr]; generalize hq_ : World.drewN wr _ = wr; have n0_ : Aside0 (Kd.S k67 67 wr w.heap.size (fun k_ => some k_ ≠ (u739000 : Value).ownBlock ∧ k_ ≠ gb738) u6 x6_1) := ⟨by rw [← hq_]; exact (Kd.S_st HO_6.out)⟩; have n1_ : Aside0 (Kd.R Kd.string 9 wr w.heap.size (fun _ => True) (.slice (some ad739) t735.length co20) t735) := ⟨by rw [← hq_]; exact (Kd.R_st HO_7.out)⟩; have n2_ : Aside0 (Kd.R k93 93 wr w.heap.size (fun _ => True) u739000 x739000_4) := ⟨by rw [← hq_]; exact (Kd.R_st HO_739000.out)⟩; have n3_ : Aside0 (wr.heap[gb738]? = some (.cells #[u739000, .int .i64 x739001_18, .int .i64 x739002_39, .int .i64 x739003_18, .int .i64 x739004_39] 67 (0, 0))) := ⟨by rw [← hq_]; exact (blk_st BK738.out)⟩; have n4_ : Aside0 (Below w.heap.size w wr) := ⟨by rw [← hq_]; exact (by with_reducible repeat first | exact HB.out | apply bN_)⟩; clear HO_6 HO_7 HO_739000 BK738 HB hq_; have HO_6 := n0_; have HO_7 := n1_; have HO_739000 := n2_; have BK738 := n3_; have HB := n4_; clear n0_ n1_ n2_ n3_ n4_))) | ((with_reducible refine gate_callee (f := 42) rfl ?_); refine goesL_ (some 141) rfl rfl Tryz.func42 (by kernel_rfl) rfl #[.string t769] rfl (by (try simp only [List.map_toArray, List.map_cons, List.map_nil]); rfl) ?_; (with_reducible refine (q_zzQueryUnescape.calls k4 t769 t770 t771 _ A58.out).mono ?_); rintro e w68 ⟨rfl, hb⟩; refine ⟨_, rfl, ?_⟩; replace HO_6 := aS_ (Kd.S_below (Kd.S_st HO_6.out) hb); replace HO_7 := aS_ (Kd.R_below (Kd.R_st HO_7.out) hb); replace HO_739000 := aS_ (Kd.R_below (Kd.R_st HO_739000.out) hb); replace BK738 := aS_ (blk_below (g := gb738) (o := .cells #[u739000, .int .i64 x739001_18, .int .i64 x739002_39, .int .i64 x739003_18, .int .i64 x739004_39] 67 (0, 0)) (blk_st BK738.out) hb); replace HB := aS_ (bt_ (by with_reducible repeat exact HB.out) hb); obtain ⟨hcz69_0, hcz69_1, hcz69_2, hcz69_3, hcz69_4, hfz69_0, hfz69_1, hfz69_2, hfz69_3, hfz69_4⟩ := blk5 BK738.out) | ((with_reducible refine gate_builtin (b := .append) (xs := #[.tmp 156, .tmp 159]) rfl ?_); at_builtin; refine Kd.R_append k93 (w0 := w) w.heap.size rfl (.tmp 156) (.tmp 159) 65 93 (.agg #[(.int .i8 0), (.string ⟨#[]⟩)]) 24 rfl Tryz.underlying65 info93 rfl (by decide) (by omega) u739000 x739000_4 (⟨1, t770⟩ : S93) [.int .i8 1, .string t770] (fun _ => True) (fun _ => False) rfl rfl ?aP (fun _ hk => hk.elim) ?aF ?aO ?aB ?aS ?aL ?_; (case aP => exact k93_mkM _ _ _ (⟨1, t770⟩ : S93)); (case aB => exact (by with_reducible repeat exact HB.out)); (case aF => exact (fun _ _ => trivial)); (case aO => exact (Kd.R_st HO_739000.out)); (case aS => exact (bz_ (by with_reducible repeat exact HB.out))); (case aL => have := LMc67.out; omega); intro v776 w70 ho hb hg hat; rw [← Ny775.out] at ho; replace HO_6 := aS_ (Kd.S_after (ok := (fun k_ => k_ ≠ gb738)) (Kd.S_st (Kd.S_mono HO_6.out (fun _ hk => ⟨hk.2, hk.1⟩))) hg hat); replace HO_7 := aS_ (Kd.R_over' (Kd.R_st HO_7.out) (Kd.R_typed (Kd.R_st HO_739000.out)) (by decide) hg); replace BK738 := aS_ (blk_grown (g := gb738) (o := .cells #[u739000, .int .i64 x739001_18, .int .i64 x739002_39, .int .i64 x739003_18, .int .i64 x739004_39] 67 (0, 0)) (blk_st BK738.out) hg (Kd.R_ne HO_739000.out BK738.out (by decide))); replace HB := aS_ (hb); have HO777 := aS_ (ho); clear HO_739000; clear ho hb hg hat; obtain ⟨Ao71, co71, eo71⟩ := Kd.R_slice HO777.out; subst eo71; obtain ⟨hcz72_0, hcz72_1, hcz72_2, hcz72_3, hcz72_4, hfz72_0, hfz72_1, hfz72_2, hfz72_3, hfz72_4⟩ := blk5 BK738.out))
                go_roundg k4
                case measure => have := HK1.out; have := HJ18.out; have := HJ39.out; have := HK4.out; omega
                case rel => exact ⟨(wrap64 (x8_4 + 1)), (y775), (.slice Ao71 y775.length co71), (by rfl), H', ⟨by have := HK1.out; have := HJ18.out; have := HJ39.out; have := HK4.out; omega⟩, ⟨Kd.S_st (Kd.S_mono (Kd.S_far (p := ⟨gb738, 0, none⟩) (Kd.S_mono HO_6.out (fun k_ hk => (⟨hk, hk.1⟩ : _ ∧ k_ ≠ gb738))) (fun _ hk => hk.2) (.slice Ao71 y775.length co71)) (fun _ hk => ⟨hk.1.2, hk.1.1⟩))⟩, ⟨Kd.R_st (Kd.R_mono (Kd.R_far (p := ⟨gb738, 0, none⟩) (Kd.R_types HO_7.out BK738.out (by decide)) (fun _ hk => hk.2) (.slice Ao71 y775.length co71)) (fun _ hk => trivial))⟩, ⟨Kd.R_st (Kd.R_mono (Kd.R_far (p := ⟨gb738, 0, none⟩) (Kd.R_types HO777.out BK738.out (by decide)) (fun _ hk => hk.2) (.slice Ao71 y775.length co71)) (fun _ hk => trivial))⟩, ⟨by (with_reducible skip); refine blk_put (cs := #[u739000, .int .i64 x739001_18, .int .i64 x739002_39, .int .i64 x739003_18, .int .i64 x739004_39]) ?_ 0 _ rfl; (with_reducible skip); exact BK738.out⟩, ⟨by with_reducible repeat first | exact HB.out | refine bS_ ?_ GE738.out⟩⟩
               ·rw [if_neg c66] at H
                have c66b0 := beq_eq_false_iff_ne.mpr c66
                have c66b1 := bne_iff_ne.mpr c66
                by_cases c73 : (bt (rdOf ByteArray.empty t735 x8_4) 0) = 32
                ·rw [if_pos c73] at H
                 have c73b0 := beq_iff_eq.mpr c73
                 have c73b1 := bne_eq_false_iff_eq.mpr c73
                 clear c73
                 replace H := yes_ H; obtain ⟨c74, H⟩ := H
                 have LMc74 := Aside0.mk c74
                 clear c74
                 obtain ⟨y778, hy778⟩ : ∃ y_ : List (S93), y_ = (x739000_4 ++ [(⟨0, t770⟩ : S93)]) := ⟨_, rfl⟩
                 replace H : (p_PatchFromText.l1 k4 x6_1 t735 (wrap64 (x8_4 + 1)) y778 x739001_18 x739002_39 x739003_18 x739004_39) = some (r1, r2) := by (rw [hy778]; with_reducible exact H)
                 have Ny778 := Aside0.mk hy778
                 clear hy778
                 have H' := Aside0.mk H
                 clear H
                 have p766 : 0 ≤ (x8_4 : Int) := of_decide_eq_true (by assumption)
                 have q766 : x8_4 < (t735.length : Int) := of_decide_eq_true (by assumption)
                 obtain ⟨ad766, e766, hx766_0⟩ := Kd.at_string (Kd.R_reads' HO_7.out).2.2 x8_4 p766 q766
                 obtain rfl : ad739 = ad766 := (by injection e766)
                 replace p766 := eq_true p766
                 replace q766 := eq_true q766
                 have p767 : 0 ≤ (x8_4 : Int) := of_decide_eq_true (by assumption)
                 have q767 : x8_4 < (t735.length : Int) := of_decide_eq_true (by assumption)
                 obtain ⟨ad767, e767, hx767_0⟩ := Kd.at_string (Kd.R_reads' HO_7.out).2.2 x8_4 p767 q767
                 obtain rfl : ad739 = ad767 := (by injection e767)
                 replace p767 := eq_true p767
                 replace q767 := eq_true q767
                 have p55 : 0 ≤ (0 : Int) := (by omega)
                 have q55 : 0 < (rdOf ByteArray.empty t735 x8_4).size := (by have : (0 : Int) < ((rdOf ByteArray.empty t735 x8_4).size : Int) := of_decide_eq_true (by assumption); omega)
                 have hx55 : ∀ h : 0 < (rdOf ByteArray.empty t735 x8_4).size, (((rdOf ByteArray.empty t735 x8_4)[0]'h).toNat : Int) = bt (rdOf ByteArray.empty t735 x8_4) 0 := bt_at (rdOf ByteArray.empty t735 x8_4) 0
                 clear p55
                 have qi55 : (0 < ((rdOf ByteArray.empty t735 x8_4).size : Int)) = True := eq_true (of_decide_eq_true (by assumption))
                 replace q55 := eq_true q55
                 have p768 : 0 ≤ (x8_4 : Int) := of_decide_eq_true (by assumption)
                 have q768 : x8_4 < (t735.length : Int) := of_decide_eq_true (by assumption)
                 obtain ⟨ad768, e768, hx768_0⟩ := Kd.at_string (Kd.R_reads' HO_7.out).2.2 x8_4 p768 q768
                 obtain rfl : ad739 = ad768 := (by injection e768)
                 replace p768 := eq_true p768
                 replace q768 := eq_true q768
                 go_wp2_with (first | ((with_reducible refine gate_callee (f := 41) rfl ?_); refine goesL_ (some 138) rfl rfl Tryz.func41 (by kernel_rfl) rfl #[.string ((rdOf ByteArray.empty t735 x8_4).extract 1 (rdOf ByteArray.empty t735 x8_4).size), .string (⟨#[43]⟩ : ByteArray), .string (⟨#[37, 50, 98]⟩ : ByteArray)] rfl (by (try simp only [List.map_toArray, List.map_cons, List.map_nil]); rfl) ?_; (with_reducible refine (q_zzReplace.calls k4 ((rdOf ByteArray.empty t735 x8_4).extract 1 (rdOf ByteArray.empty t735 x8_4).size) (⟨#[43]⟩ : ByteArray) (⟨#[37, 50, 98]⟩ : ByteArray) t769 _ A57.out).mono ?_); rintro e w' ⟨rfl, ⟨nd, rfl⟩⟩; refine ⟨_, rfl, ?_⟩; (try (rw [drewN_self wr]; generalize hq_ : World.drewN wr _ = wr; have n0_ : Aside0 (Kd.S k67 67 wr w.heap.size (fun k_ => some k_ ≠ (u739000 : Value).ownBlock ∧ k_ ≠ gb738) u6 x6_1) := ⟨by rw [← hq_]; exact (Kd.S_st HO_6.out)⟩; have n1_ : Aside0 (Kd.R Kd.string 9 wr w.heap.size (fun _ => True) (.slice (some ad739) t735.length co20) t735) := ⟨by rw [← hq_]; exact (Kd.R_st HO_7.out)⟩; have n2_ : Aside0 (Kd.R k93 93 wr w.heap.size (fun _ => True) u739000 x739000_4) := ⟨by rw [← hq_]; exact (Kd.R_st HO_739000.out)⟩; have n3_ : Aside0 (wr.heap[gb738]? = some (.cells #[u739000, .int .i64 x739001_18, .int .i64 x739002_39, .int .i64 x739003_18, .int .i64 x739004_39] 67 (0, 0))) := ⟨by rw [← hq_]; exact (blk_st BK738.out)⟩; have n4_ : Aside0 (Below w.heap.size w wr) := ⟨by rw [← hq_]; exact (by with_reducible repeat first | exact HB.out | apply bN_)⟩; clear HO_6 HO_7 HO_739000 BK738 HB hq_; have HO_6 := n0_; have HO_7 := n1_; have HO_739000 := n2_; have BK738 := n3_; have HB := n4_; clear n0_ n1_ n2_ n3_ n4_))) | ((with_reducible refine gate_callee (f := 42) rfl ?_); refine goesL_ (some 141) rfl rfl Tryz.func42 (by kernel_rfl) rfl #[.string t769] rfl (by (try simp only [List.map_toArray, List.map_cons, List.map_nil]); rfl) ?_; (with_reducible refine (q_zzQueryUnescape.calls k4 t769 t770 t771 _ A58.out).mono ?_); rintro e w75 ⟨rfl, hb⟩; refine ⟨_, rfl, ?_⟩; replace HO_6 := aS_ (Kd.S_below (Kd.S_st HO_6.out) hb); replace HO_7 := aS_ (Kd.R_below (Kd.R_st HO_7.out) hb); replace HO_739000 := aS_ (Kd.R_below (Kd.R_st HO_739000.out) hb); replace BK738 := aS_ (blk_below (g := gb738) (o := .cells #[u739000, .int .i64 x739001_18, .int .i64 x739002_39, .int .i64 x739003_18, .int .i64 x739004_39] 67 (0, 0)) (blk_st BK738.out) hb); replace HB := aS_ (bt_ (by with_reducible repeat exact HB.out) hb); obtain ⟨hcz76_0, hcz76_1, hcz76_2, hcz76_3, hcz76_4, hfz76_0, hfz76_1, hfz76_2, hfz76_3, hfz76_4⟩ := blk5 BK738.out) | ((with_reducible refine gate_builtin (b := .append) (xs := #[.tmp 165, .tmp 168]) rfl ?_); at_builtin; refine Kd.R_append k93 (w0 := w) w.heap.size rfl (.tmp 165) (.tmp 168) 65 93 (.agg #[(.int .i8 0), (.string ⟨#[]⟩)]) 24 rfl Tryz.underlying65 info93 rfl (by decide) (by omega) u739000 x739000_4 (⟨0, t770⟩ : S93) [.int .i8 0, .string t770] (fun _ => True) (fun _ => False) rfl rfl ?aP (fun _ hk => hk.elim) ?aF ?aO ?aB ?aS ?aL ?_; (case aP => exact k93_mkM _ _ _ (⟨0, t770⟩ : S93)); (case aB => exact (by with_reducible repeat exact HB.out)); (case aF => exact (fun _ _ => trivial)); (case aO => exact (Kd.R_st HO_739000.out)); (case aS => exact (bz_ (by with_reducible repeat exact HB.out))); (case aL => have := LMc74.out; omega); intro v779 w77 ho hb hg hat; rw [← Ny778.out] at ho; replace HO_6 := aS_ (Kd.S_after (ok := (fun k_ => k_ ≠ gb738)) (Kd.S_st (Kd.S_mono HO_6.out (fun _ hk => ⟨hk.2, hk.1⟩))) hg hat); replace HO_7 := aS_ (Kd.R_over' (Kd.R_st HO_7.out) (Kd.R_typed (Kd.R_st HO_739000.out)) (by decide) hg); replace BK738 := aS_ (blk_grown (g := gb738) (o := .cells #[u739000, .int .i64 x739001_18, .int .i64 x739002_39, .int .i64 x739003_18, .int .i64 x739004_39] 67 (0, 0)) (blk_st BK738.out) hg (Kd.R_ne HO_739000.out BK738.out (by decide))); replace HB := aS_ (hb); have HO780 := aS_ (ho); clear HO_739000; clear ho hb hg hat; obtain ⟨Ao78, co78, eo78⟩ := Kd.R_slice HO780.out; subst eo78; obtain ⟨hcz79_0, hcz79_1, hcz79_2, hcz79_3, hcz79_4, hfz79_0, hfz79_1, hfz79_2, hfz79_3, hfz79_4⟩ := blk5 BK738.out))
                 go_roundg k4
                 case measure => have := HK1.out; have := HJ18.out; have := HJ39.out; have := HK4.out; omega
                 case rel => exact ⟨(wrap64 (x8_4 + 1)), (y778), (.slice Ao78 y778.length co78), (by rfl), H', ⟨by have := HK1.out; have := HJ18.out; have := HJ39.out; have := HK4.out; omega⟩, ⟨Kd.S_st (Kd.S_mono (Kd.S_far (p := ⟨gb738, 0, none⟩) (Kd.S_mono HO_6.out (fun k_ hk => (⟨hk, hk.1⟩ : _ ∧ k_ ≠ gb738))) (fun _ hk => hk.2) (.slice Ao78 y778.length co78)) (fun _ hk => ⟨hk.1.2, hk.1.1⟩))⟩, ⟨Kd.R_st (Kd.R_mono (Kd.R_far (p := ⟨gb738, 0, none⟩) (Kd.R_types HO_7.out BK738.out (by decide)) (fun _ hk => hk.2) (.slice Ao78 y778.length co78)) (fun _ hk => trivial))⟩, ⟨Kd.R_st (Kd.R_mono (Kd.R_far (p := ⟨gb738, 0, none⟩) (Kd.R_types HO780.out BK738.out (by decide)) (fun _ hk => hk.2) (.slice Ao78 y778.length co78)) (fun _ hk => trivial))⟩, ⟨by (with_reducible skip); refine blk_put (cs := #[u739000, .int .i64 x739001_18, .int .i64 x739002_39, .int .i64 x739003_18, .int .i64 x739004_39]) ?_ 0 _ rfl; (with_reducible skip); exact BK738.out⟩, ⟨by with_reducible repeat first | exact HB.out | refine bS_ ?_ GE738.out⟩⟩
                ·rw [if_neg c73] at H
                 have c73b0 := beq_eq_false_iff_ne.mpr c73
                 have c73b1 := bne_iff_ne.mpr c73
                 by_cases c80 : (bt (rdOf ByteArray.empty t735 x8_4) 0) = 64
                 ·rw [if_pos c80] at H
                  have c80b0 := beq_iff_eq.mpr c80
                  have c80b1 := bne_eq_false_iff_eq.mpr c80
                  clear c80
                  replace H := yes_ H; obtain ⟨c81, H⟩ := H
                  have LMc81 := Aside0.mk c81
                  clear c81
                  obtain ⟨y781, hy781⟩ : ∃ y_ : List (S67), y_ = (x6_1 ++ [(⟨x739000_4, x739001_18, x739002_39, x739003_18, x739004_39⟩ : S67)]) := ⟨_, rfl⟩
                  replace H : (p_PatchFromText.l0 k4 y781 t735 x8_4) = some (r1, r2) := by (rw [hy781]; with_reducible exact H)
                  have Ny781 := Aside0.mk hy781
                  clear hy781
                  have H' := Aside0.mk H
                  clear H
                  have p766 : 0 ≤ (x8_4 : Int) := of_decide_eq_true (by assumption)
                  have q766 : x8_4 < (t735.length : Int) := of_decide_eq_true (by assumption)
                  obtain ⟨ad766, e766, hx766_0⟩ := Kd.at_string (Kd.R_reads' HO_7.out).2.2 x8_4 p766 q766
                  obtain rfl : ad739 = ad766 := (by injection e766)
                  replace p766 := eq_true p766
                  replace q766 := eq_true q766
                  have p767 : 0 ≤ (x8_4 : Int) := of_decide_eq_true (by assumption)
                  have q767 : x8_4 < (t735.length : Int) := of_decide_eq_true (by assumption)
                  obtain ⟨ad767, e767, hx767_0⟩ := Kd.at_string (Kd.R_reads' HO_7.out).2.2 x8_4 p767 q767
                  obtain rfl : ad739 = ad767 := (by injection e767)
                  replace p767 := eq_true p767
                  replace q767 := eq_true q767
                  have p55 : 0 ≤ (0 : Int) := (by omega)
                  have q55 : 0 < (rdOf ByteArray.empty t735 x8_4).size := (by have : (0 : Int) < ((rdOf ByteArray.empty t735 x8_4).size : Int) := of_decide_eq_true (by assumption); omega)
                  have hx55 : ∀ h : 0 < (rdOf ByteArray.empty t735 x8_4).size, (((rdOf ByteArray.empty t735 x8_4)[0]'h).toNat : Int) = bt (rdOf ByteArray.empty t735 x8_4) 0 := bt_at (rdOf ByteArray.empty t735 x8_4) 0
                  clear p55
                  have qi55 : (0 < ((rdOf ByteArray.empty t735 x8_4).size : Int)) = True := eq_true (of_decide_eq_true (by assumption))
                  replace q55 := eq_true q55
                  have p768 : 0 ≤ (x8_4 : Int) := of_decide_eq_true (by assumption)
                  have q768 : x8_4 < (t735.length : Int) := of_decide_eq_true (by assumption)
                  obtain ⟨ad768, e768, hx768_0⟩ := Kd.at_string (Kd.R_reads' HO_7.out).2.2 x8_4 p768 q768
                  obtain rfl : ad739 = ad768 := (by injection e768)
                  replace p768 := eq_true p768
                  replace q768 := eq_true q768
                  go_wp2_with (first | ((with_reducible refine gate_callee (f := 41) rfl ?_); refine goesL_ (some 138) rfl rfl Tryz.func41 (by kernel_rfl) rfl #[.string ((rdOf ByteArray.empty t735 x8_4).extract 1 (rdOf ByteArray.empty t735 x8_4).size), .string (⟨#[43]⟩ : ByteArray), .string (⟨#[37, 50, 98]⟩ : ByteArray)] rfl (by (try simp only [List.map_toArray, List.map_cons, List.map_nil]); rfl) ?_; (with_reducible refine (q_zzReplace.calls k4 ((rdOf ByteArray.empty t735 x8_4).extract 1 (rdOf ByteArray.empty t735 x8_4).size) (⟨#[43]⟩ : ByteArray) (⟨#[37, 50, 98]⟩ : ByteArray) t769 _ A57.out).mono ?_); rintro e w' ⟨rfl, ⟨nd, rfl⟩⟩; refine ⟨_, rfl, ?_⟩) | ((with_reducible refine gate_callee (f := 42) rfl ?_); refine goesL_ (some 141) rfl rfl Tryz.func42 (by kernel_rfl) rfl #[.string t769] rfl (by (try simp only [List.map_toArray, List.map_cons, List.map_nil]); rfl) ?_; (with_reducible refine (q_zzQueryUnescape.calls k4 t769 t770 t771 _ A58.out).mono ?_); rintro e w82 ⟨rfl, hb⟩; refine ⟨_, rfl, ?_⟩; replace HO_6 := aS_ (Kd.S_below (Kd.S_st HO_6.out) hb); replace HO_7 := aS_ (Kd.R_below (Kd.R_st HO_7.out) hb); replace HO_739000 := aS_ (Kd.R_below (Kd.R_st HO_739000.out) hb); replace BK738 := aS_ (blk_below (g := gb738) (o := .cells #[u739000, .int .i64 x739001_18, .int .i64 x739002_39, .int .i64 x739003_18, .int .i64 x739004_39] 67 (0, 0)) (blk_st BK738.out) hb); replace HB := aS_ (bt_ (by with_reducible repeat first | exact HB.out | apply bN_) hb); obtain ⟨hcz83_0, hcz83_1, hcz83_2, hcz83_3, hcz83_4, hfz83_0, hfz83_1, hfz83_2, hfz83_3, hfz83_4⟩ := blk5 BK738.out; obtain ⟨Ao85, co85, eo85⟩ := Kd.R_slice HO_739000.out; subst eo85) | ((with_reducible refine gate_builtin (b := .append) (xs := #[.tmp 183, .tmp 185]) rfl ?_); at_builtin; refine Kd.S_append k67 (w0 := w) w.heap.size rfl (.tmp 183) (.tmp 185) 52 67 (.agg #[(.slice none 0 0), (.int .i64 0), (.int .i64 0), (.int .i64 0), (.int .i64 0)]) 56 rfl Tryz.underlying52 info67 rfl (by decide) (by omega) u6 x6_1 (⟨x739000_4, x739001_18, x739002_39, x739003_18, x739004_39⟩ : S67) [.slice Ao85 x739000_4.length co85, .int .i64 x739001_18, .int .i64 x739002_39, .int .i64 x739003_18, .int .i64 x739004_39] (fun k_ => k_ ≠ gb738) (fun k_ => some k_ = (.slice Ao85 x739000_4.length co85 : Value).ownBlock) rfl rfl ?aP (fun k_ hk_ => ((Kd.R_mono (ok' := fun k_ => ((fun k_ => k_ ≠ gb738)) k_ ∧ some k_ ≠ (u6 : Value).ownBlock) (Kd.R_types (Kd.R_apart' (HO_739000.out) (Kd.S_typed HO_6.out) (by decide)) BK738.out (by decide)) (fun k_ hk => ⟨hk.2, hk.1.2⟩))).1 k_ hk_.symm) ?aF ?aO ?aB ?aS ?aL ?_; (case aP => exact k67_mkM _ _ _ (⟨x739000_4, x739001_18, x739002_39, x739003_18, x739004_39⟩ : S67) (Kd.R_mono (Kd.R_tight rfl (Kd.R_mono (ok' := fun k_ => ((fun k_ => k_ ≠ gb738)) k_ ∧ some k_ ≠ (u6 : Value).ownBlock) (Kd.R_types (Kd.R_apart' (HO_739000.out) (Kd.S_typed HO_6.out) (by decide)) BK738.out (by decide)) (fun k_ hk => ⟨hk.2, hk.1.2⟩))) (fun _ h_ => h_))); (case aB => exact (by with_reducible repeat exact HB.out)); (case aF => exact (fun k_ hk => Kd.freshB (g := gb738) (o := .cells #[.slice Ao85 x739000_4.length co85, .int .i64 x739001_18, .int .i64 x739002_39, .int .i64 x739003_18, .int .i64 x739004_39] 67 (0, 0)) (blk_st BK738.out) k_ hk)); (case aO => exact (Kd.S_st (Kd.S_mono HO_6.out (fun k_ hk => ⟨hk.2, fun e_ => hk.1 e_⟩)))); (case aS => exact (bz_ (by with_reducible repeat exact HB.out))); (case aL => have := LMc81.out; omega); intro v782 w84 ho hb hg hat; rw [← Ny781.out] at ho; replace HO_7 := aS_ (Kd.R_over' (Kd.R_st HO_7.out) (Kd.S_typed (Kd.S_st HO_6.out)) (by decide) hg); replace BK738 := aS_ (blk_grown (g := gb738) (o := .cells #[.slice Ao85 x739000_4.length co85, .int .i64 x739001_18, .int .i64 x739002_39, .int .i64 x739003_18, .int .i64 x739004_39] 67 (0, 0)) (blk_st BK738.out) hg (Kd.S_away HO_6.out (fun _ hk => hk.2))); replace HB := aS_ (hb); have HO783 := aS_ (ho); clear HO_6 HO_739000; clear ho hb hg hat))
                  go_roundg k4
                  case measure => have := HK1.out; have := HJ18.out; have := HJ39.out; have := HK4.out; omega
                  case rel => exact ⟨(y781), (x8_4), ([]), (x739001_18), (x739002_39), (x739003_18), (x739004_39), (.slice Ao85 x739000_4.length co85), (by rfl), H', ⟨by have := HK1.out; have := HJ18.out; have := HJ39.out; have := HK4.out; omega⟩, ⟨Kd.S_st (Kd.S_mono HO783.out (fun _ hk => ⟨(by simp [Value.ownBlock]), hk⟩))⟩, ⟨Kd.R_st HO_7.out⟩, ⟨Kd.R_nil _ _ _ _ _⟩, ⟨blk_st BK738.out⟩, ⟨by with_reducible repeat exact HB.out⟩⟩
                 ·rw [if_neg c80] at H
                  have c80b0 := beq_eq_false_iff_ne.mpr c80
                  replace H := yes_ H; obtain ⟨c80s, H⟩ := H
                  simp only [Option.some.injEq, Prod.mk.injEq] at H
                  obtain ⟨rfl, rfl⟩ := H
                  have c80x : (9223372036854775807 < 20 + (Utf8.encode (bt (rdOf ByteArray.empty t735 x8_4) 0)).size) = False := eq_false (by omega)
                  have c80y : (9223372036854775807 < 20 + (Utf8.encode (bt (rdOf ByteArray.empty t735 x8_4) 0)).size + 6) = False := eq_false (by omega)
                  have c80z : (9223372036854775807 < 20 + (Utf8.encode (bt (rdOf ByteArray.empty t735 x8_4) 0)).size + 6 + t770.size) = False := eq_false (by omega)
                  have hcv_ : ∀ (W : World) (n : Int), (convert 5 9 (.int .u8 n)).run Tryz.prog W = .ok (.string (Utf8.encode n)) W := fun W n => run_convert_int_string W 5 9 .u8 n (by rw [Tryz.underlying5]; rfl) Tryz.underlying9
                  have p766 : 0 ≤ (x8_4 : Int) := of_decide_eq_true (by assumption)
                  have q766 : x8_4 < (t735.length : Int) := of_decide_eq_true (by assumption)
                  obtain ⟨ad766, e766, hx766_0⟩ := Kd.at_string (Kd.R_reads' HO_7.out).2.2 x8_4 p766 q766
                  obtain rfl : ad739 = ad766 := (by injection e766)
                  replace p766 := eq_true p766
                  replace q766 := eq_true q766
                  have q55 : 0 < (rdOf ByteArray.empty t735 x8_4).size := (by have : (0 : Int) < ((rdOf ByteArray.empty t735 x8_4).size : Int) := of_decide_eq_true (by assumption); omega)
                  have hx55 : ∀ h : 0 < (rdOf ByteArray.empty t735 x8_4).size, (((rdOf ByteArray.empty t735 x8_4)[0]'h).toNat : Int) = bt (rdOf ByteArray.empty t735 x8_4) 0 := bt_at (rdOf ByteArray.empty t735 x8_4) 0
                  have qi55 : (0 < ((rdOf ByteArray.empty t735 x8_4).size : Int)) = True := eq_true (of_decide_eq_true (by assumption))
                  replace q55 := eq_true q55
                  go_wp2_with (first | ((with_reducible refine gate_callee (f := 41) rfl ?_); refine goesL_ (some 138) rfl rfl Tryz.func41 (by kernel_rfl) rfl #[.string ((rdOf ByteArray.empty t735 x8_4).extract 1 (rdOf ByteArray.empty t735 x8_4).size), .string (⟨#[43]⟩ : ByteArray), .string (⟨#[37, 50, 98]⟩ : ByteArray)] rfl (by (try simp only [List.map_toArray, List.map_cons, List.map_nil]); rfl) ?_; (with_reducible refine (q_zzReplace.calls k4 ((rdOf ByteArray.empty t735 x8_4).extract 1 (rdOf ByteArray.empty t735 x8_4).size) (⟨#[43]⟩ : ByteArray) (⟨#[37, 50, 98]⟩ : ByteArray) t769 _ A57.out).mono ?_); rintro e w' ⟨rfl, ⟨nd, rfl⟩⟩; refine ⟨_, rfl, ?_⟩) | ((with_reducible refine gate_callee (f := 42) rfl ?_); refine goesL_ (some 141) rfl rfl Tryz.func42 (by kernel_rfl) rfl #[.string t769] rfl (by (try simp only [List.map_toArray, List.map_cons, List.map_nil]); rfl) ?_; (with_reducible refine (q_zzQueryUnescape.calls k4 t769 t770 t771 _ A58.out).mono ?_); rintro e w82 ⟨rfl, hb⟩; refine ⟨_, rfl, ?_⟩; replace HO_6 := aS_ (Kd.S_below (Kd.S_st HO_6.out) hb); replace HO_7 := aS_ (Kd.R_below (Kd.R_st HO_7.out) hb); replace HO_739000 := aS_ (Kd.R_below (Kd.R_st HO_739000.out) hb); replace BK738 := aS_ (blk_below (g := gb738) (o := .cells #[u739000, .int .i64 x739001_18, .int .i64 x739002_39, .int .i64 x739003_18, .int .i64 x739004_39] 67 (0, 0)) (blk_st BK738.out) hb); replace HB := aS_ (bt_ (by with_reducible repeat first | exact HB.out | apply bN_) hb); obtain ⟨hcz83_0, hcz83_1, hcz83_2, hcz83_3, hcz83_4, hfz83_0, hfz83_1, hfz83_2, hfz83_3, hfz83_4⟩ := blk5 BK738.out; obtain ⟨Ao85, co85, eo85⟩ := Kd.R_slice HO_739000.out; subst eo85) | (go_at_call 39; refine (new_err _ _).mono ?_; rintro e w92 ⟨g_, rfl, hg_, hb92_⟩))
                  go_ret2
                  exact ⟨_, _, rfl, Kd.S_mono (Kd.S_below HO_6.out hb92_) (fun _ _ => trivial), ⟨g_, rfl, hg_⟩, bt_ HB.out hb92_⟩
             ·rw [if_neg c53] at H
              have c53b0 : decide (0 < ((rdOf ByteArray.empty t735 x8_4).size : Int)) = false := decide_eq_false c53
              have c53b1 : decide (0 < (rdOf ByteArray.empty t735 x8_4).size) = false := decide_eq_false (by omega)
              clear c53
              have H' := Aside0.mk H
              clear H
              have p766 : 0 ≤ (x8_4 : Int) := of_decide_eq_true (by assumption)
              have q766 : x8_4 < (t735.length : Int) := of_decide_eq_true (by assumption)
              obtain ⟨ad766, e766, hx766_0⟩ := Kd.at_string (Kd.R_reads' HO_7.out).2.2 x8_4 p766 q766
              obtain rfl : ad739 = ad766 := (by injection e766)
              replace p766 := eq_true p766
              replace q766 := eq_true q766
              go_wp2
              go_roundg k4
              case measure => have := HK1.out; have := HJ18.out; have := HJ39.out; have := HK4.out; omega
              case rel => exact ⟨(wrap64 (x8_4 + 1)), (x739000_4), (u739000), (by rfl), H', ⟨by have := HK1.out; have := HJ18.out; have := HJ39.out; have := HK4.out; omega⟩, ⟨Kd.S_st HO_6.out⟩, ⟨Kd.R_st HO_7.out⟩, ⟨Kd.R_st HO_739000.out⟩, ⟨blk_st BK738.out⟩, ⟨by with_reducible repeat exact HB.out⟩⟩
            ·rw [if_neg c51] at H
             have c51b0 := decide_eq_false c51
             clear c51
             replace H := yes_ H; obtain ⟨c86, H⟩ := H
             have LMc86 := Aside0.mk c86
             clear c86
             obtain ⟨y763, hy763⟩ : ∃ y_ : List (S67), y_ = (x6_1 ++ [(⟨x739000_4, x739001_18, x739002_39, x739003_18, x739004_39⟩ : S67)]) := ⟨_, rfl⟩
             replace H : (p_PatchFromText.l0 k4 y763 t735 x8_4) = some (r1, r2) := by (rw [hy763]; with_reducible exact H)
             have Ny763 := Aside0.mk hy763
             clear hy763
             have H' := Aside0.mk H
             clear H
             obtain ⟨hcz87_0, hcz87_1, hcz87_2, hcz87_3, hcz87_4, hfz87_0, hfz87_1, hfz87_2, hfz87_3, hfz87_4⟩ := blk5 BK738.out
             obtain ⟨Ao89, co89, eo89⟩ := Kd.R_slice HO_739000.out
             subst eo89
             go_wp2_with (((with_reducible refine gate_builtin (b := .append) (xs := #[.tmp 183, .tmp 185]) rfl ?_); at_builtin; refine Kd.S_append k67 (w0 := w) w.heap.size rfl (.tmp 183) (.tmp 185) 52 67 (.agg #[(.slice none 0 0), (.int .i64 0), (.int .i64 0), (.int .i64 0), (.int .i64 0)]) 56 rfl Tryz.underlying52 info67 rfl (by decide) (by omega) u6 x6_1 (⟨x739000_4, x739001_18, x739002_39, x739003_18, x739004_39⟩ : S67) [.slice Ao89 x739000_4.length co89, .int .i64 x739001_18, .int .i64 x739002_39, .int .i64 x739003_18, .int .i64 x739004_39] (fun k_ => k_ ≠ gb738) (fun k_ => some k_ = (.slice Ao89 x739000_4.length co89 : Value).ownBlock) rfl rfl ?aP (fun k_ hk_ => ((Kd.R_mono (ok' := fun k_ => ((fun k_ => k_ ≠ gb738)) k_ ∧ some k_ ≠ (u6 : Value).ownBlock) (Kd.R_types (Kd.R_apart' (HO_739000.out) (Kd.S_typed HO_6.out) (by decide)) BK738.out (by decide)) (fun k_ hk => ⟨hk.2, hk.1.2⟩))).1 k_ hk_.symm) ?aF ?aO ?aB ?aS ?aL ?_; (case aP => exact k67_mkM _ _ _ (⟨x739000_4, x739001_18, x739002_39, x739003_18, x739004_39⟩ : S67) (Kd.R_mono (Kd.R_tight rfl (Kd.R_mono (ok' := fun k_ => ((fun k_ => k_ ≠ gb738)) k_ ∧ some k_ ≠ (u6 : Value).ownBlock) (Kd.R_types (Kd.R_apart' (HO_739000.out) (Kd.S_typed HO_6.out) (by decide)) BK738.out (by decide)) (fun k_ hk => ⟨hk.2, hk.1.2⟩))) (fun _ h_ => h_))); (case aB => exact (by with_reducible repeat exact HB.out)); (case aF => exact (fun k_ hk => Kd.freshB (g := gb738) (o := .cells #[.slice Ao89 x739000_4.length co89, .int .i64 x739001_18, .int .i64 x739002_39, .int .i64 x739003_18, .int .i64 x739004_39] 67 (0, 0)) (blk_st BK738.out) k_ hk)); (case aO => exact (Kd.S_st (Kd.S_mono HO_6.out (fun k_ hk => ⟨hk.2, fun e_ => hk.1 e_⟩)))); (case aS => exact (bz_ (by with_reducible repeat exact HB.out))); (case aL => have := LMc86.out; omega); intro v764 w88 ho hb hg hat; rw [← Ny763.out] at ho; replace HO_7 := aS_ (Kd.R_over' (Kd.R_st HO_7.out) (Kd.S_typed (Kd.S_st HO_6.out)) (by decide) hg); replace BK738 := aS_ (blk_grown (g := gb738) (o := .cells #[.slice Ao89 x739000_4.length co89, .int .i64 x739001_18, .int .i64 x739002_39, .int .i64 x739003_18, .int .i64 x739004_39] 67 (0, 0)) (blk_st BK738.out) hg (Kd.S_away HO_6.out (fun _ hk => hk.2))); replace HB := aS_ (hb); have HO765 := aS_ (ho); clear HO_6 HO_739000; clear ho hb hg hat))
             go_roundg k4
             case measure => have := HK1.out; have := HJ18.out; have := HJ39.out; have := HK4.out; omega
             case rel => exact ⟨(y763), (x8_4), ([]), (x739001_18), (x739002_39), (x739003_18), (x739004_39), (.slice Ao89 x739000_4.length co89), (by rfl), H', ⟨by have := HK1.out; have := HJ18.out; have := HJ39.out; have := HK4.out; omega⟩, ⟨Kd.S_st (Kd.S_mono HO765.out (fun _ hk => ⟨(by simp [Value.ownBlock]), hk⟩))⟩, ⟨Kd.R_st HO_7.out⟩, ⟨Kd.R_nil _ _ _ _ _⟩, ⟨blk_st BK738.out⟩, ⟨by with_reducible repeat exact HB.out⟩⟩
    ·rw [if_neg c11] at H
     have c11b0 := decide_eq_false c11
     clear c11
     simp only [Option.some.injEq, Prod.mk.injEq] at H
     obtain ⟨rfl, rfl⟩ := H
     obtain ⟨Ao90, co90, eo90⟩ := Kd.R_slice HO_7.out
     subst eo90
     go_wp2
     go_ret2
     exact ⟨_, _, by rfl, Kd.S_st (Kd.S_mono HO_6.out (fun _ hk => trivial)), by exact rfl, by with_reducible repeat exact HB.out⟩
def impl_back.l0 : Nat → List (S70) → List (S93) → Int → Int → Option ((List (S70)))
 | 0, _, _, _, _ => none
 | k + 1, x3, x6, x7, x8 => if x8 < x7 then (if 0 ≤ x8 then (if x8 < (x6.length : Int) then (if x3.length < 5864062014805 then (impl_back.l0 k (x3 ++ [(⟨wrap64 ((rd_T93 x6 x8).f0), (rd_T93 x6 x8).f1⟩ : S70)]) x6 x7 (wrap64 (x8 + 1))) else (none)) else (none)) else (none)) else (some x3)
def impl_back.f (k : Nat) (l0 : List (S93)) : Option ((List (S70))) := impl_back.l0 k ([] : List (S70)) l0 (l0.length : Int) 0
theorem impl_back.calls (k : Nat) (A0 : Option Addr) (c0 : Nat) (l0 : List (S93)) (r : List (S70)) (w : World) (hr0 : Kd.C k93 w A0 l0.length l0) (hc0 : l0.length ≤ c0) (h : impl_back.f k l0 = some r) :
  Calls Tryz.prog 74 #[.slice A0 l0.length c0] w fun e w' => ∃ v0_ : Value, e = .returned (v0_) ∧ Kd.R k70 70 w' w.heap.size (fun _ => True) v0_ r ∧ Below w.heap.size w w' := by
 have hu93 := Tryz.underlying93
 have hu70 := Tryz.underlying70
 have HR0 := Aside0.mk hr0
 have HC0 := Aside0.mk hc0
 clear hr0 hc0
 have HB := aS_ (Below.refl w.heap.size w)
 have H : (impl_back.l0 k ([] : List (S70)) l0 (l0.length : Int) 0) = some r := h
 clear h
 have H' := Aside0.mk H
 clear H
 go_enter Tryz.func74, Tryz.ntmps74
 go_wp2
 go_loopg [3, 8] k (fun kq v3 v8 w' => ∃ (x3_1 : List (S70)) (x8_1 : Int), v8 = .int .i64 x8_1 ∧ Aside0 (impl_back.l0 kq x3_1 l0 (l0.length : Int) x8_1 = some r) ∧ Aside0 (kq ≤ k) ∧ Aside0 (Kd.R k70 70 w' w.heap.size (fun _ => True) v3 x3_1) ∧ Aside0 (Below w.heap.size w w'))
 case atStart => exact ⟨(([] : List (S70))), (0), (by rfl), H', ⟨Nat.le_refl _⟩, ⟨by exact Kd.R_nil _ _ _ _ _⟩, ⟨bel_ HB.out⟩⟩
 case round =>
  clear H'
  obtain ⟨x3_1, x8_1, rfl, HA, HK1, HO_3, HB⟩ := hrel
  cases gk with
  | zero => exact absurd HA.out (by simp [impl_back.l0])
  | succ k1 =>
   have H := HA.out; clear HA
   simp only [impl_back.l0] at H
   by_cases c2 : x8_1 < (l0.length : Int)
   ·rw [if_pos c2] at H
    have c2b0 := decide_eq_true c2
    clear c2
    replace H := yes_ H; obtain ⟨c3, H⟩ := H
    have c3b0 := decide_eq_true c3
    clear c3
    replace H := yes_ H; obtain ⟨c4, H⟩ := H
    have c4b0 := decide_eq_true c4
    clear c4
    replace H := yes_ H; obtain ⟨c5, H⟩ := H
    have LMc5 := Aside0.mk c5
    clear c5
    obtain ⟨y786, hy786⟩ : ∃ y_ : List (S70), y_ = (x3_1 ++ [(⟨wrap64 ((rd_T93 l0 x8_1).f0), (rd_T93 l0 x8_1).f1⟩ : S70)]) := ⟨_, rfl⟩
    replace H : (impl_back.l0 k1 y786 l0 (l0.length : Int) (wrap64 (x8_1 + 1))) = some r := by (rw [hy786]; with_reducible exact H)
    have Ny786 := Aside0.mk hy786
    clear hy786
    have H' := Aside0.mk H
    clear H
    have p784 : 0 ≤ (x8_1 : Int) := of_decide_eq_true (by assumption)
    have q784 : x8_1 < (l0.length : Int) := of_decide_eq_true (by assumption)
    obtain ⟨ad784, e784, hx784_0, hx784_1⟩ := at_T93 HR0.out x8_1 p784 q784
    cases e784
    replace hx784_0 := (HB.out.cell (World.block_lt_of_cell? w _ hx784_0)).trans hx784_0
    replace hx784_1 := (HB.out.cell (World.block_lt_of_cell? w _ hx784_1)).trans hx784_1
    replace p784 := eq_true p784
    replace q784 := eq_true q784
    go_wp2_with (first | ((with_reducible refine gate_dst (N := 5) rfl ?_); refine box_event ?hg (N := 5) ?hd (cs := #[.int .i8 0, .string (⟨#[]⟩ : ByteArray)]) (t := 93) ?hr ?_; (case hd => rfl); (case hg => rfl); (case hr => (go_simp; done)); intro gb785 hg w6 hbox hb; replace HO_3 := aS_ (Kd.R_below (Kd.R_st HO_3.out) hb); have BK785 := aS_ (hbox); have GW785 := aS_ ((by rw [hg]; exact (bz_ (bel_ HB.out)) : w.heap.size ≤ gb785)); have GE785 := aS_ ((by rw [hg]; exact (bz_ (bel_ HB.out)) : w.heap.size ≤ gb785)); replace HB := aS_ (bt_ (bel_ HB.out) hb); clear hb hbox hg; obtain ⟨hcz7_0, hcz7_1, hfz7_0, hfz7_1⟩ := blk2 BK785.out) | ((with_reducible refine gate_builtin (b := .append) (xs := #[.tmp 12, .tmp 19]) rfl ?_); at_builtin; refine Kd.R_append k70 (w0 := w) w.heap.size rfl (.tmp 12) (.tmp 19) 31 70 (.agg #[(.int .i64 0), (.string ⟨#[]⟩)]) 24 rfl Tryz.underlying31 info70 rfl (by decide) (by omega) u3 x3_1 (⟨wrap64 ((rd_T93 l0 x8_1).f0), (rd_T93 l0 x8_1).f1⟩ : S70) [.int .i64 (wrap64 ((rd_T93 l0 x8_1).f0)), .string ((rd_T93 l0 x8_1).f1)] (fun _ => True) (fun _ => False) rfl (by (go_simp; done)) ?aP (fun _ hk => hk.elim) ?aF ?aO ?aB ?aS ?aL ?_; (case aP => exact k70_mkM _ _ _ (⟨wrap64 ((rd_T93 l0 x8_1).f0), (rd_T93 l0 x8_1).f1⟩ : S70)); (case aB => exact (by with_reducible repeat first | exact HB.out | refine bS_ ?_ GE785.out)); (case aF => exact (fun _ _ => trivial)); (case aO => exact (Kd.R_st (Kd.R_mono (Kd.R_far (p := ⟨gb785, 1, none⟩) (Kd.R_far (p := ⟨gb785, 0, none⟩) (Kd.R_types HO_3.out BK785.out (by decide)) (fun _ hk => hk.2) (.int .i8 ((rd_T93 l0 x8_1).f0))) (fun _ hk => hk.2) (.string ((rd_T93 l0 x8_1).f1))) (fun _ hk => trivial)))); (case aS => exact (bz_ (by with_reducible repeat first | exact HB.out | refine bS_ ?_ GE785.out))); (case aL => have := LMc5.out; omega); intro v787 w8 ho hb hg hat; rw [← Ny786.out] at ho; replace BK785 := aS_ (blk_grown (g := gb785) (o := .cells #[.int .i8 ((rd_T93 l0 x8_1).f0), .string ((rd_T93 l0 x8_1).f1)] 93 (0, 0)) (by (with_reducible skip); refine blk_put (cs := #[.int .i8 ((rd_T93 l0 x8_1).f0), .string (⟨#[]⟩ : ByteArray)]) ?_ 1 _ rfl; (with_reducible skip); refine blk_put (cs := #[.int .i8 0, .string (⟨#[]⟩ : ByteArray)]) ?_ 0 _ rfl; (with_reducible skip); exact BK785.out) hg (Kd.R_ne HO_3.out BK785.out (by decide))); replace HB := aS_ (hb); have HO788 := aS_ (ho); clear HO_3; clear ho hb hg hat))
    go_roundg k1
    case measure => have := HK1.out; omega
    case rel => exact ⟨(y786), (wrap64 (x8_1 + 1)), (by rfl), H', ⟨by have := HK1.out; omega⟩, ⟨Kd.R_st HO788.out⟩, ⟨by with_reducible repeat exact HB.out⟩⟩
   ·rw [if_neg c2] at H
    have c2b0 := decide_eq_false c2
    clear c2
    obtain rfl := Option.some.inj H
    go_wp2
    go_ret
    exact ⟨_, by rfl, Kd.R_st HO_3.out, bel_ HB.out⟩
theorem enc1 : Utf8.encode 1 = ⟨#[1]⟩ := by rfl
theorem enc2 : Utf8.encode 2 = ⟨#[2]⟩ := by rfl
theorem enc3 : Utf8.encode 3 = ⟨#[3]⟩ := by rfl
theorem enc4 : Utf8.encode 4 = ⟨#[4]⟩ := by rfl
theorem wp_at {P : Program} {c : Code} {Q : Exit → Act → World → Prop} {a : Act} {W : World} (Φ : World → Prop) (h : Φ W) (k : ∀ W', Φ W' → Code.wp P c Q a W') : Code.wp P c Q a W := k W h
theorem cell_of {w : World} {g t i : Nat} {cs : Array Value} {v : Value} (h : w.heap[g]? = some (.cells cs t (0, 0))) (e : cs[i]? = some v) : w.cell? ⟨g, i, none⟩ = some v := (bc_ h i).trans e
theorem set_same {cs : Array Value} {i : Nat} {u v : Value} (h : cs[i]? = some v) : (cs.setIfInBounds i u)[i]? = some u := by
 have hi : i < cs.size := (Array.getElem?_eq_some_iff.1 h).1
 simp [hi]
theorem set_other {cs : Array Value} {i j : Nat} {u v : Value} (hij : i ≠ j) (h : cs[j]? = some v) : (cs.setIfInBounds i u)[j]? = some v := by
 rw [Array.getElem?_setIfInBounds_ne hij]; exact h
def padC1 (C1 : Array Value) : Array Value := ((((((((C1.setIfInBounds 1 (.int .i64 4)).setIfInBounds 2 (.int .i64 4)).setIfInBounds 1 (.int .i64 2)).setIfInBounds 2 (.int .i64 2)).setIfInBounds 3 (.int .i64 5)).setIfInBounds 4 (.int .i64 6)).setIfInBounds 3 (.int .i64 8)).setIfInBounds 4 (.int .i64 9))
def padC2 (C2 : Array Value) : Array Value := (C2.setIfInBounds 1 (.string (((⟨#[]⟩ : ByteArray) ++ ⟨#[1]⟩ ++ ⟨#[2]⟩ ++ ⟨#[3]⟩ ++ ⟨#[4]⟩).extract 2 4 ++ ⟨#[97, 98]⟩))).setIfInBounds 5 (.string (⟨#[99]⟩ ++ ((⟨#[]⟩ : ByteArray) ++ ⟨#[1]⟩ ++ ⟨#[2]⟩ ++ ⟨#[3]⟩ ++ ⟨#[4]⟩).extract 0 3))
def pad.T21 : Bool × List (List Nat × List Nat) := (true, [([], []), ([0], [0]), ([1], [1]), ([2], [2]), ([], []), ([], []), ([5], [5]), ([6], [6]), ([7], [7]), ([8], [8]), ([9], [9]), ([10], [10]), ([11], [11]), ([4, 12], [4, 12]), ([], []), ([14], [14]), ([15], [15]), ([16], [16]), ([17], [17]), ([18], [18]), ([19], [19]), ([13, 20], [13, 20]), ([3, 0, 1, 2, 3, 4, 5, 6, 7, 8, 9, 10, 11, 12, 13, 14, 15, 16, 17, 18, 19, 20, 21], [3]), ([22, 0, 1, 2, 3, 4, 5, 6, 7, 8, 9, 10, 11, 12, 13, 14, 15, 16, 17, 18, 19, 20, 21], [22]), ([23, 21, 0, 1, 2, 3, 4, 5, 6, 7, 8, 9, 10, 11, 12, 13, 14, 15, 16, 17, 18, 19, 20, 21], [21, 23])])
def pad.B21 : List Nat := [0, 1, 3, 7, 0, 0, 32, 96, 224, 480, 992, 2016, 4064, 8176, 0, 16384, 49152, 114688, 245760, 507904, 1032192, 2097136, 4194303, 8388607, 16777215]
theorem pad.tab21 : rtab .any (opsOf Tryz.f55 21) = pad.T21 := by kernel_rfl
theorem pad.bits21 : waitsOk pad.T21.2 pad.B21 = true := by kernel_rfl
def pad.T32 : Bool × List (List Nat × List Nat) := (true, [([], []), ([], []), ([0, 1], [0, 1]), ([2], [2]), ([3], [3]), ([], []), ([], []), ([5, 6], [5, 6]), ([7], [7]), ([8], [8]), ([9], [9]), ([10], [10]), ([4, 11], [4, 11]), ([12], [12]), ([], []), ([14, 13, 0, 1, 2, 3, 4, 5, 6, 7, 8, 9, 10, 11, 12, 13, 14], [13, 14])])
def pad.B32 : List Nat := [0, 0, 3, 7, 15, 0, 0, 96, 224, 480, 992, 2016, 4095, 8191, 0, 32767]
theorem pad.tab32 : rtab .any (opsOf Tryz.f55 32) = pad.T32 := by kernel_rfl
theorem pad.bits32 : waitsOk pad.T32.2 pad.B32 = true := by kernel_rfl
def pad.T34 : Bool × List (List Nat × List Nat) := (true, [([], []), ([], []), ([0, 1], [0, 1]), ([2], [2]), ([3], [3]), ([], []), ([], []), ([5, 6], [5, 6]), ([7], [7]), ([8], [8]), ([9], [9]), ([10], [10]), ([4, 11], [4, 11]), ([12], [12]), ([13], [13]), ([], []), ([], []), ([15, 16], [15, 16]), ([14, 17], [14, 17]), ([4, 11, 0, 1, 2, 3, 4, 5, 6, 7, 8, 9, 10, 11, 12, 13, 14, 15, 16, 17, 18], [4, 11]), ([19, 0, 1, 2, 3, 4, 5, 6, 7, 8, 9, 10, 11, 12, 13, 14, 15, 16, 17, 18], [19]), ([20, 18, 0, 1, 2, 3, 4, 5, 6, 7, 8, 9, 10, 11, 12, 13, 14, 15, 16, 17, 18], [18, 20])])
def pad.B34 : List Nat := [0, 0, 3, 7, 15, 0, 0, 96, 224, 480, 992, 2016, 4095, 8191, 16383, 0, 0, 98304, 262143, 524287, 1048575, 2097151]
theorem pad.tab34 : rtab .any (opsOf Tryz.f55 34) = pad.T34 := by kernel_rfl
theorem pad.bits34 : waitsOk pad.T34.2 pad.B34 = true := by kernel_rfl
theorem pad_calls (a0 g1 g2 c1 c2 : Nat) (C1 C2 : Array Value) (w : World) (hd0 : DmpAt w a0)
  (B1 : w.heap[g1]? = some (.cells C1 67 (0, 0)))
  (B2 : w.heap[g2]? = some (.cells C2 93 (0, 0)))
  (e0 : C1[0]? = some (.slice (some ⟨g2, 0, none⟩) 3 c2)) (e1 : C1[1]? = some (.int .i64 0)) (e2 : C1[2]? = some (.int .i64 0)) (e3 : C1[3]? = some (.int .i64 3)) (e4 : C1[4]? = some (.int .i64 4))
  (d0 : C2[0]? = some (.int .i8 0)) (d1 : C2[1]? = some (.string ⟨#[97, 98]⟩)) (d4 : C2[4]? = some (.int .i8 0)) (d5 : C2[5]? = some (.string ⟨#[99]⟩)) :
  Calls Tryz.prog 55 #[.pointer (some ⟨a0, 0, none⟩), .slice (some ⟨g1, 0, none⟩) 1 c1] w fun e w' => e = .returned (.string ⟨#[1, 2, 3, 4]⟩) ∧ w'.heap[g1]? = some (.cells (padC1 C1) 67 (0, 0)) ∧ w'.heap[g2]? = some (.cells (padC2 C2) 93 (0, 0)) ∧ (∀ B w0, Below B w0 w → B ≤ g1 → B ≤ g2 → Below B w0 w') := by
 have hu93 := Tryz.underlying93
 have HD0 := Aside0.mk hd0
 clear hd0
 have hdm3 := dmp_cell4 HD0.out
 have hc0 := cell_of B1 e0
 have hc1 := cell_of B1 e1
 have hc2 := cell_of B1 e2
 have hc3 := cell_of B1 e3
 have hc4 := cell_of B1 e4
 have hf1 := bf_ B1 1
 have hf2 := bf_ B1 2
 have hf3 := bf_ B1 3
 have hf4 := bf_ B1 4
 have hd0 := cell_of B2 d0
 have hd1 := cell_of B2 d1
 have hd4 := cell_of B2 d4
 have hd5 := cell_of B2 d5
 have hg1 := bf_ B2 1
 have hg5 := bf_ B2 5
 have u1 := enc1
 have u2 := enc2
 have u3 := enc3
 have u4 := enc4
 have hne : g1 ≠ g2 := blk_ne B1 B2 (by decide)
 have hne2 : g2 ≠ g1 := hne.symm
 have B1' := Aside0.mk B1
 have B2' := Aside0.mk B2
 have E0 := Aside0.mk e0
 have E1 := Aside0.mk e1
 have E2 := Aside0.mk e2
 have E3 := Aside0.mk e3
 have E4 := Aside0.mk e4
 have D0 := Aside0.mk d0
 have D1 := Aside0.mk d1
 have D4 := Aside0.mk d4
 have D5 := Aside0.mk d5
 clear B1 B2 e0 e1 e2 e3 e4 d0 d1 d4 d5
 go_enter Tryz.func55, Tryz.ntmps55
 go_wp2
 go_rounds 5
 go_rounds 2
 refine sA_ (fun w' => w'.cell? ⟨g1, 0, none⟩ = some (.slice (some ⟨g2, 0, none⟩) 3 c2) ∧ w'.cell? ⟨g2, 1, none⟩ = some (.string ⟨#[97, 98]⟩)) [24] pad.tab21 pad.bits21 ⟨(by go_cell), (by go_cell)⟩ (fun hHeld HT_ HW_ => ?_)
 refine pA_ 0 (h:=pA_ 1 (h:=pA_ 2 (h:=pA_ 4 (h:=pA_ 5 (h:=pA_ 6 (h:=pA_ 7 (h:=pA_ 14 (h:=pA_ 15 (h:=pA_ 16 (h:=tA_ 3 (h:=tA_ 8 (h:=pA_ 9 (h:=pA_ 10 (h:=tA_ 11 (h:=pA_ 12 (h:=pA_ 13 (h:=tA_ 17 (h:=pA_ 18 (h:=pA_ 19 (h:=tA_ 20 (h:=pA_ 21 (h:=pA_ 22 (h:=pA_ 23 (h:=?_))))))))))))))))))))))))
 refine lA_ 24 none (h:=fun K hK => ?_)
 refine skip_ (w1 := ?_) (by rfl) rfl ?_ ?_
 rotate_left
 ·go_simp
  rfl
 refine hK.out _ _ ?_
 clear hK K
 refine done_ (done_of HT_.out (by kernel_rfl)) ?_
 go_wp2
 refine wp_at (fun W => W.heap[g1]? = some (.cells (((((((C1.setIfInBounds 1 (.int .i64 4)).setIfInBounds 2 (.int .i64 4)).setIfInBounds 1 (.int .i64 2)).setIfInBounds 2 (.int .i64 2)).setIfInBounds 3 (.int .i64 5)).setIfInBounds 4 (.int .i64 6))) 67 (0, 0)) ∧ W.heap[g2]? = some (.cells (C2.setIfInBounds 1 (.string (((⟨#[]⟩ : ByteArray) ++ ⟨#[1]⟩ ++ ⟨#[2]⟩ ++ ⟨#[3]⟩ ++ ⟨#[4]⟩).extract 2 4 ++ ⟨#[97, 98]⟩))) 93 (0, 0)) ∧ (∀ B w0, Below B w0 w → B ≤ g1 → B ≤ g2 → Below B w0 W)) ⟨kD_ (blk_set (blk_set (blk_set (blk_set (blk_far (blk_set (blk_set B1'.out 1 _) 2 _) hne _) 1 _) 2 _) 3 _) 4 _), kD_ (blk_far (blk_far (blk_far (blk_far (blk_set (blk_far (blk_far B2'.out hne2 _) hne2 _) 1 _) hne2 _) hne2 _) hne2 _) hne2 _), fun B w0 h0 h1 h2 => below_drew (Below.setCell (Below.setCell (Below.setCell (Below.setCell (Below.setCell (Below.setCell (Below.setCell h0 h1 _) h1 _) h2 _) h1 _) h1 _) h1 _) h1 _)⟩ ?_
 clear hc0 hc1 hc2 hc3 hc4 hf1 hf2 hf3 hf4 hd0 hd1 hd4 hd5 hg1 hg5
 intro W
 rintro ⟨T1, T2, T3⟩
 have hc0 := cell_of T1 (i := 0) (set_other (by decide) (set_other (by decide) (set_other (by decide) (set_other (by decide) (set_other (by decide) (set_other (by decide) E0.out))))))
 have hc3 := cell_of T1 (i := 3) (set_other (by decide) (set_same (set_other (by decide) (set_other (by decide) (set_other (by decide) (set_other (by decide) E3.out))))))
 have hc4 := cell_of T1 (i := 4) (set_same (set_other (by decide) (set_other (by decide) (set_other (by decide) (set_other (by decide) (set_other (by decide) E4.out))))))
 have hd4 := cell_of T2 (i := 4) (set_other (by decide) D4.out)
 have hd5 := cell_of T2 (i := 5) (set_other (by decide) D5.out)
 have hf3 := bf_ T1 3
 have hf4 := bf_ T1 4
 have hg5 := bf_ T2 5
 have hw2 : wrap64 2 = 2 := by simp [wrap64]
 have hl1 := blk_lt T1
 have hl2 := blk_lt T2
 have hs1 : g1 ≠ W.heap.size := Nat.ne_of_lt hl1
 have hs2 : g2 ≠ W.heap.size := Nat.ne_of_lt hl2
 have hs3 : W.heap.size ≠ g1 := Ne.symm hs1
 have hs4 : W.heap.size ≠ g2 := Ne.symm hs2
 have T1' := Aside0.mk T1
 have T2' := Aside0.mk T2
 have T3' := Aside0.mk T3
 clear T1 T2 T3
 go_quiet (fail)
 go_wp2
 go_quiet (fail)
 go_wp2
 refine wp_at (fun W => W.heap[g1]? = some (.cells (((((((C1.setIfInBounds 1 (.int .i64 4)).setIfInBounds 2 (.int .i64 4)).setIfInBounds 1 (.int .i64 2)).setIfInBounds 2 (.int .i64 2)).setIfInBounds 3 (.int .i64 5)).setIfInBounds 4 (.int .i64 6))) 67 (0, 0)) ∧ W.heap[g2]? = some (.cells (C2.setIfInBounds 1 (.string (((⟨#[]⟩ : ByteArray) ++ ⟨#[1]⟩ ++ ⟨#[2]⟩ ++ ⟨#[3]⟩ ++ ⟨#[4]⟩).extract 2 4 ++ ⟨#[97, 98]⟩))) 93 (0, 0)) ∧ (∀ B w0, Below B w0 w → B ≤ g1 → B ≤ g2 → Below B w0 W)) ⟨kN_ (kN_ T1'.out _) _, kN_ (kN_ T2'.out _) _, fun B w0 h0 h1 h2 => bN_ (bN_ (T3'.out B w0 h0 h1 h2) _) _⟩ ?_
 clear hc0 hc3 hc4 hd4 hd5 hf3 hf4 hg5 hl1 hl2 hs1 hs2 hs3 hs4 T1' T2' T3' W
 intro W0
 rintro ⟨T1, T2, T3⟩
 have T1 := kD_ T1
 have T2 := kD_ T2
 have T3 : ∀ B w0, Below B w0 w → B ≤ g1 → B ≤ g2 → Below B w0 W0.drew := fun B w0 h0 h1 h2 => below_drew (T3 B w0 h0 h1 h2)
 have hc0 := cell_of T1 (i := 0) (set_other (by decide) (set_other (by decide) (set_other (by decide) (set_other (by decide) (set_other (by decide) (set_other (by decide) E0.out))))))
 have hc3 := cell_of T1 (i := 3) (set_other (by decide) (set_same (set_other (by decide) (set_other (by decide) (set_other (by decide) (set_other (by decide) E3.out))))))
 have hc4 := cell_of T1 (i := 4) (set_same (set_other (by decide) (set_other (by decide) (set_other (by decide) (set_other (by decide) (set_other (by decide) E4.out))))))
 have hd4 := cell_of T2 (i := 4) (set_other (by decide) D4.out)
 have hd5 := cell_of T2 (i := 5) (set_other (by decide) D5.out)
 have hf3 := bf_ T1 3
 have hf4 := bf_ T1 4
 have hg5 := bf_ T2 5
 have hl1 := blk_lt T1
 have hl2 := blk_lt T2
 have hs1 : g1 ≠ W0.drew.heap.size := Nat.ne_of_lt hl1
 have hs2 : g2 ≠ W0.drew.heap.size := Nat.ne_of_lt hl2
 have hs3 : W0.drew.heap.size ≠ g1 := Ne.symm hs1
 have hs4 : W0.drew.heap.size ≠ g2 := Ne.symm hs2
 have T1' := Aside0.mk T1
 have T2' := Aside0.mk T2
 have T3' := Aside0.mk T3
 clear T1 T2 T3
 refine sA_ (fun w' => w'.cell? ⟨g1, 0, none⟩ = some (.slice (some ⟨g2, 0, none⟩) 3 c2) ∧ w'.cell? ⟨g2, 4, none⟩ = some (.int .i8 0) ∧ w'.cell? ⟨g2, 5, none⟩ = some (.string ⟨#[99]⟩)) [15] pad.tab32 pad.bits32 ⟨(by go_cell), (by go_cell), (by go_cell)⟩ (fun hHeld HT_ HW_ => ?_)
 generalize W0.drew = W at hc0 hc3 hc4 hd4 hd5 hf3 hf4 hg5 hl1 hl2 hs1 hs2 hs3 hs4 T1' T2' T3' hHeld ⊢
 refine pA_ 0 (h:=pA_ 1 (h:=pA_ 2 (h:=pA_ 3 (h:=pA_ 5 (h:=pA_ 6 (h:=pA_ 7 (h:=pA_ 8 (h:=tA_ 4 (h:=tA_ 9 (h:=pA_ 10 (h:=pA_ 11 (h:=pA_ 12 (h:=tA_ 13 (h:=?_))))))))))))))
 refine oA_ 14 (some 11) (h:=fun K hK => ?_)
 refine value_ (w1 := ?_) (v := ?_) (by rfl) rfl ?_ ?_
 rotate_left 2
 ·go_simp
  constructor
  ·rfl
  ·rfl
 refine hK.out _ _ ⟨(World.cell?_alloc_lt _ _ _ (World.block_lt_of_cell? _ _ (hHeld.1))).trans (hHeld.1), (World.cell?_alloc_lt _ _ _ (World.block_lt_of_cell? _ _ (hHeld.2.1))).trans (hHeld.2.1), (World.cell?_alloc_lt _ _ _ (World.block_lt_of_cell? _ _ (hHeld.2.2))).trans (hHeld.2.2)⟩ (fun hHeld => ?_)
 clear hK K
 refine nA_ (h:=?_)
 refine lA_ 15 none (h:=fun K hK => ?_)
 refine skip_ (w1 := ?_) (by rfl) rfl ?_ ?_
 rotate_left
 ·go_simp
  rfl
 refine hK.out _ _ ?_
 clear hK K
 refine done_ (done_of HT_.out (by kernel_rfl)) ?_
 go_wp2
 refine wp_at (fun W => W.heap[g1]? = some (.cells (((((((C1.setIfInBounds 1 (.int .i64 4)).setIfInBounds 2 (.int .i64 4)).setIfInBounds 1 (.int .i64 2)).setIfInBounds 2 (.int .i64 2)).setIfInBounds 3 (.int .i64 5)).setIfInBounds 4 (.int .i64 6))) 67 (0, 0)) ∧ W.heap[g2]? = some (.cells (C2.setIfInBounds 1 (.string (((⟨#[]⟩ : ByteArray) ++ ⟨#[1]⟩ ++ ⟨#[2]⟩ ++ ⟨#[3]⟩ ++ ⟨#[4]⟩).extract 2 4 ++ ⟨#[97, 98]⟩))) 93 (0, 0)) ∧ (∀ B w0, Below B w0 w → B ≤ g1 → B ≤ g2 → Below B w0 W)) ⟨kA_ T1'.out _, kA_ T2'.out _, fun B w0 h0 h1 h2 => Below.alloc (T3'.out B w0 h0 h1 h2) (Nat.le_trans h1 (Nat.le_of_lt (blk_lt T1'.out))) _⟩ ?_
 clear hc0 hc3 hc4 hd4 hd5 hf3 hf4 hg5 hl1 hl2 hs1 hs2 hs3 hs4 T1' T2' T3'
 intro W0
 rintro ⟨T1, T2, T3⟩
 have T1 := kD_ T1
 have T2 := kD_ T2
 have T3 : ∀ B w0, Below B w0 w → B ≤ g1 → B ≤ g2 → Below B w0 W0.drew := fun B w0 h0 h1 h2 => below_drew (T3 B w0 h0 h1 h2)
 have hc0 := cell_of T1 (i := 0) (set_other (by decide) (set_other (by decide) (set_other (by decide) (set_other (by decide) (set_other (by decide) (set_other (by decide) E0.out))))))
 have hc3 := cell_of T1 (i := 3) (set_other (by decide) (set_same (set_other (by decide) (set_other (by decide) (set_other (by decide) (set_other (by decide) E3.out))))))
 have hc4 := cell_of T1 (i := 4) (set_same (set_other (by decide) (set_other (by decide) (set_other (by decide) (set_other (by decide) (set_other (by decide) E4.out))))))
 have hd4 := cell_of T2 (i := 4) (set_other (by decide) D4.out)
 have hd5 := cell_of T2 (i := 5) (set_other (by decide) D5.out)
 have hf3 := bf_ T1 3
 have hf4 := bf_ T1 4
 have hg5 := bf_ T2 5
 have hl1 := blk_lt T1
 have hl2 := blk_lt T2
 have hs1 : g1 ≠ W0.drew.heap.size := Nat.ne_of_lt hl1
 have hs2 : g2 ≠ W0.drew.heap.size := Nat.ne_of_lt hl2
 have hs3 : W0.drew.heap.size ≠ g1 := Ne.symm hs1
 have hs4 : W0.drew.heap.size ≠ g2 := Ne.symm hs2
 have T1' := Aside0.mk T1
 have T2' := Aside0.mk T2
 have T3' := Aside0.mk T3
 clear T1 T2 T3
 refine sA_ (fun w' => w'.cell? ⟨g1, 0, none⟩ = some (.slice (some ⟨g2, 0, none⟩) 3 c2) ∧ w'.cell? ⟨g2, 5, none⟩ = some (.string ⟨#[99]⟩)) [21] pad.tab34 pad.bits34 ⟨(by go_cell), (by go_cell)⟩ (fun hHeld HT_ HW_ => ?_)
 generalize W0.drew = W at hc0 hc3 hc4 hd4 hd5 hf3 hf4 hg5 hl1 hl2 hs1 hs2 hs3 hs4 T1' T2' T3' hHeld ⊢
 refine pA_ 0 (h:=pA_ 1 (h:=pA_ 2 (h:=pA_ 3 (h:=pA_ 5 (h:=pA_ 6 (h:=pA_ 7 (h:=pA_ 8 (h:=pA_ 15 (h:=pA_ 16 (h:=pA_ 17 (h:=tA_ 4 (h:=tA_ 9 (h:=pA_ 10 (h:=pA_ 11 (h:=pA_ 12 (h:=pA_ 13 (h:=tA_ 14 (h:=pA_ 18 (h:=pA_ 19 (h:=pA_ 20 (h:=?_)))))))))))))))))))))
 refine lA_ 21 none (h:=fun K hK => ?_)
 refine skip_ (w1 := ?_) (by rfl) rfl ?_ ?_
 rotate_left
 ·go_simp
  rfl
 refine hK.out _ _ ?_
 clear hK K
 refine done_ (done_of HT_.out (by kernel_rfl)) ?_
 go_wp2
 go_ret
 exact ⟨by rfl, blk_set (blk_set (blk_far T1'.out hne _) 3 _) 4 _, blk_far (blk_far (blk_set T2'.out 5 _) hne2 _) hne2 _, fun B w0 h0 h1 h2 => Below.setCell (Below.setCell (Below.setCell (T3'.out B w0 h0 h1 h2) h2 _) h1 _) h1 _⟩
def bpr.T1 : Bool × List (List Nat × List Nat) := (true, [([], []), ([0], [0]), ([], []), ([2], [2]), ([], []), ([4], [4]), ([], []), ([6], [6]), ([], []), ([8], [8]), ([9, 9], [9]), ([1, 3, 5, 7, 10], [1, 3, 5, 7, 10]), ([11, 10, 0, 1, 2, 3, 4, 5, 6, 7, 8, 9, 10, 11], [11])])
def bpr.B1 : List Nat := [0, 1, 0, 4, 0, 16, 0, 64, 0, 256, 768, 2047, 4095]
theorem bpr.tab1 : rtab .any (opsOf Tryz.f43 1) = bpr.T1 := by kernel_rfl
theorem bpr.bits1 : waitsOk bpr.T1.2 bpr.B1 = true := by kernel_rfl
theorem diffsOf_r (v : Value) (a1 a2 a3 a4 : Int) (w : World) : Calls Tryz.prog 75 #[.agg #[v, .int .i64 a1, .int .i64 a2, .int .i64 a3, .int .i64 a4]] w fun e w' => e = .returned v ∧ Below w.heap.size w w' := by
 have hu := Tryz.underlying67
 go_enter Tryz.func75, Tryz.ntmps75
 go_wp2
 go_ret
 exact ⟨rfl, Below.alloc (Below.refl _ _) (Nat.le_refl _) _⟩
theorem backPatch_r (k : Nat) (A : Option Addr) (c : Nat) (l : List S93) (a1 a2 a3 a4 : Int) (r : List S70) (w : World) (hr : Kd.C k93 w A l.length l) (hc : l.length ≤ c) (h : impl_back.f k l = some r) :
  Calls Tryz.prog 43 #[.agg #[.slice A l.length c, .int .i64 a1, .int .i64 a2, .int .i64 a3, .int .i64 a4]] w fun e w' => ∃ v4_ : Value, e = .returned (.agg #[.int .i64 a1, .int .i64 a2, .int .i64 a3, .int .i64 a4, v4_]) ∧ Kd.R k70 70 w' w.heap.size (fun _ => True) v4_ r ∧ Below w.heap.size w w' := by
 have hu := Tryz.underlying67
 have hu33 := Tryz.underlying33
 have HR := Aside0.mk hr
 clear hr
 go_enter Tryz.func43, Tryz.ntmps43
 go_wp2
 refine wp_at (fun W => W.heap[w.heap.size]? = some (.cells #[.slice A l.length c, .int .i64 a1, .int .i64 a2, .int .i64 a3, .int .i64 a4] 67 (0, 0)) ∧ W.heap[w.heap.size + 1]? = some (.cells #[.int .i64 0, .int .i64 0, .int .i64 0, .int .i64 0, .slice none 0 0] 33 (0, 0)) ∧ Below w.heap.size w W) ⟨kA_ (heap_alloc_new w _) _, by (have h_ := heap_alloc_new (w.alloc (.cells #[.slice A l.length c, .int .i64 a1, .int .i64 a2, .int .i64 a3, .int .i64 a4] 67)) (.cells #[.int .i64 0, .int .i64 0, .int .i64 0, .int .i64 0, .slice none 0 0] 33); rw [World.size_alloc] at h_; exact h_), Below.alloc (Below.alloc (Below.refl _ _) (Nat.le_refl _) _) (by simp) _⟩ ?_
 intro W0
 rintro ⟨T1, T2, T3⟩
 have T1 := kD_ T1
 have T2 := kD_ T2
 have T3 := below_drew T3
 have hc0 := cell_of T1 (i := 0) rfl
 have hc1 := cell_of T1 (i := 1) rfl
 have hc2 := cell_of T1 (i := 2) rfl
 have hc3 := cell_of T1 (i := 3) rfl
 have hc4 := cell_of T1 (i := 4) rfl
 have T1' := Aside0.mk T1
 have T2' := Aside0.mk T2
 have T3' := Aside0.mk T3
 clear T1 T2 T3
 refine sA_ (fun w' => w'.cell? ⟨w.heap.size, 0, none⟩ = some (.slice A l.length c) ∧ w'.cell? ⟨w.heap.size, 1, none⟩ = some (.int .i64 a1) ∧ w'.cell? ⟨w.heap.size, 2, none⟩ = some (.int .i64 a2) ∧ w'.cell? ⟨w.heap.size, 3, none⟩ = some (.int .i64 a3) ∧ w'.cell? ⟨w.heap.size, 4, none⟩ = some (.int .i64 a4)) [12] bpr.tab1 bpr.bits1 ⟨hc0, hc1, hc2, hc3, hc4⟩ (fun hHeld HT_ HW_ => ?_)
 generalize W0.drew = W at hc0 hc1 hc2 hc3 hc4 T1' T2' T3' hHeld ⊢
 refine pA_ 0 (h:=pA_ 2 (h:=pA_ 4 (h:=pA_ 6 (h:=tA_ 1 (h:=tA_ 3 (h:=tA_ 5 (h:=tA_ 7 (h:=tA_ 8 (h:=?_)))))))))
 refine oA_ 9 (some 12) (h:=fun K hK => ?_)
 refine goes_ Tryz.func75 (by kernel_rfl) rfl #[.agg #[.slice A l.length c, .int .i64 a1, .int .i64 a2, .int .i64 a3, .int .i64 a4]] (by rfl) rfl rfl (by (try simp only [List.map_toArray, List.map_cons, List.map_nil]); rfl) ?_
 with_reducible refine (diffsOf_r _ _ _ _ _ _).mono ?_
 rintro e w8 ⟨rfl, hb8⟩
 refine ⟨_, rfl, ?_⟩
 have T1a := blk_below T1'.out hb8
 have T2a := blk_below T2'.out hb8
 have T3a := bh_ T3'.out T3'.out.size hb8
 refine hK.out _ _ ⟨cell_of T1a (i := 0) rfl, cell_of T1a (i := 1) rfl, cell_of T1a (i := 2) rfl, cell_of T1a (i := 3) rfl, cell_of T1a (i := 4) rfl⟩ (fun hHeld => ?_)
 clear hK K
 refine nA_ (h:=?_)
 refine oA_ 10 (some 13) (h:=fun K hK => ?_)
 refine goes_ Tryz.func74 (by kernel_rfl) rfl #[.slice A l.length c] (by rfl) rfl rfl (by (try simp only [List.map_toArray, List.map_cons, List.map_nil]); rfl) ?_
 with_reducible refine (impl_back.calls k A c l r w8 (Kd.C_below HR.out T3a) hc h).mono ?_
 rintro e w10 ⟨v10, rfl, ho10, hb10⟩
 refine ⟨_, rfl, ?_⟩
 obtain ⟨A10, c10, e10⟩ := Kd.R_slice ho10
 subst e10
 have T1b := blk_below T1a hb10
 have T2b := blk_below T2a hb10
 have T3b := bh_ T3a T3a.size hb10
 have hd0 := cell_of T2b (i := 0) rfl
 have hd1 := cell_of T2b (i := 1) rfl
 have hd2 := cell_of T2b (i := 2) rfl
 have hd3 := cell_of T2b (i := 3) rfl
 have hd4 := cell_of T2b (i := 4) rfl
 have hfd0 := bf_ T2b 0
 have hfd1 := bf_ T2b 1
 have hfd2 := bf_ T2b 2
 have hfd3 := bf_ T2b 3
 have hfd4 := bf_ T2b 4
 have hne_ : w.heap.size ≠ w.heap.size + 1 := by omega
 have hne2_ : w.heap.size + 1 ≠ w.heap.size := by omega
 refine hK.out _ _ ⟨cell_of T1b (i := 0) rfl, cell_of T1b (i := 1) rfl, cell_of T1b (i := 2) rfl, cell_of T1b (i := 3) rfl, cell_of T1b (i := 4) rfl⟩ (fun hHeld => ?_)
 clear hK K
 refine nA_ (h:=?_)
 refine pA_ 11 (h:=?_)
 refine lA_ 12 none (h:=fun K hK => ?_)
 refine skip_ (w1 := ?_) (by rfl) rfl ?_ ?_
 rotate_left
 ·go_simp
  rfl
 refine hK.out _ _ ?_
 clear hK K
 refine done_ (done_of HT_.out (by kernel_rfl)) ?_
 go_wp2
 refine bodyPost_ret (results_cell_row rfl _ _ (w.heap.size + 1) 33 #[.int .i64 a1, .int .i64 a2, .int .i64 a3, .int .i64 a4, .slice A10 r.length c10] (0, 0) _ rfl (by simpa using blk_set (blk_set (blk_set (blk_set (blk_set T2b 0 (.int .i64 a1)) 1 (.int .i64 a2)) 2 (.int .i64 a3)) 3 (.int .i64 a4)) 4 (.slice A10 r.length c10)) hu33 rfl (by kernel_rfl)) rfl ?_
 refine ⟨_, rfl, ?_, ?_⟩
 ·exact Kd.R_mono (Kd.R_far (p := ⟨w.heap.size + 1, 4, none⟩) (Kd.R_far (p := ⟨w.heap.size + 1, 3, none⟩) (Kd.R_far (p := ⟨w.heap.size + 1, 2, none⟩) (Kd.R_far (p := ⟨w.heap.size + 1, 1, none⟩) (Kd.R_far (p := ⟨w.heap.size + 1, 0, none⟩) (Kd.R_types (Kd.R_lower ho10 T3a.size) T2b (by decide)) (fun _ hk => hk.2) (.int .i64 a1)) (fun _ hk => hk.2) (.int .i64 a2)) (fun _ hk => hk.2) (.int .i64 a3)) (fun _ hk => hk.2) (.int .i64 a4)) (fun _ hk => hk.2) (.slice A10 r.length c10)) (fun _ _ => trivial)
 ·exact Below.setCell (Below.setCell (Below.setCell (Below.setCell (Below.setCell T3b (by simp) _) (by simp) _) (by simp) _) (by simp) _) (by simp) _
theorem info33 : (Tryz.prog.info? 33).map (fun i => (i.zero, i.size, i.bytes)) = some (some (.agg #[(.int .i64 0), (.int .i64 0), (.int .i64 0), (.int .i64 0), (.slice none 0 0)]), 5, 56) := by kernel_rfl
def bp.f (k : Nat) (d : List (S93)) (a1 a2 a3 a4 : Int) : Option (Int × Int × Int × Int × List (S70)) := (impl_back.f k d).bind fun r => some (a1, a2, a3, a4, r)
theorem bp.calls (k : Nat) (A : Option Addr) (c : Nat) (l : List S93) (a1 a2 a3 a4 r1 r2 r3 r4 : Int) (r5 : List S70) (w : World) (hr : Kd.C k93 w A l.length l) (hc : l.length ≤ c) (h : bp.f k l a1 a2 a3 a4 = some (r1, r2, r3, r4, r5)) :
  Calls Tryz.prog 43 #[.agg #[.slice A l.length c, .int .i64 a1, .int .i64 a2, .int .i64 a3, .int .i64 a4]] w fun e w' => ∃ v4_ : Value, e = .returned (.agg #[.int .i64 r1, .int .i64 r2, .int .i64 r3, .int .i64 r4, v4_]) ∧ Kd.R k70 70 w' w.heap.size (fun _ => True) v4_ r5 ∧ Below w.heap.size w w' := by
 obtain ⟨r, h1, h2⟩ := Option.bind_eq_some_iff.mp h
 simp only [Option.some.injEq, Prod.mk.injEq] at h2
 obtain ⟨rfl, rfl, rfl, rfl, rfl⟩ := h2
 exact backPatch_r k A c l a1 a2 a3 a4 r w hr hc h1
def bps.l0 : Nat → List (S33) → List (S67) → Int → Int → Option ((List (S33)))
 | 0, _, _, _, _ => none
 | k + 1, x3, x6, x7, x8 => if x8 < x7 then (if 0 ≤ x8 then (if x8 < (x6.length : Int) then ((bp.f k ((rd_T67 x6 x8).f0) ((rd_T67 x6 x8).f1) ((rd_T67 x6 x8).f2) ((rd_T67 x6 x8).f3) ((rd_T67 x6 x8).f4)).bind fun bt122 => (if x3.length < 2513169434916 then (bps.l0 k (x3 ++ [(⟨bt122.1, bt122.2.1, bt122.2.2.1, bt122.2.2.2.1, bt122.2.2.2.2⟩ : S33)]) x6 x7 (wrap64 (x8 + 1))) else (none))) else (none)) else (none)) else (some x3)
def bps.f (k : Nat) (l0 : List (S67)) : Option ((List (S33))) := bps.l0 k ([] : List (S33)) l0 (l0.length : Int) 0
theorem bps.calls (k : Nat) (A0 : Option Addr) (c0 : Nat) (l0 : List (S67)) (r : List (S33)) (w : World) (hr0 : Kd.C k67 w A0 l0.length l0) (hc0 : l0.length ≤ c0) (h : bps.f k l0 = some r) :
  Calls Tryz.prog 23 #[.slice A0 l0.length c0] w fun e w' => ∃ v0_ : Value, e = .returned (v0_) ∧ Kd.S k33 33 w' w.heap.size (fun _ => True) v0_ r ∧ Below w.heap.size w w' := by
 have hu33 := Tryz.underlying67
 have HR0 := Aside0.mk hr0
 have HC0 := Aside0.mk hc0
 clear hr0 hc0
 have HB := aS_ (Below.refl w.heap.size w)
 have H : (bps.l0 k ([] : List (S33)) l0 (l0.length : Int) 0) = some r := h
 clear h
 have H' := Aside0.mk H
 clear H
 go_enter Tryz.func23, Tryz.ntmps23
 go_wp2
 go_loopg [3, 8] k (fun kq v3 v8 w' => ∃ (x3_1 : List (S33)) (x8_1 : Int), v8 = .int .i64 x8_1 ∧ Aside0 (bps.l0 kq x3_1 l0 (l0.length : Int) x8_1 = some r) ∧ Aside0 (kq ≤ k) ∧ Aside0 (Kd.S k33 33 w' w.heap.size (fun _ => True) v3 x3_1) ∧ Aside0 (Below w.heap.size w w'))
 case atStart => exact ⟨(([] : List (S33))), (0), (by rfl), H', ⟨Nat.le_refl _⟩, ⟨by exact Kd.S_nil _ _ _ _ _⟩, ⟨bel_ HB.out⟩⟩
 case round =>
  clear H'
  obtain ⟨x3_1, x8_1, rfl, HA, HK1, HO_3, HB⟩ := hrel
  cases gk with
  | zero => exact absurd HA.out (by simp [bps.l0])
  | succ k1 =>
   have H := HA.out; clear HA
   simp only [bps.l0] at H
   by_cases c2 : x8_1 < (l0.length : Int)
   ·rw [if_pos c2] at H
    have c2b0 := decide_eq_true c2
    clear c2
    replace H := yes_ H; obtain ⟨c3, H⟩ := H
    have c3b0 := decide_eq_true c3
    clear c3
    replace H := yes_ H; obtain ⟨c4, H⟩ := H
    have c4b0 := decide_eq_true c4
    clear c4
    replace H := Option.bind_eq_some_iff.mp H
    obtain ⟨⟨t122, t123, t124, t125, t126⟩, A50, H⟩ := H
    try dsimp only at H
    have A5 := Aside0.mk A50
    clear A50
    replace H := yes_ H; obtain ⟨c6, H⟩ := H
    have LMc6 := Aside0.mk c6
    clear c6
    obtain ⟨y129, hy129⟩ : ∃ y_ : List (S33), y_ = (x3_1 ++ [(⟨t122, t123, t124, t125, t126⟩ : S33)]) := ⟨_, rfl⟩
    replace H : (bps.l0 k1 y129 l0 (l0.length : Int) (wrap64 (x8_1 + 1))) = some r := by (rw [hy129]; with_reducible exact H)
    have Ny129 := Aside0.mk hy129
    clear hy129
    have H' := Aside0.mk H
    clear H
    have p120 : 0 ≤ (x8_1 : Int) := of_decide_eq_true (by assumption)
    have q120 : x8_1 < (l0.length : Int) := of_decide_eq_true (by assumption)
    obtain ⟨ad120, A120_4, c120_4, e120, hx120_0, hx120_1, hx120_2, hx120_3, hx120_4, hl120_4, hi120_4⟩ := at_T67 HR0.out x8_1 p120 q120
    cases e120
    replace hx120_0 := (HB.out.cell (World.block_lt_of_cell? w _ hx120_0)).trans hx120_0
    replace hx120_1 := (HB.out.cell (World.block_lt_of_cell? w _ hx120_1)).trans hx120_1
    replace hx120_2 := (HB.out.cell (World.block_lt_of_cell? w _ hx120_2)).trans hx120_2
    replace hx120_3 := (HB.out.cell (World.block_lt_of_cell? w _ hx120_3)).trans hx120_3
    replace hx120_4 := (HB.out.cell (World.block_lt_of_cell? w _ hx120_4)).trans hx120_4
    have HR120_4 := Aside0.mk hi120_4
    have HC120_4 := Aside0.mk hl120_4
    clear hi120_4 hl120_4
    replace p120 := eq_true p120
    replace q120 := eq_true q120
    go_wp2_with (first | ((with_reducible refine gate_dst (N := 5) rfl ?_); refine box_event ?hg (N := 5) ?hd (cs := #[.slice none 0 0, .int .i64 0, .int .i64 0, .int .i64 0, .int .i64 0]) (t := 67) ?hr ?_; (case hd => rfl); (case hg => rfl); (case hr => (go_simp; done)); intro gb121 hg w7 hbox hb; replace HO_3 := aS_ (Kd.S_below (Kd.S_st HO_3.out) hb); have BK121 := aS_ (hbox); have GW121 := aS_ ((by rw [hg]; exact (bz_ (bel_ HB.out)) : w.heap.size ≤ gb121)); have GE121 := aS_ ((by rw [hg]; exact (bz_ (bel_ HB.out)) : w.heap.size ≤ gb121)); replace HB := aS_ (bt_ (bel_ HB.out) hb); clear hb hbox hg; obtain ⟨hcz8_0, hcz8_1, hcz8_2, hcz8_3, hcz8_4, hfz8_0, hfz8_1, hfz8_2, hfz8_3, hfz8_4⟩ := blk5 BK121.out) | (go_at_call 43; (with_reducible refine (bp.calls k1 _ _ ((rd_T67 l0 x8_1).f0) ((rd_T67 l0 x8_1).f1) ((rd_T67 l0 x8_1).f2) ((rd_T67 l0 x8_1).f3) ((rd_T67 l0 x8_1).f4) t122 t123 t124 t125 t126 _ ?side1 ?side2 A5.out).mono ?_); (case side1 => exact Kd.C_below HR120_4.out (by with_reducible repeat first | exact HB.out | refine bS_ ?_ GE121.out)); (case side2 => exact HC120_4.out); rintro e w9 ⟨v127, rfl, ho0, hb⟩; replace HO_3 := aS_ (Kd.S_elder' (Kd.S_st ((Kd.S_mono (Kd.S_far (p := ⟨gb121, 4, none⟩) (Kd.S_far (p := ⟨gb121, 3, none⟩) (Kd.S_far (p := ⟨gb121, 2, none⟩) (Kd.S_far (p := ⟨gb121, 1, none⟩) (Kd.S_far (p := ⟨gb121, 0, none⟩) (Kd.S_types HO_3.out BK121.out (by decide)) (fun _ hk => hk.2) (.slice A120_4 ((rd_T67 l0 x8_1).f0).length c120_4)) (fun _ hk => hk.2) (.int .i64 ((rd_T67 l0 x8_1).f1))) (fun _ hk => hk.2) (.int .i64 ((rd_T67 l0 x8_1).f2))) (fun _ hk => hk.2) (.int .i64 ((rd_T67 l0 x8_1).f3))) (fun _ hk => hk.2) (.int .i64 ((rd_T67 l0 x8_1).f4))) (fun _ h_ => h_.1)))) (Kd.R_base ho0) hb); have HO128 := aS_ (Kd.R_lower ho0 (bz_ (by with_reducible repeat first | exact HB.out | refine bS_ ?_ GE121.out))); replace BK121 := aS_ (blk_below (g := gb121) (o := .cells #[.slice A120_4 ((rd_T67 l0 x8_1).f0).length c120_4, .int .i64 ((rd_T67 l0 x8_1).f1), .int .i64 ((rd_T67 l0 x8_1).f2), .int .i64 ((rd_T67 l0 x8_1).f3), .int .i64 ((rd_T67 l0 x8_1).f4)] 67 (0, 0)) (by (with_reducible skip); refine blk_put (cs := #[.slice A120_4 ((rd_T67 l0 x8_1).f0).length c120_4, .int .i64 ((rd_T67 l0 x8_1).f1), .int .i64 ((rd_T67 l0 x8_1).f2), .int .i64 ((rd_T67 l0 x8_1).f3), .int .i64 0]) ?_ 4 _ rfl; (with_reducible skip); refine blk_put (cs := #[.slice A120_4 ((rd_T67 l0 x8_1).f0).length c120_4, .int .i64 ((rd_T67 l0 x8_1).f1), .int .i64 ((rd_T67 l0 x8_1).f2), .int .i64 0, .int .i64 0]) ?_ 3 _ rfl; (with_reducible skip); refine blk_put (cs := #[.slice A120_4 ((rd_T67 l0 x8_1).f0).length c120_4, .int .i64 ((rd_T67 l0 x8_1).f1), .int .i64 0, .int .i64 0, .int .i64 0]) ?_ 2 _ rfl; (with_reducible skip); refine blk_put (cs := #[.slice A120_4 ((rd_T67 l0 x8_1).f0).length c120_4, .int .i64 0, .int .i64 0, .int .i64 0, .int .i64 0]) ?_ 1 _ rfl; (with_reducible skip); refine blk_put (cs := #[.slice none 0 0, .int .i64 0, .int .i64 0, .int .i64 0, .int .i64 0]) ?_ 0 _ rfl; (with_reducible skip); exact BK121.out) hb); replace HB := aS_ (bt_ (by with_reducible repeat first | exact HB.out | refine bS_ ?_ GE121.out) hb); obtain ⟨Ao11, co11, eo11⟩ := Kd.R_slice HO128.out; subst eo11) | ((with_reducible refine gate_builtin (b := .append) (xs := #[.tmp 12, .tmp 15]) rfl ?_); at_builtin; refine Kd.S_append k33 (w0 := w) w.heap.size rfl (.tmp 12) (.tmp 15) 22 33 (.agg #[(.int .i64 0), (.int .i64 0), (.int .i64 0), (.int .i64 0), (.slice none 0 0)]) 56 rfl Tryz.underlying22 info33 rfl (by decide) (by omega) u3 x3_1 (⟨t122, t123, t124, t125, t126⟩ : S33) [.int .i64 t122, .int .i64 t123, .int .i64 t124, .int .i64 t125, .slice Ao11 t126.length co11] (fun _ => True) (fun k_ => some k_ = (.slice Ao11 t126.length co11 : Value).ownBlock) rfl rfl ?aP (fun k_ hk_ => ((Kd.R_mono (ok' := fun k_ => ((fun _ => True)) k_ ∧ some k_ ≠ (u3 : Value).ownBlock) (Kd.R_apart' (HO128.out) (Kd.S_typed HO_3.out) (by decide)) (fun k_ hk => ⟨trivial, hk.2⟩))).1 k_ hk_.symm) ?aF ?aO ?aB ?aS ?aL ?_; (case aP => exact k33_mkM _ _ _ (⟨t122, t123, t124, t125, t126⟩ : S33) (Kd.R_mono (Kd.R_tight rfl (Kd.R_mono (ok' := fun k_ => ((fun _ => True)) k_ ∧ some k_ ≠ (u3 : Value).ownBlock) (Kd.R_apart' (HO128.out) (Kd.S_typed HO_3.out) (by decide)) (fun k_ hk => ⟨trivial, hk.2⟩))) (fun _ h_ => h_))); (case aB => exact (by with_reducible repeat exact HB.out)); (case aF => exact (fun _ _ => trivial)); (case aO => exact (Kd.S_st (Kd.S_mono HO_3.out (fun k_ hk => ⟨trivial, fun e_ => hk.2 e_⟩)))); (case aS => exact (bz_ (by with_reducible repeat exact HB.out))); (case aL => have := LMc6.out; omega); intro v130 w10 ho hb hg hat; rw [← Ny129.out] at ho; replace BK121 := aS_ (blk_grown (g := gb121) (o := .cells #[.slice A120_4 ((rd_T67 l0 x8_1).f0).length c120_4, .int .i64 ((rd_T67 l0 x8_1).f1), .int .i64 ((rd_T67 l0 x8_1).f2), .int .i64 ((rd_T67 l0 x8_1).f3), .int .i64 ((rd_T67 l0 x8_1).f4)] 67 (0, 0)) (blk_st BK121.out) hg (Kd.S_ne HO_3.out BK121.out (by decide))); replace HB := aS_ (hb); have HO131 := aS_ (ho); clear HO_3 HO128; clear ho hb hg hat))
    go_roundg k1
    case measure => have := HK1.out; omega
    case rel => exact ⟨(y129), (wrap64 (x8_1 + 1)), (by rfl), H', ⟨by have := HK1.out; omega⟩, ⟨Kd.S_st HO131.out⟩, ⟨by with_reducible repeat exact HB.out⟩⟩
   ·rw [if_neg c2] at H
    have c2b0 := decide_eq_false c2
    clear c2
    obtain rfl := Option.some.inj H
    go_wp2
    go_ret
    exact ⟨_, by rfl, Kd.S_st HO_3.out, bel_ HB.out⟩
end Go.Proofs.YtgogjghfehcpoaaGreatDoor.QT
