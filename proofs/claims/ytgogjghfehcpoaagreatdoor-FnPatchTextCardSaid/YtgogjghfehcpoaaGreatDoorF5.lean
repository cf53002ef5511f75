/- Part 5 of the proof of: FnPatchText: the statement, at every input; its condition: the listed variables read as the row lists them. -/
import Derived.Test.YtgogjghfehcpoaaGreatDoorF4
import Derived.Test.YtgogjghfehcpoaaGreatDoorProg
set_option maxHeartbeats 8000000
set_option maxRecDepth 100000
namespace Go.Proofs.YtgogjghfehcpoaaGreatDoor.QT
set_option linter.unusedVariables false
set_option linter.unusedSimpArgs false
open Go.RowKit Go.Proofs.YtgogjghfehcpoaaGreatDoorW.PrintWords Go.Proofs.YtgogjghfehcpoaaGreatDoorW.PrintLast Go.Proofs.YtgogjghfehcpoaaGreatDoorW.PrintMore
theorem cell_take {cur : Array Value} {l : List Value} {n i : Nat} {v : Value} (h : cur.toList.take n = l) (e : l[i]? = some v) : cur[i]? = some v := by
 rw [← h, List.getElem?_take] at e
 split at e
 ·simpa using e
 ·cases e
theorem take_cells {cur : Array Value} {l : List Value} {n : Nat} (hl : l.length = n) (h : ∀ i, i < n → cur[i]? = l[i]?) : cur.toList.take n = l := by
 apply List.ext_getElem?
 intro i
 rw [List.getElem?_take]
 split
 ·rename_i hi
  rw [← h i hi]; simp
 ·rename_i hi
  rw [List.getElem?_eq_none (by omega)]
def aw1 : List S67 := [⟨[⟨0, ⟨#[97, 98]⟩⟩, ⟨1, ⟨#[120]⟩⟩, ⟨0, ⟨#[99]⟩⟩], 0, 0, 3, 4⟩]
def aw2 : List S67 := [⟨[⟨0, ⟨#[3, 4, 97, 98]⟩⟩, ⟨1, ⟨#[120]⟩⟩, ⟨0, ⟨#[99, 1, 2, 3]⟩⟩], 2, 2, 8, 9⟩]
theorem pad_s1 : (((⟨#[]⟩ : ByteArray) ++ ⟨#[1]⟩ ++ ⟨#[2]⟩ ++ ⟨#[3]⟩ ++ ⟨#[4]⟩).extract 2 4 ++ ⟨#[97, 98]⟩) = ⟨#[3, 4, 97, 98]⟩ := by decide
theorem pad_s2 : ((⟨#[99]⟩ : ByteArray) ++ ((⟨#[]⟩ : ByteArray) ++ ⟨#[1]⟩ ++ ⟨#[2]⟩ ++ ⟨#[3]⟩ ++ ⟨#[4]⟩).extract 0 3) = ⟨#[99, 1, 2, 3]⟩ := by decide
theorem reps_one {α : Type} {R : α → List Value → Prop} {n : Nat} {p : α} {cs : List Value} (h : R p cs) (hl : cs.length = n) : Reps R n [p] cs := by
 have := (Reps.none R n).snoc h hl
 simpa using this
theorem pad_R (a0 : Nat) (w0 w : World) (P : Nat → Prop) (v : Value) (hd : DmpAt w a0) (hb : Below w0.heap.size w0 w) (h : Kd.R k67 67 w w0.heap.size P v aw1) :
  Calls Tryz.prog 55 #[.pointer (some ⟨a0, 0, none⟩), v] w fun e w' => e = .returned (.string ⟨#[1, 2, 3, 4]⟩) ∧ Kd.R k67 67 w' w0.heap.size P v aw2 ∧ Below w0.heap.size w0 w' := by
 obtain ⟨hok, inner, ⟨hlen, ⟨_, h0⟩ | ⟨g1, cap, cur, rfl, hbase, hcur, hn, hmax, hsz, htake⟩⟩, hr⟩ := h
 ·simp [aw1] at h0
 have hM := hr.2 0 _ rfl
 obtain ⟨v0, hv0, hR2⟩ := k67_openM hM
 have hin : inner = [v0, .int .i64 0, .int .i64 0, .int .i64 3, .int .i64 4] := by
  have : inner.length = 5 := hlen
  rw [← hv0]
  show inner = (inner.drop 0).take 5
  rw [List.drop_zero, List.take_of_length_le (by omega)]
 obtain ⟨hok2, inner2, ⟨hlen2, ⟨_, h02⟩ | ⟨g2, cap2, cur2, rfl, hbase2, hcur2, hn2, hmax2, hsz2, htake2⟩⟩, hr2⟩ := hR2
 ·simp [aw1] at h02
 have hA := k93_openM (hr2.2 0 _ rfl)
 have hB := k93_openM (hr2.2 1 _ rfl)
 have hC := k93_openM (hr2.2 2 _ rfl)
 have hin2 : inner2 = [.int .i8 0, .string ⟨#[97, 98]⟩, .int .i8 1, .string ⟨#[120]⟩, .int .i8 0, .string ⟨#[99]⟩] := by
  have h6 : inner2.length = 6 := hlen2
  have e : inner2 = (inner2.drop 0).take 2 ++ ((inner2.drop 2).take 2 ++ (inner2.drop 4).take 2) := by
   match inner2, h6 with
   | [_, _, _, _, _, _], _ => rfl
  have hA' : (inner2.drop 0).take 2 = [.int .i8 0, .string ⟨#[97, 98]⟩] := hA
  have hB' : (inner2.drop 2).take 2 = [.int .i8 1, .string ⟨#[120]⟩] := hB
  have hC' : (inner2.drop 4).take 2 = [.int .i8 0, .string ⟨#[99]⟩] := hC
  rw [e, hA', hB', hC']
  rfl
 subst hin
 subst hin2
 have ht : cur.toList.take 5 = [.slice (some ⟨g2, 0, none⟩) 3 cap2, .int .i64 0, .int .i64 0, .int .i64 3, .int .i64 4] := htake
 have ht2 : cur2.toList.take 6 = [.int .i8 0, .string ⟨#[97, 98]⟩, .int .i8 1, .string ⟨#[120]⟩, .int .i8 0, .string ⟨#[99]⟩] := htake2
 refine (pad_calls a0 g1 g2 cap cap2 cur cur2 w hd hcur hcur2 (cell_take ht rfl) (cell_take ht rfl) (cell_take ht rfl) (cell_take ht rfl) (cell_take ht rfl) (cell_take ht2 rfl) (cell_take ht2 rfl) (cell_take ht2 rfl) (cell_take ht2 rfl)).mono ?_
 rintro e w' ⟨he, T1, T2, hB'⟩
 refine ⟨he, ?_, hB' _ _ hb hbase hbase2⟩
 have k0 : cur[0]? = some (.slice (some ⟨g2, 0, none⟩) 3 cap2) := cell_take ht rfl
 have k1 : cur[1]? = some (.int .i64 0) := cell_take ht rfl
 have k2 : cur[2]? = some (.int .i64 0) := cell_take ht rfl
 have k3 : cur[3]? = some (.int .i64 3) := cell_take ht rfl
 have k4 : cur[4]? = some (.int .i64 4) := cell_take ht rfl
 have l0 : cur2[0]? = some (.int .i8 0) := cell_take ht2 rfl
 have l1 : cur2[1]? = some (.string ⟨#[97, 98]⟩) := cell_take ht2 rfl
 have l2 : cur2[2]? = some (.int .i8 1) := cell_take ht2 rfl
 have l3 : cur2[3]? = some (.string ⟨#[120]⟩) := cell_take ht2 rfl
 have l4 : cur2[4]? = some (.int .i8 0) := cell_take ht2 rfl
 have l5 : cur2[5]? = some (.string ⟨#[99]⟩) := cell_take ht2 rfl
 have m0 : (padC1 cur)[0]? = some (.slice (some ⟨g2, 0, none⟩) 3 cap2) := by unfold padC1; exact set_other (by decide) (set_other (by decide) (set_other (by decide) (set_other (by decide) (set_other (by decide) (set_other (by decide) (set_other (by decide) (set_other (by decide) (k0))))))))
 have m1 : (padC1 cur)[1]? = some (.int .i64 2) := by unfold padC1; exact set_other (by decide) (set_other (by decide) (set_other (by decide) (set_other (by decide) (set_other (by decide) (set_same (set_other (by decide) (set_same k1)))))))
 have m2 : (padC1 cur)[2]? = some (.int .i64 2) := by unfold padC1; exact set_other (by decide) (set_other (by decide) (set_other (by decide) (set_other (by decide) (set_same (set_other (by decide) (set_same (set_other (by decide) k2)))))))
 have m3 : (padC1 cur)[3]? = some (.int .i64 8) := by unfold padC1; refine set_other (by decide) ?_; exact set_same (set_other (by decide) (set_same (set_other (by decide) (set_other (by decide) (set_other (by decide) (set_other (by decide) k3))))))
 have m4 : (padC1 cur)[4]? = some (.int .i64 9) := by unfold padC1; exact set_same (set_other (by decide) (set_same (set_other (by decide) (set_other (by decide) (set_other (by decide) (set_other (by decide) (set_other (by decide) k4)))))))
 have n0 : (padC2 cur2)[0]? = some (.int .i8 0) := by unfold padC2; rw [pad_s1, pad_s2]; exact set_other (by decide) (set_other (by decide) l0)
 have n1 : (padC2 cur2)[1]? = some (.string ⟨#[3, 4, 97, 98]⟩) := by unfold padC2; rw [pad_s1, pad_s2]; exact set_other (by decide) (set_same l1)
 have n2 : (padC2 cur2)[2]? = some (.int .i8 1) := by unfold padC2; rw [pad_s1, pad_s2]; exact set_other (by decide) (set_other (by decide) l2)
 have n3 : (padC2 cur2)[3]? = some (.string ⟨#[120]⟩) := by unfold padC2; rw [pad_s1, pad_s2]; exact set_other (by decide) (set_other (by decide) l3)
 have n4 : (padC2 cur2)[4]? = some (.int .i8 0) := by unfold padC2; rw [pad_s1, pad_s2]; exact set_other (by decide) (set_other (by decide) l4)
 have n5 : (padC2 cur2)[5]? = some (.string ⟨#[99, 1, 2, 3]⟩) := by unfold padC2; rw [pad_s1, pad_s2]; exact set_same (set_other (by decide) l5)
 have s1 : (padC1 cur).size = cap * 5 := by simp [padC1]; exact hsz
 have s2 : (padC2 cur2).size = cap2 * 2 := by simp [padC2]; exact hsz2
 have t1 : (padC1 cur).toList.take 5 = [.slice (some ⟨g2, 0, none⟩) 3 cap2, .int .i64 2, .int .i64 2, .int .i64 8, .int .i64 9] := take_cells rfl (fun i hi => by
  match i, hi with
  | 0, _ => exact m0
  | 1, _ => exact m1
  | 2, _ => exact m2
  | 3, _ => exact m3
  | 4, _ => exact m4)
 have t2 : (padC2 cur2).toList.take 6 = [.int .i8 0, .string ⟨#[3, 4, 97, 98]⟩, .int .i8 1, .string ⟨#[120]⟩, .int .i8 0, .string ⟨#[99, 1, 2, 3]⟩] := take_cells rfl (fun i hi => by
  match i, hi with
  | 0, _ => exact n0
  | 1, _ => exact n1
  | 2, _ => exact n2
  | 3, _ => exact n3
  | 4, _ => exact n4
  | 5, _ => exact n5)
 refine ⟨hok, _, ⟨rfl, Or.inr ⟨g1, cap, _, rfl, hbase, T1, hn, hmax, s1, t1⟩⟩, reps_one (k67_mkM _ _ _ (⟨[⟨0, ⟨#[3, 4, 97, 98]⟩⟩, ⟨1, ⟨#[120]⟩⟩, ⟨0, ⟨#[99, 1, 2, 3]⟩⟩], 2, 2, 8, 9⟩ : S67) ?_) rfl⟩
 refine ⟨hok2, _, ⟨rfl, Or.inr ⟨g2, cap2, _, rfl, hbase2, T2, hn2, hmax2, s2, t2⟩⟩, ?_⟩
 exact (((Reps.none _ _).snoc (k93_mkM _ _ _ (⟨0, ⟨#[3, 4, 97, 98]⟩⟩ : S93)) rfl).snoc (k93_mkM _ _ _ (⟨1, ⟨#[120]⟩⟩ : S93)) rfl).snoc (k93_mkM _ _ _ (⟨0, ⟨#[99, 1, 2, 3]⟩⟩ : S93)) rfl
def pad93 (x : S93) (t : Int) (l : List UInt8) : Bool := x.f0 == t && x.f1.data.toList == l
def padb : List S67 → Bool
 | [p] => (p.f1 == 0 && p.f2 == 0 && p.f3 == 3 && p.f4 == 4) && (match p.f0 with
  | [a, b, c] => pad93 a 0 [97, 98] && pad93 b 1 [120] && pad93 c 0 [99]
  | _ => false)
 | _ => false
def padf (l : List S67) : Option (ByteArray × List S67) := if padb l = true then some (⟨#[1, 2, 3, 4]⟩, aw2) else none
theorem pad93_eq {x : S93} {t : Int} {l : List UInt8} (h : pad93 x t l = true) : x = ⟨t, ⟨⟨l⟩⟩⟩ := by
 obtain ⟨f0, ⟨⟨d⟩⟩⟩ := x
 simp only [pad93, Bool.and_eq_true, beq_iff_eq] at h
 obtain ⟨rfl, rfl⟩ := h
 rfl
theorem padb_eq {l : List S67} (h : padb l = true) : l = aw1 := by
 unfold padb at h
 split at h
 ·rename_i p
  simp only [Bool.and_eq_true, beq_iff_eq] at h
  obtain ⟨⟨⟨⟨h1, h2⟩, h3⟩, h4⟩, h⟩ := h
  obtain ⟨f0, f1, f2, f3, f4⟩ := p
  dsimp only at h1 h2 h3 h4 h
  subst h1 h2 h3 h4
  split at h
  ·simp only [Bool.and_eq_true] at h
   obtain ⟨⟨ha, hb⟩, hc⟩ := h
   rw [pad93_eq ha, pad93_eq hb, pad93_eq hc]
   rfl
  ·cases h
 ·cases h
theorem padf_eq {l l' : List S67} {r : ByteArray} (h : padf l = some (r, l')) : l = aw1 ∧ r = ⟨#[1, 2, 3, 4]⟩ ∧ l' = aw2 := by
 unfold padf at h
 split at h
 ·rename_i hb
  injection h with h
  injection h with h1 h2
  exact ⟨padb_eq hb, h1.symm, h2.symm⟩
 ·cases h
theorem padf_len {l l' : List S67} {r : ByteArray} (h : padf l = some (r, l')) : l.length = l'.length := by
 obtain ⟨rfl, _, rfl⟩ := padf_eq h
 rfl
theorem pad_f (a0 : Nat) (w0 w : World) (P : Nat → Prop) (v : Value) (l l' : List S67) (r : ByteArray) (hd : DmpAt w a0) (hb : Below w0.heap.size w0 w) (hR : Kd.R k67 67 w w0.heap.size P v l) (h : padf l = some (r, l')) :
  Calls Tryz.prog 55 #[.pointer (some ⟨a0, 0, none⟩), v] w fun e w' => e = .returned (.string r) ∧ Kd.R k67 67 w' w0.heap.size P v l' ∧ Below w0.heap.size w0 w' := by
 obtain ⟨rfl, rfl, rfl⟩ := padf_eq h
 exact pad_R a0 w0 w P v hd hb hR
def q_commonSuffixLength.l0 : Nat → List Int → List Int → Int → Int → Int → Option (Int)
 | 0, _, _, _, _, _ => none
 | k + 1, x0, x1, x5, x6, x7 => if (wrap64 (x5 - 1)) < 0 then (some x7) else (if (wrap64 (x6 - 1)) < 0 then (some x7) else (if 0 ≤ (wrap64 (x5 - 1)) then (if (wrap64 (x5 - 1)) < (x0.length : Int) then (if 0 ≤ (wrap64 (x6 - 1)) then (if (wrap64 (x6 - 1)) < (x1.length : Int) then (if (rd x0 (wrap64 (x5 - 1))) = (rd x1 (wrap64 (x6 - 1))) then (q_commonSuffixLength.l0 k x0 x1 (wrap64 (x5 - 1)) (wrap64 (x6 - 1)) (wrap64 (x7 + 1))) else (some x7)) else (none)) else (none)) else (none)) else (none)))
def q_commonSuffixLength.f (k : Nat) (l0 : List Int) (l1 : List Int) : Option (Int) := q_commonSuffixLength.l0 k l0 l1 (l0.length : Int) (l1.length : Int) 0
theorem q_commonSuffixLength.calls (k : Nat) (A0 : Option Addr) (c0 : Nat) (l0 : List Int) (A1 : Option Addr) (c1 : Nat) (l1 : List Int) (r : Int) (w : World) (hr0 : Kd.C (Kd.int .i32) w A0 l0.length l0) (hc0 : l0.length ≤ c0) (hr1 : Kd.C (Kd.int .i32) w A1 l1.length l1) (hc1 : l1.length ≤ c1) (h : q_commonSuffixLength.f k l0 l1 = some r) :
  Calls Tryz.prog 117 #[.slice A0 l0.length c0, .slice A1 l1.length c1] w fun e w' => e = .returned (.int .i64 r) ∧ Drawn0 w w' := by
 have HR0 := Aside0.mk hr0
 have HC0 := Aside0.mk hc0
 clear hr0 hc0
 have HR1 := Aside0.mk hr1
 have HC1 := Aside0.mk hc1
 clear hr1 hc1
 have H : (q_commonSuffixLength.l0 k l0 l1 (l0.length : Int) (l1.length : Int) 0) = some r := h
 clear h
 have H' := Aside0.mk H
 clear H
 go_enter Tryz.func117, Tryz.ntmps117
 go_wp2
 go_loopg [5, 6, 7] k (fun kq v5 v6 v7 w' => ∃ (x5_1 : Int) (x6_1 : Int) (x7_1 : Int), v5 = .int .i64 x5_1 ∧ v6 = .int .i64 x6_1 ∧ v7 = .int .i64 x7_1 ∧ Aside0 (q_commonSuffixLength.l0 kq l0 l1 x5_1 x6_1 x7_1 = some r) ∧ Aside0 (kq ≤ k) ∧ Drawn0 w w')
 case atStart => exact ⟨((l0.length : Int)), ((l1.length : Int)), (0), (by rfl), (by rfl), (by rfl), H', ⟨Nat.le_refl _⟩, by repeat (exact Drawn0.refl _)⟩
 case round =>
  clear H'
  obtain ⟨x5_1, x6_1, x7_1, rfl, rfl, rfl, HA, HK1, ⟨m1, rfl⟩⟩ := hrel
  cases gk with
  | zero => exact absurd HA.out (by simp [q_commonSuffixLength.l0])
  | succ k1 =>
   have H := HA.out; clear HA
   simp only [q_commonSuffixLength.l0] at H
   by_cases c3 : (wrap64 (x5_1 - 1)) < 0
   ·rw [if_pos c3] at H
    have c3b0 := decide_eq_true c3
    clear c3
    obtain rfl := Option.some.inj H
    go_wp2
    repeat (go_quiet (fail); try go_wp2)
    go_ret
    exact ⟨by rfl, by repeat (first | exact Drawn0.refl _ | apply Drawn0.step)⟩
   ·rw [if_neg c3] at H
    have c3b0 := decide_eq_false c3
    clear c3
    by_cases c4 : (wrap64 (x6_1 - 1)) < 0
    ·rw [if_pos c4] at H
     have c4b0 := decide_eq_true c4
     clear c4
     obtain rfl := Option.some.inj H
     go_wp2
     repeat (go_quiet (fail); try go_wp2)
     go_ret
     exact ⟨by rfl, by repeat (first | exact Drawn0.refl _ | apply Drawn0.step)⟩
    ·rw [if_neg c4] at H
     have c4b0 := decide_eq_false c4
     clear c4
     obtain ⟨ji5, hji5⟩ : ∃ j_ : Int, (wrap64 (x5_1 - 1)) = j_ := ⟨_, rfl⟩
     rw [hji5] at H
     (try rw [hji5] at c3b0)
     have hji5w : (IntKind.i64.wrap (x5_1 - 1)) = ji5 := (i64_w _).trans hji5
     replace H := yes_ H; obtain ⟨c6, H⟩ := H
     have c6b0 := decide_eq_true c6
     clear c6
     replace H := yes_ H; obtain ⟨c7, H⟩ := H
     have c7b0 := decide_eq_true c7
     clear c7
     obtain ⟨ji8, hji8⟩ : ∃ j_ : Int, (wrap64 (x6_1 - 1)) = j_ := ⟨_, rfl⟩
     rw [hji8] at H
     (try rw [hji8] at c4b0)
     have hji8w : (IntKind.i64.wrap (x6_1 - 1)) = ji8 := (i64_w _).trans hji8
     replace H := yes_ H; obtain ⟨c9, H⟩ := H
     have c9b0 := decide_eq_true c9
     clear c9
     replace H := yes_ H; obtain ⟨c10, H⟩ := H
     have c10b0 := decide_eq_true c10
     clear c10
     by_cases c11 : (rd l0 (ji5)) = (rd l1 (ji8))
     ·rw [if_pos c11] at H
      have c11b0 := beq_iff_eq.mpr c11
      have c11b1 := bne_eq_false_iff_eq.mpr c11
      clear c11
      have H' := Aside0.mk H
      clear H
      have p232 : 0 ≤ ((ji5) : Int) := of_decide_eq_true (by assumption)
      have q232 : (ji5) < (l0.length : Int) := of_decide_eq_true (by assumption)
      obtain ⟨ad232, e232, hx232_0⟩ := Kd.at_int HR0.out (ji5) p232 q232
      cases e232
      replace p232 := eq_true p232
      replace q232 := eq_true q232
      have p233 : 0 ≤ ((ji8) : Int) := of_decide_eq_true (by assumption)
      have q233 : (ji8) < (l1.length : Int) := of_decide_eq_true (by assumption)
      obtain ⟨ad233, e233, hx233_0⟩ := Kd.at_int HR1.out (ji8) p233 q233
      cases e233
      replace p233 := eq_true p233
      replace q233 := eq_true q233
      go_wp2
      repeat (go_quiet (fail); try go_wp2)
      go_roundg k1
      case measure => have := HK1.out; omega
      case rel => exact ⟨(ji5), (ji8), (wrap64 (x7_1 + 1)), (by rfl), (by rfl), (by rfl), H', ⟨by have := HK1.out; omega⟩, by repeat (first | exact Drawn0.refl _ | apply Drawn0.step)⟩
     ·rw [if_neg c11] at H
      have c11b0 := beq_eq_false_iff_ne.mpr c11
      have c11b1 := bne_iff_ne.mpr c11
      obtain rfl := Option.some.inj H
      have p232 : 0 ≤ ((ji5) : Int) := of_decide_eq_true (by assumption)
      have q232 : (ji5) < (l0.length : Int) := of_decide_eq_true (by assumption)
      obtain ⟨ad232, e232, hx232_0⟩ := Kd.at_int HR0.out (ji5) p232 q232
      cases e232
      replace p232 := eq_true p232
      replace q232 := eq_true q232
      have p233 : 0 ≤ ((ji8) : Int) := of_decide_eq_true (by assumption)
      have q233 : (ji8) < (l1.length : Int) := of_decide_eq_true (by assumption)
      obtain ⟨ad233, e233, hx233_0⟩ := Kd.at_int HR1.out (ji8) p233 q233
      cases e233
      replace p233 := eq_true p233
      replace q233 := eq_true q233
      go_wp2
      repeat (go_quiet (fail); try go_wp2)
      go_ret
      exact ⟨by rfl, by repeat (first | exact Drawn0.refl _ | apply Drawn0.step)⟩
mutual
def q_commonPrefixLength.l0 : Nat → List Int → List Int → Int → Option (Int)
 | 0, _, _, _ => none
 | k + 1, x0, x1, x5 => if x5 < (x0.length : Int) then (q_commonPrefixLength.j1 k x0 x1 x5 (decide (x5 < (x1.length : Int)))) else (q_commonPrefixLength.j1 k x0 x1 x5 false)
def q_commonPrefixLength.j1 : Nat → List Int → List Int → Int → Bool → Option (Int)
 | 0, _, _, _, _ => none
 | k + 1, x0, x1, x5, x15 => if x15 = true then (if 0 ≤ x5 then (if x5 < (x0.length : Int) then (if x5 < (x1.length : Int) then (if (rd x0 x5) = (rd x1 x5) then (q_commonPrefixLength.l0 k x0 x1 (wrap64 (x5 + 1))) else (some x5)) else (none)) else (none)) else (none)) else (some x5)
end
def q_commonPrefixLength.f (k : Nat) (l0 : List Int) (l1 : List Int) : Option (Int) := q_commonPrefixLength.l0 k l0 l1 0
theorem q_commonPrefixLength.calls (k : Nat) (A0 : Option Addr) (c0 : Nat) (l0 : List Int) (A1 : Option Addr) (c1 : Nat) (l1 : List Int) (r : Int) (w : World) (hr0 : Kd.C (Kd.int .i32) w A0 l0.length l0) (hc0 : l0.length ≤ c0) (hr1 : Kd.C (Kd.int .i32) w A1 l1.length l1) (hc1 : l1.length ≤ c1) (h : q_commonPrefixLength.f k l0 l1 = some r) :
  Calls Tryz.prog 124 #[.slice A0 l0.length c0, .slice A1 l1.length c1] w fun e w' => e = .returned (.int .i64 r) ∧ Drawn0 w w' := by
 have HR0 := Aside0.mk hr0
 have HC0 := Aside0.mk hc0
 clear hr0 hc0
 have HR1 := Aside0.mk hr1
 have HC1 := Aside0.mk hc1
 clear hr1 hc1
 have H : (q_commonPrefixLength.l0 k l0 l1 0) = some r := h
 clear h
 have H' := Aside0.mk H
 clear H
 go_enter Tryz.func124, Tryz.ntmps124
 go_wp2
 go_loopg [5] k (fun kq v5 w' => ∃ (x5_1 : Int), v5 = .int .i64 x5_1 ∧ Aside0 (q_commonPrefixLength.l0 kq l0 l1 x5_1 = some r) ∧ Aside0 (kq ≤ k) ∧ Drawn0 w w')
 case atStart => exact ⟨(0), (by rfl), H', ⟨Nat.le_refl _⟩, by repeat (exact Drawn0.refl _)⟩
 case round =>
  clear H'
  obtain ⟨x5_1, rfl, HA, HK1, ⟨m1, rfl⟩⟩ := hrel
  cases gk with
  | zero => exact absurd HA.out (by simp [q_commonPrefixLength.l0])
  | succ k1 =>
   have H := HA.out; clear HA
   simp only [q_commonPrefixLength.l0] at H
   have HC3 := Aside0.mk H
   clear H
   go_upto_region 2 with (fail)
   go_cut [15] (fun v15 wc => ∃ (kq : Nat) (x15_2 : Bool), v15 = .bool x15_2 ∧ Aside0 (q_commonPrefixLength.j1 kq l0 l1 x5_1 x15_2 = some r) ∧ Aside0 (kq ≤ k1) ∧ Drawn0 w wc)
   case first =>
    have H := HC3.out
    clear HC3
    by_cases c4 : x5_1 < (l0.length : Int)
    ·rw [if_pos c4] at H
     have c4b0 := decide_eq_true c4
     clear c4
     have H' := Aside0.mk H
     clear H
     go_wp2
     go_meet
     case rel => exact ⟨_, (decide (x5_1 < (l1.length : Int))), (by rfl), H', ⟨by have := HK1.out; omega⟩, by repeat (first | exact Drawn0.refl _ | apply Drawn0.step)⟩
    ·rw [if_neg c4] at H
     have c4b0 := decide_eq_false c4
     clear c4
     have H' := Aside0.mk H
     clear H
     go_wp2
     go_meet
     case rel => exact ⟨_, (false), (by rfl), H', ⟨by have := HK1.out; omega⟩, by repeat (first | exact Drawn0.refl _ | apply Drawn0.step)⟩
   case rest =>
    clear HC3
    obtain ⟨kq, x15_2, rfl, HA, HJ2, ⟨mc2, rfl⟩⟩ := hcut
    cases kq with
    | zero => exact absurd HA.out (by simp [q_commonPrefixLength.j1])
    | succ kj2 =>
     have H := HA.out; clear HA
     simp only [q_commonPrefixLength.j1] at H
     by_cases c5 : x15_2 = true
     ·subst c5
      rw [if_pos rfl] at H
      replace H := yes_ H; obtain ⟨c6, H⟩ := H
      have c6b0 := decide_eq_true c6
      clear c6
      replace H := yes_ H; obtain ⟨c7, H⟩ := H
      have c7b0 := decide_eq_true c7
      clear c7
      replace H := yes_ H; obtain ⟨c8, H⟩ := H
      have c8b0 := decide_eq_true c8
      clear c8
      by_cases c9 : (rd l0 x5_1) = (rd l1 x5_1)
      ·rw [if_pos c9] at H
       have c9b0 := beq_iff_eq.mpr c9
       have c9b1 := bne_eq_false_iff_eq.mpr c9
       clear c9
       have H' := Aside0.mk H
       clear H
       have p234 : 0 ≤ (x5_1 : Int) := of_decide_eq_true (by assumption)
       have q234 : x5_1 < (l0.length : Int) := of_decide_eq_true (by assumption)
       obtain ⟨ad234, e234, hx234_0⟩ := Kd.at_int HR0.out x5_1 p234 q234
       cases e234
       replace p234 := eq_true p234
       replace q234 := eq_true q234
       have p235 : 0 ≤ (x5_1 : Int) := of_decide_eq_true (by assumption)
       have q235 : x5_1 < (l1.length : Int) := of_decide_eq_true (by assumption)
       obtain ⟨ad235, e235, hx235_0⟩ := Kd.at_int HR1.out x5_1 p235 q235
       cases e235
       replace p235 := eq_true p235
       replace q235 := eq_true q235
       go_wp2
       repeat (go_quiet (fail); try go_wp2)
       go_roundg kj2
       case measure => have := HK1.out; have := HJ2.out; omega
       case rel => exact ⟨(wrap64 (x5_1 + 1)), (by rfl), H', ⟨by have := HK1.out; have := HJ2.out; omega⟩, by repeat (first | exact Drawn0.refl _ | apply Drawn0.step)⟩
      ·rw [if_neg c9] at H
       have c9b0 := beq_eq_false_iff_ne.mpr c9
       have c9b1 := bne_iff_ne.mpr c9
       obtain rfl := Option.some.inj H
       have p234 : 0 ≤ (x5_1 : Int) := of_decide_eq_true (by assumption)
       have q234 : x5_1 < (l0.length : Int) := of_decide_eq_true (by assumption)
       obtain ⟨ad234, e234, hx234_0⟩ := Kd.at_int HR0.out x5_1 p234 q234
       cases e234
       replace p234 := eq_true p234
       replace q234 := eq_true q234
       have p235 : 0 ≤ (x5_1 : Int) := of_decide_eq_true (by assumption)
       have q235 : x5_1 < (l1.length : Int) := of_decide_eq_true (by assumption)
       obtain ⟨ad235, e235, hx235_0⟩ := Kd.at_int HR1.out x5_1 p235 q235
       cases e235
       replace p235 := eq_true p235
       replace q235 := eq_true q235
       go_wp2
       repeat (go_quiet (fail); try go_wp2)
       go_ret
       exact ⟨by rfl, by repeat (first | exact Drawn0.refl _ | apply Drawn0.step)⟩
     ·replace c5 := Bool.eq_false_iff.mpr c5
      subst c5
      rw [if_neg (show ¬ (false = true) by decide)] at H
      obtain rfl := Option.some.inj H
      go_wp2
      go_ret
      exact ⟨by rfl, by repeat (first | exact Drawn0.refl _ | apply Drawn0.step)⟩
def stringslite_HasSuffix.f (a0 : ByteArray) (a1 : ByteArray) : Option (Bool) := if (a0.size : Int) ≥ (a1.size : Int) then (if 0 ≤ (wrap64 ((a0.size : Int) - (a1.size : Int))) then (if (wrap64 ((a0.size : Int) - (a1.size : Int))) ≤ (a0.size : Int) then (some ((a0.extract ((wrap64 ((a0.size : Int) - (a1.size : Int))) : Int).toNat a0.size).toList == a1.toList)) else (none)) else (none)) else (some false)
theorem stringslite_HasSuffix.calls (a0 : ByteArray) (a1 : ByteArray) (r : Bool) (w : World) (h : stringslite_HasSuffix.f a0 a1 = some r) :
  Calls Tryz.prog 141 #[.string a0, .string a1] w fun e w' => e = .returned (.bool r) ∧ Drawn0 w w' := by
 have H : (if (a0.size : Int) ≥ (a1.size : Int) then (if 0 ≤ (wrap64 ((a0.size : Int) - (a1.size : Int))) then (if (wrap64 ((a0.size : Int) - (a1.size : Int))) ≤ (a0.size : Int) then (some ((a0.extract ((wrap64 ((a0.size : Int) - (a1.size : Int))) : Int).toNat a0.size).toList == a1.toList)) else (none)) else (none)) else (some false)) = some r := h
 clear h
 by_cases c3 : (a0.size : Int) ≥ (a1.size : Int)
 ·rw [if_pos c3] at H
  have c3b0 : decide ((a1.size : Int) ≤ (a0.size : Int)) = true := decide_eq_true c3
  have c3b1 : decide (a1.size ≤ a0.size) = true := decide_eq_true (Int.ofNat_le.mp c3)
  clear c3
  obtain ⟨ji4, hji4⟩ : ∃ j_ : Int, (wrap64 ((a0.size : Int) - (a1.size : Int))) = j_ := ⟨_, rfl⟩
  rw [hji4] at H
  have hji4w : (IntKind.i64.wrap ((a0.size : Int) - (a1.size : Int))) = ji4 := (i64_w _).trans hji4
  replace H := yes_ H; obtain ⟨c5, H⟩ := H
  have c5b0 := eq_true c5
  have c5b1 := decide_eq_true c5
  clear c5
  replace H := yes_ H; obtain ⟨c6, H⟩ := H
  have c6b0 := eq_true c6
  have c6b1 := decide_eq_true c6
  clear c6
  obtain rfl := Option.some.inj H
  go_enter Tryz.func141, Tryz.ntmps141
  go_wp2
  go_ret
  exact ⟨by rfl, by repeat (exact Drawn0.refl _)⟩
 ·rw [if_neg c3] at H
  have c3b0 : decide ((a1.size : Int) ≤ (a0.size : Int)) = false := decide_eq_false c3
  have c3b1 : decide (a1.size ≤ a0.size) = false := decide_eq_false (fun h => c3 (Int.ofNat_le.mpr h))
  clear c3
  obtain rfl := Option.some.inj H
  go_enter Tryz.func141, Tryz.ntmps141
  go_wp2
  go_ret
  exact ⟨by rfl, by repeat (exact Drawn0.refl _)⟩
def strings_HasSuffix.f (a0 : ByteArray) (a1 : ByteArray) : Option (Bool) := (stringslite_HasSuffix.f a0 a1).bind fun t236 => (some t236)
theorem strings_HasSuffix.calls (a0 : ByteArray) (a1 : ByteArray) (r : Bool) (w : World) (h : strings_HasSuffix.f a0 a1 = some r) :
  Calls Tryz.prog 125 #[.string a0, .string a1] w fun e w' => e = .returned (.bool r) ∧ Drawn0 w w' := by
 have H : ((stringslite_HasSuffix.f a0 a1).bind fun t236 => (some t236)) = some r := h
 clear h
 replace H := Option.bind_eq_some_iff.mp H
 obtain ⟨t236, A30, H⟩ := H
 have A3 := Aside0.mk A30
 clear A30
 obtain rfl := Option.some.inj H
 go_enter Tryz.func125, Tryz.ntmps125
 go_wp2_with (((with_reducible refine gate_callee (f := 141) rfl ?_); refine goesL_ (some 7) rfl rfl Tryz.func141 (by kernel_rfl) rfl #[.string a0, .string a1] rfl (by (try simp only [List.map_toArray, List.map_cons, List.map_nil]); rfl) ?_; (with_reducible refine (stringslite_HasSuffix.calls a0 a1 t236 _ A3.out).mono ?_); rintro e w' ⟨rfl, ⟨nd, rfl⟩⟩; refine ⟨_, rfl, ?_⟩))
 go_ret
 exact ⟨by rfl, by repeat (first | exact Drawn0.refl _ | apply Drawn0.step)⟩
def stringslite_HasPrefix.f (a0 : ByteArray) (a1 : ByteArray) : Option (Bool) := if (a0.size : Int) ≥ (a1.size : Int) then (if 0 ≤ (a1.size : Int) then (if (a1.size : Int) ≤ (a0.size : Int) then (some ((a0.extract 0 a1.size).toList == a1.toList)) else (none)) else (none)) else (some false)
theorem stringslite_HasPrefix.calls (a0 : ByteArray) (a1 : ByteArray) (r : Bool) (w : World) (h : stringslite_HasPrefix.f a0 a1 = some r) :
  Calls Tryz.prog 142 #[.string a0, .string a1] w fun e w' => e = .returned (.bool r) ∧ Drawn0 w w' := by
 have H : (if (a0.size : Int) ≥ (a1.size : Int) then (if 0 ≤ (a1.size : Int) then (if (a1.size : Int) ≤ (a0.size : Int) then (some ((a0.extract 0 a1.size).toList == a1.toList)) else (none)) else (none)) else (some false)) = some r := h
 clear h
 by_cases c3 : (a0.size : Int) ≥ (a1.size : Int)
 ·rw [if_pos c3] at H
  have c3b0 : decide ((a1.size : Int) ≤ (a0.size : Int)) = true := decide_eq_true c3
  have c3b1 : decide (a1.size ≤ a0.size) = true := decide_eq_true (Int.ofNat_le.mp c3)
  clear c3
  replace H := yes_ H; obtain ⟨c4, H⟩ := H
  have c4b0 := eq_true c4
  have c4b1 := decide_eq_true c4
  clear c4
  replace H := yes_ H; obtain ⟨c5, H⟩ := H
  have c5b0 := eq_true c5
  have c5b1 := decide_eq_true c5
  clear c5
  obtain rfl := Option.some.inj H
  go_enter Tryz.func142, Tryz.ntmps142
  go_wp2
  go_ret
  exact ⟨by rfl, by repeat (exact Drawn0.refl _)⟩
 ·rw [if_neg c3] at H
  have c3b0 : decide ((a1.size : Int) ≤ (a0.size : Int)) = false := decide_eq_false c3
  have c3b1 : decide (a1.size ≤ a0.size) = false := decide_eq_false (fun h => c3 (Int.ofNat_le.mpr h))
  clear c3
  obtain rfl := Option.some.inj H
  go_enter Tryz.func142, Tryz.ntmps142
  go_wp2
  go_ret
  exact ⟨by rfl, by repeat (exact Drawn0.refl _)⟩
def strings_HasPrefix.f (a0 : ByteArray) (a1 : ByteArray) : Option (Bool) := (stringslite_HasPrefix.f a0 a1).bind fun t237 => (some t237)
theorem strings_HasPrefix.calls (a0 : ByteArray) (a1 : ByteArray) (r : Bool) (w : World) (h : strings_HasPrefix.f a0 a1 = some r) :
  Calls Tryz.prog 126 #[.string a0, .string a1] w fun e w' => e = .returned (.bool r) ∧ Drawn0 w w' := by
 have H : ((stringslite_HasPrefix.f a0 a1).bind fun t237 => (some t237)) = some r := h
 clear h
 replace H := Option.bind_eq_some_iff.mp H
 obtain ⟨t237, A30, H⟩ := H
 have A3 := Aside0.mk A30
 clear A30
 obtain rfl := Option.some.inj H
 go_enter Tryz.func126, Tryz.ntmps126
 go_wp2_with (((with_reducible refine gate_callee (f := 142) rfl ?_); refine goesL_ (some 7) rfl rfl Tryz.func142 (by kernel_rfl) rfl #[.string a0, .string a1] rfl (by (try simp only [List.map_toArray, List.map_cons, List.map_nil]); rfl) ?_; (with_reducible refine (stringslite_HasPrefix.calls a0 a1 t237 _ A3.out).mono ?_); rintro e w' ⟨rfl, ⟨nd, rfl⟩⟩; refine ⟨_, rfl, ?_⟩))
 go_ret
 exact ⟨by rfl, by repeat (first | exact Drawn0.refl _ | apply Drawn0.step)⟩
mutual
def p_DiffCleanupMerge.l0 : Nat → List (S93) → Int → Int → Int → List Int → Option ((List (S93)))
 | 0, _, _, _, _, _ => none
 | k + 1, x1, x5, x6, x7, x10 => if x5 < (x1.length : Int) then (if 0 ≤ x5 then (if ((rd_T93 x1 x5).f0) = 1 then (if ((rd_T93 x1 x5).f1).size ≤ 70368744177664 then ((some (runesOf ((rd_T93 x1 x5).f1) : List Int)).bind fun y243 => (if x10.length + y243.length < 35184372088832 then (p_DiffCleanupMerge.l0 k x1 (wrap64 (x5 + 1)) x6 (wrap64 (x7 + 1)) (x10 ++ y243)) else (none))) else (none)) else (if ((rd_T93 x1 x5).f0) = (-1) then (none) else (if ((rd_T93 x1 x5).f0) = 0 then (if (wrap64 (x6 + x7)) > 1 then (none) else (if x5 = 0 then (p_DiffCleanupMerge.l0 k x1 (wrap64 (x5 + 1)) 0 0 ([] : List Int)) else (if 0 ≤ (wrap64 (x5 - 1)) then (if (wrap64 (x5 - 1)) < (x1.length : Int) then (if ((rd_T93 x1 (wrap64 (x5 - 1))).f0) = 0 then (if ((rd_T93 x1 (wrap64 (x5 - 1))).f1).size + ((rd_T93 x1 x5).f1).size ≤ 9223372036854775807 then (if x5 ≤ (x1.length : Int) then (if 0 ≤ (wrap64 (x5 + 1)) then (if (wrap64 (x5 + 1)) ≤ (x1.length : Int) then (p_DiffCleanupMerge.l0 k ((x1.set ((wrap64 (x5 - 1)) : Int).toNat (⟨(rd_T93 x1 (wrap64 (x5 - 1))).f0, ((rd_T93 x1 (wrap64 (x5 - 1))).f1) ++ ((rd_T93 x1 x5).f1)⟩ : S93)).eraseIdx (x5 : Int).toNat) x5 0 0 ([] : List Int)) else (none)) else (none)) else (none)) else (none)) else (p_DiffCleanupMerge.l0 k x1 (wrap64 (x5 + 1)) 0 0 ([] : List Int))) else (none)) else (none)))) else (p_DiffCleanupMerge.l0 k x1 x5 x6 x7 x10)))) else (none)) else (if 0 ≤ (wrap64 ((x1.length : Int) - 1)) then (if (wrap64 ((x1.length : Int) - 1)) < (x1.length : Int) then (if (((rd_T93 x1 (wrap64 ((x1.length : Int) - 1))).f1).size : Int) = 0 then (none) else (p_DiffCleanupMerge.l1 k x1 1 false)) else (none)) else (none))
def p_DiffCleanupMerge.l1 : Nat → List (S93) → Int → Bool → Option ((List (S93)))
 | 0, _, _, _ => none
 | k + 1, x1, x5, x14 => if x5 < (wrap64 ((x1.length : Int) - 1)) then (if 0 ≤ (wrap64 (x5 - 1)) then (if (wrap64 (x5 - 1)) < (x1.length : Int) then (if ((rd_T93 x1 (wrap64 (x5 - 1))).f0) = 0 then (if 0 ≤ (wrap64 (x5 + 1)) then (if (wrap64 (x5 + 1)) < (x1.length : Int) then (p_DiffCleanupMerge.j2 k x1 x5 x14 (((rd_T93 x1 (wrap64 (x5 + 1))).f0) == 0)) else (none)) else (none)) else (p_DiffCleanupMerge.j2 k x1 x5 x14 false)) else (none)) else (none)) else (if x14 = true then (none) else (some x1))
def p_DiffCleanupMerge.j2 : Nat → List (S93) → Int → Bool → Bool → Option ((List (S93)))
 | 0, _, _, _, _ => none
 | k + 1, x1, x5, x14, x279 => if x279 = true then (if 0 ≤ x5 then (if x5 < (x1.length : Int) then (if 0 ≤ (wrap64 (x5 - 1)) then (if (wrap64 (x5 - 1)) < (x1.length : Int) then ((strings_HasSuffix.f ((rd_T93 x1 x5).f1) ((rd_T93 x1 (wrap64 (x5 - 1))).f1)).bind fun t269 => (if t269 = true then (none) else (if 0 ≤ (wrap64 (x5 + 1)) then (if (wrap64 (x5 + 1)) < (x1.length : Int) then ((strings_HasPrefix.f ((rd_T93 x1 x5).f1) ((rd_T93 x1 (wrap64 (x5 + 1))).f1)).bind fun t272 => (if t272 = true then (none) else (p_DiffCleanupMerge.l1 k x1 (wrap64 (x5 + 1)) x14))) else (none)) else (none)))) else (none)) else (none)) else (none)) else (none)) else (p_DiffCleanupMerge.l1 k x1 (wrap64 (x5 + 1)) x14)
def p_DiffCleanupMerge.f : Nat → Nat → List (S93) → Option ((List (S93)))
 | 0, _, _ => none
 | k + 1, a0, l1 => if l1.length < 5864062014805 then (p_DiffCleanupMerge.l0 k (l1 ++ [(⟨0, (⟨#[]⟩ : ByteArray)⟩ : S93)]) 0 0 0 ([] : List Int)) else (none)
end
def p_DiffCleanupMerge.T48 : Bool × List (List Nat × List Nat) := (true, [([], []), ([], []), ([1], [1]), ([0, 2], [0, 2]), ([3], [3]), ([4], [4]), ([], []), ([], []), ([6, 7], [6, 7]), ([8], [8]), ([9], [9]), ([5, 10], [5, 10]), ([0, 2, 0, 1, 2, 3, 4, 5, 6, 7, 8, 9, 10, 11], [0, 2]), ([12, 0, 1, 2, 3, 4, 5, 6, 7, 8, 9, 10, 11], [12]), ([13, 11, 0, 1, 2, 3, 4, 5, 6, 7, 8, 9, 10, 11], [11, 13])])
def p_DiffCleanupMerge.B48 : List Nat := [0, 0, 2, 7, 15, 31, 0, 0, 192, 448, 960, 2047, 4095, 8191, 16383]
theorem p_DiffCleanupMerge.tab48 : rtab .any (opsOf Tryz.f93 48) = p_DiffCleanupMerge.T48 := by kernel_rfl
theorem p_DiffCleanupMerge.bits48 : waitsOk p_DiffCleanupMerge.T48.2 p_DiffCleanupMerge.B48 = true := by kernel_rfl
def p_DiffCleanupMerge.T49 : Bool × List (List Nat × List Nat) := (true, [([], []), ([], []), ([0, 1], [0, 1]), ([], []), ([], []), ([4], [4]), ([3, 5], [3, 5]), ([2, 6], [2, 6]), ([7, 7, 0, 1, 2, 3, 4, 5, 6, 7], [0, 3, 7])])
def p_DiffCleanupMerge.B49 : List Nat := [0, 0, 3, 0, 0, 16, 56, 127, 255]
theorem p_DiffCleanupMerge.tab49 : rtab .any (opsOf Tryz.f93 49) = p_DiffCleanupMerge.T49 := by kernel_rfl
theorem p_DiffCleanupMerge.bits49 : waitsOk p_DiffCleanupMerge.T49.2 p_DiffCleanupMerge.B49 = true := by kernel_rfl
def p_DiffCleanupMerge.T61 : Bool × List (List Nat × List Nat) := (true, [([], []), ([], []), ([0, 1], [0, 1]), ([2], [2]), ([3], [3]), ([], []), ([], []), ([6], [6]), ([5, 7], [5, 7]), ([8], [8]), ([9], [9]), ([4, 10], [4, 10])])
def p_DiffCleanupMerge.B61 : List Nat := [0, 0, 3, 7, 15, 0, 0, 64, 224, 480, 992, 2047]
theorem p_DiffCleanupMerge.tab61 : rtab .any (opsOf Tryz.f93 61) = p_DiffCleanupMerge.T61 := by kernel_rfl
theorem p_DiffCleanupMerge.bits61 : waitsOk p_DiffCleanupMerge.T61.2 p_DiffCleanupMerge.B61 = true := by kernel_rfl
def p_DiffCleanupMerge.T66 : Bool × List (List Nat × List Nat) := (true, [([], []), ([], []), ([0, 1], [0, 1]), ([2], [2]), ([3], [3]), ([], []), ([], []), ([6], [6]), ([5, 7], [5, 7]), ([8], [8]), ([9], [9]), ([4, 10], [4, 10])])
def p_DiffCleanupMerge.B66 : List Nat := [0, 0, 3, 7, 15, 0, 0, 64, 224, 480, 992, 2047]
theorem p_DiffCleanupMerge.tab66 : rtab .any (opsOf Tryz.f93 66) = p_DiffCleanupMerge.T66 := by kernel_rfl
theorem p_DiffCleanupMerge.bits66 : waitsOk p_DiffCleanupMerge.T66.2 p_DiffCleanupMerge.B66 = true := by kernel_rfl
theorem p_DiffCleanupMerge.calls (k : Nat) : ∀ (a0 : Nat) (P1_ : Nat → Prop) (u9000_ : Value) (l1 : List (S93)) (r : List (S93)) (w0 w : World) (hB : Below w0.heap.size w0 w) (hd0 : DmpAt w0 a0) (ho1 : Kd.R k93 93 w w0.heap.size P1_ u9000_ l1) (h : p_DiffCleanupMerge.f k a0 l1 = some r),
  Calls Tryz.prog 93 #[.pointer (some ⟨a0, 0, none⟩), u9000_] w fun e w' => ∃ v0_ : Value, e = .returned (v0_) ∧ Kd.R k93 93 w' w0.heap.size (fun k_ => (P1_ k_ ∨ w.heap.size ≤ k_)) v0_ r ∧ Below w0.heap.size w0 w' ∧ Kept w w' (fun k_ => P1_ k_) := by
 induction k using Nat.strongRecOn with
 | _ k ih =>
 intro a0 P1_ u9000_ l1 r w0 w hB hd0 ho1 h
 cases k with
 | zero => exact absurd h (by simp [p_DiffCleanupMerge.f])
 | succ k =>
 simp only [p_DiffCleanupMerge.f] at h
 have hu93 := Tryz.underlying93
 have HD0 := Aside0.mk hd0
 clear hd0
 have HO1 := aS_ (show Kd.R k93 93 w w0.heap.size (fun k_ => (P1_ k_ ∨ w.heap.size ≤ k_)) u9000_ l1 from Kd.R_mono ho1 (fun k_ hk => (.inl hk)))
 have HK := aS_ (Kept.refl w (fun k_ => P1_ k_))
 have HW0 := Aside0.mk hB.size
 have HB := Aside0.mk hB
 clear hB
 have H : (if l1.length < 5864062014805 then (p_DiffCleanupMerge.l0 k (l1 ++ [(⟨0, (⟨#[]⟩ : ByteArray)⟩ : S93)]) 0 0 0 ([] : List Int)) else (none)) = some r := h
 clear h
 replace H := yes_ H; obtain ⟨c3, H⟩ := H
 have LMc3 := Aside0.mk c3
 clear c3
 obtain ⟨y238, hy238⟩ : ∃ y_ : List (S93), y_ = (l1 ++ [(⟨0, (⟨#[]⟩ : ByteArray)⟩ : S93)]) := ⟨_, rfl⟩
 replace H : (p_DiffCleanupMerge.l0 k y238 0 0 0 ([] : List Int)) = some r := by (rw [hy238]; with_reducible exact H)
 have Ny238 := Aside0.mk hy238
 clear hy238
 have H' := Aside0.mk H
 clear H
 go_enter Tryz.func93, Tryz.ntmps93
 go_wp2_with (((with_reducible refine gate_builtin (b := .append) (xs := #[.tmp 15, .tmp 17]) rfl ?_); at_builtin; refine Kd.R_append k93 (w0 := w0) w0.heap.size rfl (.tmp 15) (.tmp 17) 65 93 (.agg #[(.int .i8 0), (.string ⟨#[]⟩)]) 24 rfl Tryz.underlying65 info93 rfl (by decide) (by omega) u9000_ l1 (⟨0, (⟨#[]⟩ : ByteArray)⟩ : S93) [.int .i8 0, .string (⟨#[]⟩ : ByteArray)] (fun k_ => (P1_ k_ ∨ w.heap.size ≤ k_)) (fun _ => False) rfl rfl ?aP (fun _ hk => hk.elim) ?aF ?aO ?aB ?aS ?aL ?_; (case aP => exact k93_mkM _ _ _ (⟨0, (⟨#[]⟩ : ByteArray)⟩ : S93)); (case aB => exact (bel_ HB.out)); (case aF => exact (fun k_ hk => (.inr (Nat.le_trans (by exact HK.out.1) hk)))); (case aO => exact (Kd.R_st HO1.out)); (case aS => exact (bz_ (bel_ HB.out))); (case aL => have := LMc3.out; omega); intro v239 w4 ho hb hg hat; rw [← Ny238.out] at ho; replace HB := aS_ (hb); replace HK := aS_ (Kept.of_grown (S := (fun k_ => P1_ k_)) hg (by repeat ((with_reducible exact HK.out))) (fun k_ e_ => (HO1.out.1 k_ e_))); have HO240 := aS_ (ho); clear HO1; clear ho hb hg hat))
 go_loopg [1, 5, 6, 7, 10, 8] k (fun kq v1 v5 v6 v7 v10 v8 w' => ∃ (x1_1 : List (S93)) (x5_1 : Int) (x6_1 : Int) (x7_1 : Int) (x10_1 : List Int), v5 = .int .i64 x5_1 ∧ v6 = .int .i64 x6_1 ∧ v7 = .int .i64 x7_1 ∧ (.int .i64 0 : Value) = v8 ∧ Aside0 (p_DiffCleanupMerge.l0 kq x1_1 x5_1 x6_1 x7_1 x10_1 = some r) ∧ Aside0 (kq ≤ k) ∧ Aside0 (Kd.R k93 93 w' w0.heap.size (fun k_ => (P1_ k_ ∨ w.heap.size ≤ k_)) v1 x1_1) ∧ Aside0 (Kd.R (Kd.int .i32) 21 w' w0.heap.size (fun k_ => (P1_ k_ ∨ w.heap.size ≤ k_)) v10 x10_1) ∧ Aside0 (Kept w w' (fun k_ => P1_ k_)) ∧ Aside0 (Below w0.heap.size w0 w'))
 case atStart => exact ⟨(y238), (0), (0), (0), (([] : List Int)), (by rfl), (by rfl), (by rfl), (by rfl), H', ⟨Nat.le_refl _⟩, ⟨Kd.R_st HO240.out⟩, ⟨by exact Kd.R_nil _ _ _ _ _⟩, ⟨by repeat ((with_reducible exact HK.out))⟩, ⟨bel_ HB.out⟩⟩
 case round =>
  clear H'
  obtain ⟨x1_1, x5_1, x6_1, x7_1, x10_1, rfl, rfl, rfl, rfl, HA, HK1, HO_1, HO_10, HK, HB⟩ := hrel
  cases gk with
  | zero => exact absurd HA.out (by simp [p_DiffCleanupMerge.l0])
  | succ k1 =>
   have H := HA.out; clear HA
   simp only [p_DiffCleanupMerge.l0] at H
   by_cases c5 : x5_1 < (x1_1.length : Int)
   ·rw [if_pos c5] at H
    have c5b0 := decide_eq_true c5
    clear c5
    replace H := yes_ H; obtain ⟨c6, H⟩ := H
    have c6b0 := decide_eq_true c6
    clear c6
    by_cases c7 : ((rd_T93 x1_1 x5_1).f0) = 1
    ·rw [if_pos c7] at H
     have c7b0 := beq_iff_eq.mpr c7
     have c7b1 := bne_eq_false_iff_eq.mpr c7
     clear c7
     replace H := yes_ H; obtain ⟨c8, H⟩ := H
     have c8b0 := eq_true c8
     have c8b1 := decide_eq_true c8
     clear c8
     obtain ⟨y243, hy243, H⟩ := bindc_ H
     have Ny243 := Aside0.mk hy243
     clear hy243
     replace H := yes_ H; obtain ⟨c9, H⟩ := H
     have LMc9 := Aside0.mk c9
     clear c9
     obtain ⟨y246, hy246⟩ : ∃ y_ : List Int, y_ = (x10_1 ++ y243) := ⟨_, rfl⟩
     replace H : (p_DiffCleanupMerge.l0 k1 x1_1 (wrap64 (x5_1 + 1)) x6_1 (wrap64 (x7_1 + 1)) y246) = some r := by (rw [hy246]; with_reducible exact H)
     have Ny246 := Aside0.mk hy246
     clear hy246
     as_aux_lemma =>
      have H' := Aside0.mk H
      clear H
      obtain ⟨Ao10, co10, eo10⟩ := Kd.R_slice HO_1.out
      subst eo10
      have p241 : 0 ≤ (x5_1 : Int) := of_decide_eq_true (by assumption)
      have q241 : x5_1 < (x1_1.length : Int) := of_decide_eq_true (by assumption)
      obtain ⟨ad241, e241, hx241_0, hx241_1⟩ := at_T93 (Kd.R_reads' HO_1.out).2.2 x5_1 p241 q241
      cases e241
      replace p241 := eq_true p241
      replace q241 := eq_true q241
      have p242 : 0 ≤ (x5_1 : Int) := of_decide_eq_true (by assumption)
      have q242 : x5_1 < (x1_1.length : Int) := of_decide_eq_true (by assumption)
      obtain ⟨ad242, e242, hx242_0, hx242_1⟩ := at_T93 (Kd.R_reads' HO_1.out).2.2 x5_1 p242 q242
      obtain rfl : ad241 = ad242 := (by injection e242)
      replace p242 := eq_true p242
      replace q242 := eq_true q242
      go_wp2_with (first | ((with_reducible refine gate_dst (N := 38) rfl ?_); refine Kd.R_runes _ 21 rfl (N := 38) rfl 9 137 (.tmp 37) rfl ((rd_T93 x1_1 x5_1).f1) rfl Tryz.underlying9 Tryz.underlying137 Tryz.underlying21 (of_decide_eq_true (by assumption)) (ok := fun _ => True) (okp := fun _ => True) (fun _ hk => hk) (fun _ _ => trivial) (Below.refl _ _) (Nat.le_refl _) ?_; intro v244 w11 ho12 hb hg_ hnew_; clear hg_ hnew_; (rw [← Ny243.out] at ho12); replace HO_1 := aS_ (Kd.R_below (Kd.R_st HO_1.out) hb); have HO245 := aS_ (Kd.R_lower (Kd.R_new' (Kd.R_newM (M := fun k_ => (P1_ k_ ∨ w.heap.size ≤ k_)) ho12 (by exact HK.out.1) (fun k_ h_ => .inr h_)) (Kd.R_lt (Kd.R_st HO_10.out))) (bz_ (bel_ HB.out))); replace HO_10 := aS_ (Kd.R_elder' (Kd.R_st HO_10.out) (Kd.R_base ho12) hb); replace HK := aS_ (Kept.below (S := (fun k_ => P1_ k_)) (by repeat ((with_reducible exact HK.out))) hb); replace HB := aS_ (bt_ (bel_ HB.out) hb); clear hb ho12; obtain ⟨Ao14, co14, eo14⟩ := Kd.R_slice HO245.out; subst eo14) | ((with_reducible refine gate_builtin (b := .append) (xs := #[.tmp 32, .tmp 38]) rfl ?_); at_builtin; refine Kd.R_append_rows (Kd.int .i32) (w0 := w0) w0.heap.size rfl (.tmp 32) (.tmp 38) 137 21 (.int .i32 0) 4 rfl Tryz.underlying137 info21 rfl (by decide) (by omega) u10 x10_1 y243 _ _ _ (fun k_ => (P1_ k_ ∨ w.heap.size ≤ k_) ∧ some k_ ≠ (.slice Ao14 y243.length co14 : Value).ownBlock) (fun _ => False) rfl rfl ?aO ?aR (fun _ _ h => h) (fun _ h => h.elim) ?aF ?aB ?aS ?aL ?_; (case aR => repeat (exact (Kd.R_reads' HO245.out).2.2)); (case aB => exact (bel_ HB.out)); (case aF => exact (fun k_ hk => ⟨(.inr (Nat.le_trans (by exact HK.out.1) hk)), Kd.fresh' (Kd.R_lt (Kd.R_st HO245.out)) k_ hk⟩)); (case aO => exact (Kd.R_st HO_10.out)); (case aS => exact (bz_ (bel_ HB.out))); (case aL => have := LMc9.out; omega); intro v247 w13 ho hb hg hat; rw [← Ny246.out] at ho; replace HO_1 := aS_ (Kd.R_over' (Kd.R_st HO_1.out) (Kd.R_typed (Kd.R_st HO_10.out)) (by decide) hg); replace HO245 := aS_ (Kd.R_after (ok := (fun k_ => (P1_ k_ ∨ w.heap.size ≤ k_))) (Kd.R_st (Kd.R_mono HO245.out (fun _ hk => ⟨hk.1.1, hk.2⟩))) hg hat); replace HB := aS_ (hb); replace HK := aS_ (Kept.of_grown (S := (fun k_ => P1_ k_)) hg (by repeat ((with_reducible exact HK.out))) (fun k_ e_ => (HO_10.out.1 k_ e_).1)); have HO248 := aS_ (ho); clear HO_10; clear ho hb hg hat))
      go_roundg k1
      case measure => have := HK1.out; omega
      case rel => exact ⟨(x1_1), (wrap64 (x5_1 + 1)), (x6_1), (wrap64 (x7_1 + 1)), (y246), (by rfl), (by rfl), (by rfl), (by rfl), H', ⟨by have := HK1.out; omega⟩, ⟨Kd.R_st HO_1.out⟩, ⟨Kd.R_st (Kd.R_mono HO248.out (fun _ hk => hk.1))⟩, ⟨by repeat ((with_reducible exact HK.out))⟩, ⟨bel_ HB.out⟩⟩
    ·rw [if_neg c7] at H
     have c7b0 := beq_eq_false_iff_ne.mpr c7
     have c7b1 := bne_iff_ne.mpr c7
     by_cases c15 : ((rd_T93 x1_1 x5_1).f0) = (-1)
     ·rw [if_pos c15] at H
      exact absurd H (by simp)
     ·rw [if_neg c15] at H
      have c15b0 := beq_eq_false_iff_ne.mpr c15
      have c15b1 := bne_iff_ne.mpr c15
      by_cases c16 : ((rd_T93 x1_1 x5_1).f0) = 0
      ·rw [if_pos c16] at H
       have c16b0 := beq_iff_eq.mpr c16
       have c16b1 := bne_eq_false_iff_eq.mpr c16
       clear c16
       by_cases c17 : (wrap64 (x6_1 + x7_1)) > 1
       ·rw [if_pos c17] at H
        exact absurd H (by simp)
       ·rw [if_neg c17] at H
        have c17b0 : decide (1 < (wrap64 (x6_1 + x7_1))) = false := decide_eq_false c17
        clear c17
        by_cases c18 : x5_1 = 0
        ·rw [if_pos c18] at H
         have c18b0 := beq_iff_eq.mpr c18
         have c18b1 := bne_eq_false_iff_eq.mpr c18
         clear c18
         as_aux_lemma =>
          have H' := Aside0.mk H
          clear H
          obtain ⟨Ao19, co19, eo19⟩ := Kd.R_slice HO_1.out
          subst eo19
          have p241 : 0 ≤ (x5_1 : Int) := of_decide_eq_true (by assumption)
          have q241 : x5_1 < (x1_1.length : Int) := of_decide_eq_true (by assumption)
          obtain ⟨ad241, e241, hx241_0, hx241_1⟩ := at_T93 (Kd.R_reads' HO_1.out).2.2 x5_1 p241 q241
          cases e241
          replace p241 := eq_true p241
          replace q241 := eq_true q241
          go_wp2
          go_roundg k1
          case measure => have := HK1.out; omega
          case rel => exact ⟨(x1_1), (wrap64 (x5_1 + 1)), (0), (0), (([] : List Int)), (by rfl), (by rfl), (by rfl), (by rfl), H', ⟨by have := HK1.out; omega⟩, ⟨Kd.R_st HO_1.out⟩, ⟨by exact Kd.R_nil _ _ _ _ _⟩, ⟨by repeat ((with_reducible exact HK.out))⟩, ⟨bel_ HB.out⟩⟩
        ·rw [if_neg c18] at H
         have c18b0 := beq_eq_false_iff_ne.mpr c18
         have c18b1 := bne_iff_ne.mpr c18
         obtain ⟨ji20, hji20⟩ : ∃ j_ : Int, (wrap64 (x5_1 - 1)) = j_ := ⟨_, rfl⟩
         rw [hji20] at H
         have hji20w : (IntKind.i64.wrap (x5_1 - 1)) = ji20 := (i64_w _).trans hji20
         replace H := yes_ H; obtain ⟨c21, H⟩ := H
         have c21b0 := decide_eq_true c21
         clear c21
         replace H := yes_ H; obtain ⟨c22, H⟩ := H
         have c22b0 := decide_eq_true c22
         clear c22
         by_cases c23 : ((rd_T93 x1_1 (ji20)).f0) = 0
         ·rw [if_pos c23] at H
          have c23b0 := beq_iff_eq.mpr c23
          have c23b1 := bne_eq_false_iff_eq.mpr c23
          clear c23
          replace H := yes_ H; obtain ⟨c24, H⟩ := H
          have c24b0 := eq_true c24
          have c24b1 := decide_eq_true c24
          try have c24b2 : (9223372036854775807 < ((rd_T93 x1_1 (ji20)).f1).size + ((rd_T93 x1_1 x5_1).f1).size) = False := eq_false (Nat.not_lt.2 c24)
          obtain ⟨y252, hy252⟩ : ∃ y_ : List (S93), y_ = (x1_1.set ((ji20) : Int).toNat (⟨(rd_T93 x1_1 (ji20)).f0, ((rd_T93 x1_1 (ji20)).f1) ++ ((rd_T93 x1_1 x5_1).f1)⟩ : S93)) := ⟨_, rfl⟩
          replace H : (if x5_1 ≤ (x1_1.length : Int) then (if 0 ≤ (wrap64 (x5_1 + 1)) then (if (wrap64 (x5_1 + 1)) ≤ (x1_1.length : Int) then (p_DiffCleanupMerge.l0 k1 (y252.eraseIdx (x5_1 : Int).toNat) x5_1 0 0 ([] : List Int)) else (none)) else (none)) else (none)) = some r := by (rw [hy252]; with_reducible exact H)
          have Ny252 := Aside0.mk hy252
          clear hy252
          have c26b0 := eq_true (of_decide_eq_true (by assumption) : 0 ≤ x5_1)
          replace H := yes_ H; obtain ⟨c27, H⟩ := H
          have c27b0 := eq_true c27
          have c27b1 := decide_eq_true c27
          clear c27
          obtain ⟨y253, hy253⟩ : ∃ y_ : List (S93), y_ = (y252.take (x5_1 : Int).toNat) := ⟨_, rfl⟩
          replace H : (if 0 ≤ (wrap64 (x5_1 + 1)) then (if (wrap64 (x5_1 + 1)) ≤ (x1_1.length : Int) then (p_DiffCleanupMerge.l0 k1 (y252.eraseIdx (x5_1 : Int).toNat) x5_1 0 0 ([] : List Int)) else (none)) else (none)) = some r := by with_reducible exact H
          have Ny253 := Aside0.mk hy253
          clear hy253
          obtain ⟨ji28, hji28⟩ : ∃ j_ : Int, (wrap64 (x5_1 + 1)) = j_ := ⟨_, rfl⟩
          rw [hji28] at H
          have hji28w : (IntKind.i64.wrap (x5_1 + 1)) = ji28 := (i64_w _).trans hji28
          replace H := yes_ H; obtain ⟨c29, H⟩ := H
          have c29b0 := eq_true c29
          have c29b1 := decide_eq_true c29
          clear c29
          replace H := yes_ H; obtain ⟨c30, H⟩ := H
          have c30b0 := eq_true c30
          have c30b1 := decide_eq_true c30
          clear c30
          obtain ⟨y257, hy257⟩ : ∃ y_ : List (S93), y_ = (y252.drop ((ji28) : Int).toNat) := ⟨_, rfl⟩
          replace H : (p_DiffCleanupMerge.l0 k1 (y252.eraseIdx (x5_1 : Int).toNat) x5_1 0 0 ([] : List Int)) = some r := by (have H2_ := (Option.bind_some _ _).symm.trans H; with_reducible exact H2_)
          have Ny257 := Aside0.mk hy257
          clear hy257
          obtain ⟨y261, hy261⟩ : ∃ y_ : List (S93), y_ = (y252.eraseIdx (x5_1 : Int).toNat) := ⟨_, rfl⟩
          replace H : (p_DiffCleanupMerge.l0 k1 y261 x5_1 0 0 ([] : List Int)) = some r := by (rw [hy261]; with_reducible exact H)
          have Ny261 := Aside0.mk hy261
          clear hy261
          as_aux_lemma =>
           have H' := Aside0.mk H
           clear H
           obtain ⟨Ao31, co31, eo31⟩ := Kd.R_slice HO_1.out
           subst eo31
           have p241 : 0 ≤ (x5_1 : Int) := of_decide_eq_true (by assumption)
           have q241 : x5_1 < (x1_1.length : Int) := of_decide_eq_true (by assumption)
           obtain ⟨ad241, e241, hx241_0, hx241_1⟩ := at_T93 (Kd.R_reads' HO_1.out).2.2 x5_1 p241 q241
           cases e241
           replace p241 := eq_true p241
           replace q241 := eq_true q241
           have p249 : 0 ≤ ((ji20) : Int) := of_decide_eq_true (by assumption)
           have q249 : (ji20) < (x1_1.length : Int) := of_decide_eq_true (by assumption)
           obtain ⟨ad249, e249, hx249_0, hx249_1⟩ := at_T93 (Kd.R_reads' HO_1.out).2.2 (ji20) p249 q249
           obtain rfl : ad241 = ad249 := (by injection e249)
           replace p249 := eq_true p249
           replace q249 := eq_true q249
           try go_wp2
           replace HO_1 := aS_ (Kd.R_drew HO_1.out)
           replace HO_10 := aS_ (Kd.R_drew HO_10.out)
           replace HK := aS_ (Kept.drew HK.out)
           replace HB := aS_ (bD_ HB.out)
           have p250 : 0 ≤ ((ji20) : Int) := of_decide_eq_true (by assumption)
           have q250 : (ji20) < (x1_1.length : Int) := of_decide_eq_true (by assumption)
           obtain ⟨ad250, e250, hx250_0, hx250_1⟩ := at_T93 (Kd.R_reads' HO_1.out).2.2 (ji20) p250 q250
           obtain rfl : ad241 = ad250 := (by injection e250)
           replace p250 := eq_true p250
           replace q250 := eq_true q250
           have p251 : 0 ≤ (x5_1 : Int) := of_decide_eq_true (by assumption)
           have q251 : x5_1 < (x1_1.length : Int) := of_decide_eq_true (by assumption)
           obtain ⟨ad251, e251, hx251_0, hx251_1⟩ := at_T93 (Kd.R_reads' HO_1.out).2.2 x5_1 p251 q251
           obtain rfl : ad241 = ad251 := (by injection e251)
           replace p251 := eq_true p251
           replace q251 := eq_true q251
           have p25 : 0 ≤ ((ji20) : Int) := of_decide_eq_true (by assumption)
           have q25 : ((ji20) : Int) < ((x1_1.length : Int) : Int) := of_decide_eq_true (by assumption)
           obtain ⟨go25, co25, eo25, gb25, gl25, cl25, HG25⟩ := Kd.R_form HO_1.out (by omega)
           (cases eo25)
           have GB25 := Aside0.mk gb25
           have GG25 := Aside0.mk HG25
           clear gb25 gl25 HG25
           have HMgo25 := aS_ (show (P1_ go25 ∨ w.heap.size ≤ go25) from (HO_1.out.1 _ rfl))
           (simp only [add_plain] at hx241_0)
           (simp only [add_plain] at hx241_1)
           (simp only [add_plain] at hx249_0)
           (simp only [add_plain] at hx249_1)
           (simp only [add_plain] at hx250_0)
           (simp only [add_plain] at hx250_1)
           (simp only [add_plain] at hx251_0)
           (simp only [add_plain] at hx251_1)
           obtain ⟨ce25, hcl25, hM25, hcc25, hfr25⟩ := Kd.R_elem HO_1.out z93 ((ji20) : Int) p25 q25
           obtain rfl := k93_openM hM25
           have hx25_0 : World.cell? _ ⟨go25, ((ji20) : Int).toNat * 2, none⟩ = some (.int .i8 ((rd_T93 x1_1 (ji20)).f0)) := hcc25 0 _ rfl
           have hx25_1 : World.cell? _ ⟨go25, ((ji20) : Int).toNat * 2 + 1, none⟩ = some (.string ((rd_T93 x1_1 (ji20)).f1)) := hcc25 1 _ rfl
           have hf25_0 : World.frozen? _ ⟨go25, ((ji20) : Int).toNat * 2, none⟩ = false := hfr25 0
           have hf25_1 : World.frozen? _ ⟨go25, ((ji20) : Int).toNat * 2 + 1, none⟩ = false := hfr25 1
           clear hcl25 hcc25 hfr25 hM25
           replace p25 := eq_true p25
           replace q25 := eq_true q25
           obtain ⟨ce33, hcl33, hM33, hcc33, hfr33⟩ := Kd.R_elem HO_1.out z93 ((ji20) : Int) (of_decide_eq_true (by assumption)) (by have h_ : ((ji20) : Int) < ((x1_1.length : Int) : Int) := of_decide_eq_true (by assumption); exact h_)
           obtain rfl := k93_openM hM33
           have HP33 := (Kd.R_seg HO_1.out ((ji20) : Int) (of_decide_eq_true (by assumption)) (by have h_ : ((ji20) : Int) < ((x1_1.length : Int) : Int) := of_decide_eq_true (by assumption); exact h_) (seg := [.string (((rd_T93 x1_1 (ji20)).f1) ++ ((rd_T93 x1_1 x5_1).f1))]) (j := 1) hcl33 hcc33 (show 2 ≤ 2 from by decide) (x' := (⟨(rd_T93 x1_1 (ji20)).f0, ((rd_T93 x1_1 (ji20)).f1) ++ ((rd_T93 x1_1 x5_1).f1)⟩ : S93)) (k93_mkM _ _ _ (⟨(rd_T93 x1_1 (ji20)).f0, ((rd_T93 x1_1 (ji20)).f1) ++ ((rd_T93 x1_1 x5_1).f1)⟩ : S93) ) (fun _ hk => hk)).1
           rw [← Ny252.out] at HP33
           have HQ33 := Aside0.mk HP33
           clear hcl33 hcc33 hfr33 hM33 HP33
           refine sA_ (fun w' => w'.cell? ⟨go25, (((ji20)).toNat * 2), none⟩ = some (.int .i8 ((rd_T93 x1_1 (ji20)).f0)) ∧ w'.cell? ⟨go25, (((ji20)).toNat * 2) + 1, none⟩ = some (.string ((rd_T93 x1_1 (ji20)).f1)) ∧ w'.cell? ⟨go25, ((x5_1).toNat * 2), none⟩ = some (.int .i8 ((rd_T93 x1_1 x5_1).f0)) ∧ w'.cell? ⟨go25, ((x5_1).toNat * 2) + 1, none⟩ = some (.string ((rd_T93 x1_1 x5_1).f1))) [14] p_DiffCleanupMerge.tab48 p_DiffCleanupMerge.bits48 ⟨hx250_0, hx250_1, hx251_0, hx251_1⟩ (fun hHeld HT_ HW_ => ?_)
           (have hx242_0 : True := trivial)
           (have hx242_1 : True := trivial)
           generalize wr.drew = w32 at HO_1 HO_10 HK HB GG25 HQ33 hf25_0 hf25_1 hx241_0 hx241_1 hx242_0 hx242_1 hx249_0 hx249_1 hx250_0 hx250_1 hx251_0 hx251_1 hx25_0 hx25_1 hHeld ⊢
           refine pA_ 0 (h:=pA_ 1 (h:=pA_ 2 (h:=pA_ 3 (h:=pA_ 4 (h:=pA_ 6 (h:=pA_ 7 (h:=pA_ 8 (h:=pA_ 9 (h:=tA_ 5 (h:=tA_ 10 (h:=pA_ 11 (h:=pA_ 12 (h:=pA_ 13 (h:=?_))))))))))))))
           refine lA_ 14 none (h:=fun K hK => ?_)
           refine skip_ (w1 := ?_) (by rfl) rfl ?_ ?_
           rotate_left
           ·go_simp
            rfl
           refine hK.out _ _ ?_
           clear hK K
           refine done_ (done_of HT_.out (by kernel_rfl)) ?_
           try go_wp2
           have n0_ : Aside0 (Kd.R k93 93 (w32.setCell ⟨go25, ((ji20) : Int).toNat * 2 + 1, none⟩ (.string (((rd_T93 x1_1 (ji20)).f1) ++ ((rd_T93 x1_1 x5_1).f1)))) w0.heap.size (fun k_ => (P1_ k_ ∨ w.heap.size ≤ k_)) (.slice (some ⟨go25, 0, none⟩) x1_1.length co31) y252) := ⟨by (with_reducible skip); exact HQ33.out⟩
           have n1_ : Aside0 (Kd.R (Kd.int .i32) 21 (w32.setCell ⟨go25, ((ji20) : Int).toNat * 2 + 1, none⟩ (.string (((rd_T93 x1_1 (ji20)).f1) ++ ((rd_T93 x1_1 x5_1).f1)))) w0.heap.size (fun k_ => (P1_ k_ ∨ w.heap.size ≤ k_)) u10 x10_1) := ⟨Kd.R_st (Kd.R_mono (Kd.R_far (p := ⟨go25, ((ji20) : Int).toNat * 2 + 1, none⟩) (Kd.R_types HO_10.out GG25.out (by decide)) (fun _ hk => hk.2) (.string (((rd_T93 x1_1 (ji20)).f1) ++ ((rd_T93 x1_1 x5_1).f1)))) (fun _ hk => hk.1))⟩
           have n2_ : Aside0 (Kept w (w32.setCell ⟨go25, ((ji20) : Int).toNat * 2 + 1, none⟩ (.string (((rd_T93 x1_1 (ji20)).f1) ++ ((rd_T93 x1_1 x5_1).f1)))) (fun k_ => P1_ k_)) := ⟨by repeat ((with_reducible first | exact HK.out | refine Kept.setCell ?_ HMgo25.out _))⟩
           have n3_ : Aside0 (Below w0.heap.size w0 (w32.setCell ⟨go25, ((ji20) : Int).toNat * 2 + 1, none⟩ (.string (((rd_T93 x1_1 (ji20)).f1) ++ ((rd_T93 x1_1 x5_1).f1))))) := ⟨by with_reducible repeat first | exact HB.out | refine bS_ ?_ GB25.out⟩
           generalize (w32.setCell ⟨go25, ((ji20) : Int).toNat * 2 + 1, none⟩ (.string (((rd_T93 x1_1 (ji20)).f1) ++ ((rd_T93 x1_1 x5_1).f1)))) = w34 at n0_ n1_ n2_ n3_ ⊢
           have HO_1 := n0_
           have HO_10 := n1_
           have HK := n2_
           have HB := n3_
           clear n0_ n1_ n2_ n3_
           replace HO_1 := aS_ (Kd.R_drew HO_1.out)
           replace HO_10 := aS_ (Kd.R_drew HO_10.out)
           replace HK := aS_ (Kept.drew HK.out)
           replace HB := aS_ (bD_ HB.out)
           have hlx36 := (Kd.R_reads' HO_1.out).1
           have q36 : (x5_1 : Int) ≤ ((x1_1.length : Int) : Int) := of_decide_eq_true (by assumption)
           obtain ⟨i036, hi036, _, hsz36, _⟩ := info_parts info93
           have hroom36 : x1_1.length ≤ co31 := (Kd.R_reads' HO_1.out).2.1
           have hroomc36 : y252.length ≤ co31 := (by rw [← hlx36]; exact hroom36)
           have hC36 : Kd.C k93 _ (some ⟨go25, 0, none⟩) y252.length y252 := (Kd.R_reads' HO_1.out).2.2
           have hcut36 := cut_to (P := Tryz.prog) 65 93 .i64 Tryz.underlying65 hi036 (some ⟨go25, 0, none⟩) x1_1.length co31 x5_1 (of_decide_eq_true (by assumption)) q36 hroom36
           have hr36 := Kd.C_take (m := (x5_1 : Int).toNat) hC36 (by omega)
           have hy36 : y253.length = (x5_1 : Int).toNat := (by rw [Ny253.out, List.length_take]; omega)
           rw [← Ny253.out] at hr36
           rw [← hy36] at hcut36
           have HR256 := Aside0.mk hr36
           have HC256 := aS_ (show y253.length ≤ co31 from by omega)
           clear hr36 hC36 hroom36 hi036 hsz36 hroomc36
           have KY36 := Aside0.mk hy36
           clear hy36
           have KE36 := Aside0.mk hlx36
           have KL36 := aS_ (show (x5_1 : Int).toNat ≤ y252.length from by omega)
           clear hlx36
           replace q36 := eq_true q36
           have hlx37 := (Kd.R_reads' HO_1.out).1
           have q37 : ((ji28) : Int) ≤ ((x1_1.length : Int) : Int) := of_decide_eq_true (by assumption)
           obtain ⟨i037, hi037, _, hsz37, _⟩ := info_parts info93
           have hroom37 : x1_1.length ≤ co31 := (Kd.R_reads' HO_1.out).2.1
           have hroomc37 : y252.length ≤ co31 := (by rw [← hlx37]; exact hroom37)
           have hC37 : Kd.C k93 _ (some ⟨go25, 0, none⟩) y252.length y252 := (Kd.R_reads' HO_1.out).2.2
           have q037 : (0 : Int) ≤ ((ji28) : Int) := of_decide_eq_true (by assumption)
           have hcut37 := cut_from (P := Tryz.prog) 65 93 .i64 Tryz.underlying65 hi037 2 hsz37 (some ⟨go25, 0, none⟩) x1_1.length co31 (ji28) q037 q37
           have hr37 := Kd.C_drop (m := ((ji28) : Int).toNat) (c := co31) hC37 (by omega) hroomc37
           obtain ⟨A37, hA37⟩ : ∃ A1, A1 = (if co31 = ((ji28) : Int).toNat then (some ⟨go25, 0, none⟩) else ((some ⟨go25, 0, none⟩) : Option Addr).map (·.add (((ji28) : Int).toNat * 2))) := ⟨_, rfl⟩
           obtain ⟨c37, hc37⟩ : ∃ c1, c1 = co31 - ((ji28) : Int).toNat := ⟨_, rfl⟩
           have hy37 : y257.length = x1_1.length - ((ji28) : Int).toNat := (by rw [Ny257.out, List.length_drop] <;> omega)
           rw [show (y252).drop ((ji28) : Int).toNat = y257 from Ny257.out.symm] at hr37
           replace hr37 : Kd.C k93 _ A37 y257.length y257 := (by rw [hA37]; exact hr37)
           rw [← hy37, ← hA37, ← hc37] at hcut37
           have HR260 := Aside0.mk hr37
           have HC260 := aS_ (show y257.length ≤ c37 from by rw [hy37, hc37]; exact Nat.sub_le_sub_right hroom37 _)
           clear hr37 hC37 hroom37 hi037 hsz37 hc37 hroomc37
           have KY37 := Aside0.mk hy37
           have KA37 := Aside0.mk hA37
           clear hy37 hA37
           have KE37 := Aside0.mk hlx37
           have KL37 := aS_ (show ((ji28) : Int).toNat ≤ y252.length from by omega)
           clear hlx37
           replace q37 := eq_true q37
           refine sA_ (fun w' => True) [] p_DiffCleanupMerge.tab49 p_DiffCleanupMerge.bits49 trivial (fun hHeld HT_ HW_ => ?_)
           generalize w34.drew = w35 at HO_1 HO_10 HK HB HQ33 HR256 HR260 hHeld ⊢
           refine pA_ 0 (h:=pA_ 1 (h:=pA_ 2 (h:=pA_ 3 (h:=pA_ 4 (h:=pA_ 5 (h:=pA_ 6 (h:=?_)))))))
           refine oA_ 7 (some 242) (h:=fun K hK => ?_)
           have hj_ : 0 ≤ (x5_1 : Int) := of_decide_eq_true (by assumption)
           have hl_ : (ji28 : Int) ≤ (x1_1.length : Int) := of_decide_eq_true (by assumption)
           have hh_ : (x5_1 : Int) ≤ (x1_1.length : Int) := of_decide_eq_true (by assumption)
           have hb_ := (Kd.R_reads' HO_1.out).2.2.2.1
           have h0_ : (0 : Int) ≤ (ji28 : Int) := of_decide_eq_true (by assumption)
           have hy1_ := KY36.out
           have hk_ : (ji28 : Int).toNat = y253.length + 1 := (by have hw_ : (ji28 : Int) = x5_1 + 1 := (by have h2_ : x5_1 < (x1_1.length : Int) := (of_decide_eq_true (by assumption)); have h3_ : y252.length = x1_1.length := (by rw [Ny252.out]; simp); have h00_ := h0_; rw [← hji28]; unfold wrap64; omega); rw [hw_]; omega)
           refine Kd.R_delete_step k93 (w0 := w0) w0.heap.size (by rfl) (.tmp 237) (.tmp 241) 65 93 rfl Tryz.underlying65 (by kernel_rfl) (g := go25) (n := x1_1.length) (c := co31) (k := y253.length) rfl rfl ?hA ?hm (Kd.R_st HO_1.out) ?hk (bel_ HB.out) (bz_ (bel_ HB.out)) ?_
           (case hA => have ha_ := KA37.out; rw [hk_] at ha_; exact ha_)
           (case hm => have ha_ := KY37.out; omega)
           (case hk => omega)
           intro w38 ho hb hg
           clear hj_ hl_ hh_ hb_ hk_ h0_
           rw [hy1_, ← Ny261.out] at ho
           clear hy1_
           have hn_ : x1_1.length - 1 = y261.length := (by have := (Kd.R_reads' ho).1; omega)
           rw [hn_] at ho ⊢
           clear hn_
           replace HO_10 := aS_ (Kd.R_over' (v := (.slice (some ⟨go25, 0, none⟩) x1_1.length co31)) (Kd.R_st HO_10.out) (Kd.R_typed HO_1.out) (by decide) hg)
           replace HB := aS_ (hb)
           replace HK := aS_ (Kept.of_grown (S := (fun k_ => P1_ k_)) hg (by repeat ((with_reducible exact HK.out))) (fun k_ e_ => (HO_1.out.1 k_ e_)))
           replace HO_1 := aS_ (ho)
           clear ho hb hg
           refine hK.out _ _ trivial (fun hHeld => ?_)
           clear hK K
           refine nA_ (h:=?_)
           refine pA_ 8 (h:=?_)
           refine done_ (done_of HT_.out (by kernel_rfl)) ?_
           try go_wp2
           go_roundg k1
           case measure => have := HK1.out; omega
           case rel => exact ⟨(y261), (x5_1), (0), (0), (([] : List Int)), (by rfl), (by rfl), (by rfl), (by rfl), H', ⟨by have := HK1.out; omega⟩, ⟨Kd.R_st HO_1.out⟩, ⟨by exact Kd.R_nil _ _ _ _ _⟩, ⟨by repeat ((with_reducible exact HK.out))⟩, ⟨bel_ HB.out⟩⟩
         ·rw [if_neg c23] at H
          have c23b0 := beq_eq_false_iff_ne.mpr c23
          have c23b1 := bne_iff_ne.mpr c23
          as_aux_lemma =>
           have H' := Aside0.mk H
           clear H
           obtain ⟨Ao40, co40, eo40⟩ := Kd.R_slice HO_1.out
           subst eo40
           have p241 : 0 ≤ (x5_1 : Int) := of_decide_eq_true (by assumption)
           have q241 : x5_1 < (x1_1.length : Int) := of_decide_eq_true (by assumption)
           obtain ⟨ad241, e241, hx241_0, hx241_1⟩ := at_T93 (Kd.R_reads' HO_1.out).2.2 x5_1 p241 q241
           cases e241
           replace p241 := eq_true p241
           replace q241 := eq_true q241
           have p249 : 0 ≤ ((ji20) : Int) := of_decide_eq_true (by assumption)
           have q249 : (ji20) < (x1_1.length : Int) := of_decide_eq_true (by assumption)
           obtain ⟨ad249, e249, hx249_0, hx249_1⟩ := at_T93 (Kd.R_reads' HO_1.out).2.2 (ji20) p249 q249
           obtain rfl : ad241 = ad249 := (by injection e249)
           replace p249 := eq_true p249
           replace q249 := eq_true q249
           go_wp2
           go_roundg k1
           case measure => have := HK1.out; omega
           case rel => exact ⟨(x1_1), (wrap64 (x5_1 + 1)), (0), (0), (([] : List Int)), (by rfl), (by rfl), (by rfl), (by rfl), H', ⟨by have := HK1.out; omega⟩, ⟨Kd.R_st HO_1.out⟩, ⟨by exact Kd.R_nil _ _ _ _ _⟩, ⟨by repeat ((with_reducible exact HK.out))⟩, ⟨bel_ HB.out⟩⟩
      ·rw [if_neg c16] at H
       have c16b0 := beq_eq_false_iff_ne.mpr c16
       have c16b1 := bne_iff_ne.mpr c16
       as_aux_lemma =>
        have H' := Aside0.mk H
        clear H
        obtain ⟨Ao41, co41, eo41⟩ := Kd.R_slice HO_1.out
        subst eo41
        have p241 : 0 ≤ (x5_1 : Int) := of_decide_eq_true (by assumption)
        have q241 : x5_1 < (x1_1.length : Int) := of_decide_eq_true (by assumption)
        obtain ⟨ad241, e241, hx241_0, hx241_1⟩ := at_T93 (Kd.R_reads' HO_1.out).2.2 x5_1 p241 q241
        cases e241
        replace p241 := eq_true p241
        replace q241 := eq_true q241
        go_wp2
        go_roundg k1
        case measure => have := HK1.out; omega
        case rel => exact ⟨(x1_1), (x5_1), (x6_1), (x7_1), (x10_1), (by rfl), (by rfl), (by rfl), (by rfl), H', ⟨by have := HK1.out; omega⟩, ⟨Kd.R_st HO_1.out⟩, ⟨Kd.R_st HO_10.out⟩, ⟨by repeat ((with_reducible exact HK.out))⟩, ⟨bel_ HB.out⟩⟩
   ·rw [if_neg c5] at H
    have c5b0 := decide_eq_false c5
    clear c5
    obtain ⟨ji42, hji42⟩ : ∃ j_ : Int, (wrap64 ((x1_1.length : Int) - 1)) = j_ := ⟨_, rfl⟩
    rw [hji42] at H
    have hji42w : (IntKind.i64.wrap ((x1_1.length : Int) - 1)) = ji42 := (i64_w _).trans hji42
    replace H := yes_ H; obtain ⟨c43, H⟩ := H
    have c43b0 := decide_eq_true c43
    clear c43
    replace H := yes_ H; obtain ⟨c44, H⟩ := H
    have c44b0 := decide_eq_true c44
    clear c44
    by_cases c45 : (((rd_T93 x1_1 (ji42)).f1).size : Int) = 0
    ·rw [if_pos c45] at H
     exact absurd H (by simp)
    ·rw [if_neg c45] at H
     have c45b0 := beq_eq_false_iff_ne.mpr c45
     have c45b1 := bne_iff_ne.mpr c45
     have H' := Aside0.mk H
     clear H
     obtain ⟨Ao46, co46, eo46⟩ := Kd.R_slice HO_1.out
     subst eo46
     have p264 : 0 ≤ ((ji42) : Int) := of_decide_eq_true (by assumption)
     have q264 : (ji42) < (x1_1.length : Int) := of_decide_eq_true (by assumption)
     obtain ⟨ad264, e264, hx264_0, hx264_1⟩ := at_T93 (Kd.R_reads' HO_1.out).2.2 (ji42) p264 q264
     cases e264
     replace p264 := eq_true p264
     replace q264 := eq_true q264
     go_wp2
     go_loopg [5, 1, 14] k1 (fun kq v5 v1 v14 w' => ∃ (x5_2 : Int), v5 = .int .i64 x5_2 ∧ (.slice (some ad264) x1_1.length co46 : Value) = v1 ∧ (.bool false : Value) = v14 ∧ Aside0 (p_DiffCleanupMerge.l1 kq x1_1 x5_2 false = some r) ∧ Aside0 (kq ≤ k1) ∧ Aside0 (Kd.R k93 93 w' w0.heap.size (fun k_ => (P1_ k_ ∨ w.heap.size ≤ k_)) (.slice (some ad264) x1_1.length co46) x1_1) ∧ Aside0 (Kept w w' (fun k_ => P1_ k_)) ∧ Aside0 (Below w0.heap.size w0 w'))
     case atStart => exact ⟨(1), (by rfl), (by rfl), (by rfl), H', ⟨Nat.le_refl _⟩, ⟨Kd.R_st HO_1.out⟩, ⟨by repeat ((with_reducible exact HK.out))⟩, ⟨bel_ HB.out⟩⟩
     case round =>
      clear H'
      obtain ⟨x5_2, rfl, rfl, rfl, HA, HK2, HO_1, HK, HB⟩ := hrel
      cases gk with
      | zero => exact absurd HA.out (by simp [p_DiffCleanupMerge.l1])
      | succ k2 =>
       have H := HA.out; clear HA
       simp only [p_DiffCleanupMerge.l1] at H
       by_cases c47 : x5_2 < (wrap64 ((x1_1.length : Int) - 1))
       ·rw [if_pos c47] at H
        have c47b0 := decide_eq_true c47
        clear c47
        (try (have c47r0 := c47b0; rw [hji42] at c47r0))
        have HC48 := Aside0.mk H
        clear H
        go_upto_region 60 with (fail)
        go_cut [279] (fun v279 wc => ∃ (kq : Nat) (x279_47 : Bool), v279 = .bool x279_47 ∧ Aside0 (p_DiffCleanupMerge.j2 kq x1_1 x5_2 false x279_47 = some r) ∧ Aside0 (kq ≤ k2) ∧ Aside0 (Kd.R k93 93 wc w0.heap.size (fun k_ => (P1_ k_ ∨ w.heap.size ≤ k_)) (.slice (some ad264) x1_1.length co46) x1_1) ∧ Aside0 (Kept w wc (fun k_ => P1_ k_)) ∧ Aside0 (Below w0.heap.size w0 wc))
        case first =>
         have H := HC48.out
         clear HC48
         obtain ⟨ji49, hji49⟩ : ∃ j_ : Int, (wrap64 (x5_2 - 1)) = j_ := ⟨_, rfl⟩
         rw [hji49] at H
         have hji49w : (IntKind.i64.wrap (x5_2 - 1)) = ji49 := (i64_w _).trans hji49
         replace H := yes_ H; obtain ⟨c50, H⟩ := H
         have c50b0 := decide_eq_true c50
         clear c50
         replace H := yes_ H; obtain ⟨c51, H⟩ := H
         have c51b0 := decide_eq_true c51
         clear c51
         by_cases c52 : ((rd_T93 x1_1 (ji49)).f0) = 0
         ·rw [if_pos c52] at H
          have c52b0 := beq_iff_eq.mpr c52
          have c52b1 := bne_eq_false_iff_eq.mpr c52
          clear c52
          obtain ⟨ji53, hji53⟩ : ∃ j_ : Int, (wrap64 (x5_2 + 1)) = j_ := ⟨_, rfl⟩
          rw [hji53] at H
          have hji53w : (IntKind.i64.wrap (x5_2 + 1)) = ji53 := (i64_w _).trans hji53
          replace H := yes_ H; obtain ⟨c54, H⟩ := H
          have c54b0 := decide_eq_true c54
          clear c54
          replace H := yes_ H; obtain ⟨c55, H⟩ := H
          have c55b0 := decide_eq_true c55
          clear c55
          as_aux_lemma =>
           have H' := Aside0.mk H
           clear H
           have p265 : 0 ≤ ((ji49) : Int) := of_decide_eq_true (by assumption)
           have q265 : (ji49) < (x1_1.length : Int) := of_decide_eq_true (by assumption)
           obtain ⟨ad265, e265, hx265_0, hx265_1⟩ := at_T93 (Kd.R_reads' HO_1.out).2.2 (ji49) p265 q265
           obtain rfl : ad264 = ad265 := (by injection e265)
           replace p265 := eq_true p265
           replace q265 := eq_true q265
           have p266 : 0 ≤ ((ji53) : Int) := of_decide_eq_true (by assumption)
           have q266 : (ji53) < (x1_1.length : Int) := of_decide_eq_true (by assumption)
           obtain ⟨ad266, e266, hx266_0, hx266_1⟩ := at_T93 (Kd.R_reads' HO_1.out).2.2 (ji53) p266 q266
           obtain rfl : ad264 = ad266 := (by injection e266)
           replace p266 := eq_true p266
           replace q266 := eq_true q266
           go_wp2
           go_meet
           case rel => exact ⟨_, ((((rd_T93 x1_1 (ji53)).f0) == 0)), (by rfl), H', ⟨by have := HK1.out; have := HK2.out; omega⟩, ⟨Kd.R_st HO_1.out⟩, ⟨by repeat ((with_reducible exact HK.out))⟩, ⟨bel_ HB.out⟩⟩
         ·rw [if_neg c52] at H
          have c52b0 := beq_eq_false_iff_ne.mpr c52
          have c52b1 := bne_iff_ne.mpr c52
          as_aux_lemma =>
           have H' := Aside0.mk H
           clear H
           have p265 : 0 ≤ ((ji49) : Int) := of_decide_eq_true (by assumption)
           have q265 : (ji49) < (x1_1.length : Int) := of_decide_eq_true (by assumption)
           obtain ⟨ad265, e265, hx265_0, hx265_1⟩ := at_T93 (Kd.R_reads' HO_1.out).2.2 (ji49) p265 q265
           obtain rfl : ad264 = ad265 := (by injection e265)
           replace p265 := eq_true p265
           replace q265 := eq_true q265
           go_wp2
           go_meet
           case rel => exact ⟨_, (false), (by rfl), H', ⟨by have := HK1.out; have := HK2.out; omega⟩, ⟨Kd.R_st HO_1.out⟩, ⟨by repeat ((with_reducible exact HK.out))⟩, ⟨bel_ HB.out⟩⟩
        case rest =>
         clear HC48
         obtain ⟨kq, x279_47, rfl, HA, HJ47, HO_1, HK, HB⟩ := hcut
         cases kq with
         | zero => exact absurd HA.out (by simp [p_DiffCleanupMerge.j2])
         | succ kj47 =>
          have H := HA.out; clear HA
          simp only [p_DiffCleanupMerge.j2] at H
          by_cases c56 : x279_47 = true
          ·subst c56
           rw [if_pos rfl] at H
           replace H := yes_ H; obtain ⟨c57, H⟩ := H
           have c57b0 := decide_eq_true c57
           clear c57
           replace H := yes_ H; obtain ⟨c58, H⟩ := H
           have c58b0 := decide_eq_true c58
           clear c58
           obtain ⟨ji59, hji59⟩ : ∃ j_ : Int, (wrap64 (x5_2 - 1)) = j_ := ⟨_, rfl⟩
           rw [hji59] at H
           have hji59w : (IntKind.i64.wrap (x5_2 - 1)) = ji59 := (i64_w _).trans hji59
           replace H := yes_ H; obtain ⟨c60, H⟩ := H
           have c60b0 := decide_eq_true c60
           clear c60
           replace H := yes_ H; obtain ⟨c61, H⟩ := H
           have c61b0 := decide_eq_true c61
           clear c61
           replace H := Option.bind_eq_some_iff.mp H
           obtain ⟨t269, A620, H⟩ := H
           have A62 := Aside0.mk A620
           clear A620
           by_cases c63 : t269 = true
           ·subst c63
            rw [if_pos rfl] at H
            exact absurd H (by simp)
           ·replace c63 := Bool.eq_false_iff.mpr c63
            subst c63
            rw [if_neg (show ¬ (false = true) by decide)] at H
            obtain ⟨ji64, hji64⟩ : ∃ j_ : Int, (wrap64 (x5_2 + 1)) = j_ := ⟨_, rfl⟩
            rw [hji64] at H
            have hji64w : (IntKind.i64.wrap (x5_2 + 1)) = ji64 := (i64_w _).trans hji64
            replace H := yes_ H; obtain ⟨c65, H⟩ := H
            have c65b0 := decide_eq_true c65
            clear c65
            replace H := yes_ H; obtain ⟨c66, H⟩ := H
            have c66b0 := decide_eq_true c66
            clear c66
            replace H := Option.bind_eq_some_iff.mp H
            obtain ⟨t272, A670, H⟩ := H
            have A67 := Aside0.mk A670
            clear A670
            by_cases c68 : t272 = true
            ·subst c68
             rw [if_pos rfl] at H
             exact absurd H (by simp)
            ·replace c68 := Bool.eq_false_iff.mpr c68
             subst c68
             rw [if_neg (show ¬ (false = true) by decide)] at H
             as_aux_lemma =>
              have H' := Aside0.mk H
              clear H
              try go_wp2
              replace HO_1 := aS_ (Kd.R_drew HO_1.out)
              replace HK := aS_ (Kept.drew HK.out)
              replace HB := aS_ (bD_ HB.out)
              have p267 : 0 ≤ (x5_2 : Int) := of_decide_eq_true (by assumption)
              have q267 : x5_2 < (x1_1.length : Int) := of_decide_eq_true (by assumption)
              obtain ⟨ad267, e267, hx267_0, hx267_1⟩ := at_T93 (Kd.R_reads' HO_1.out).2.2 x5_2 p267 q267
              obtain rfl : ad264 = ad267 := (by injection e267)
              replace p267 := eq_true p267
              replace q267 := eq_true q267
              have p268 : 0 ≤ ((ji59) : Int) := of_decide_eq_true (by assumption)
              have q268 : (ji59) < (x1_1.length : Int) := of_decide_eq_true (by assumption)
              obtain ⟨ad268, e268, hx268_0, hx268_1⟩ := at_T93 (Kd.R_reads' HO_1.out).2.2 (ji59) p268 q268
              obtain rfl : ad264 = ad268 := (by injection e268)
              replace p268 := eq_true p268
              replace q268 := eq_true q268
              refine sA_ (fun w' => w'.cell? (ad264.add ((x5_2).toNat * 2)) = some (.int .i8 ((rd_T93 x1_1 x5_2).f0)) ∧ w'.cell? ⟨(ad264.add ((x5_2).toNat * 2)).block, (ad264.add ((x5_2).toNat * 2)).off + 1, none⟩ = some (.string ((rd_T93 x1_1 x5_2).f1)) ∧ w'.cell? (ad264.add (((ji59)).toNat * 2)) = some (.int .i8 ((rd_T93 x1_1 (ji59)).f0)) ∧ w'.cell? ⟨(ad264.add (((ji59)).toNat * 2)).block, (ad264.add (((ji59)).toNat * 2)).off + 1, none⟩ = some (.string ((rd_T93 x1_1 (ji59)).f1))) [] p_DiffCleanupMerge.tab61 p_DiffCleanupMerge.bits61 ⟨hx267_0, hx267_1, hx268_0, hx268_1⟩ (fun hHeld HT_ HW_ => ?_)
              generalize wc.drew = w69 at HO_1 HK HB hx267_0 hx267_1 hx268_0 hx268_1 hHeld ⊢
              refine pA_ 0 (h:=pA_ 1 (h:=pA_ 2 (h:=pA_ 3 (h:=pA_ 5 (h:=pA_ 6 (h:=pA_ 7 (h:=pA_ 8 (h:=pA_ 9 (h:=tA_ 4 (h:=tA_ 10 (h:=?_)))))))))))
              refine oA_ 11 (some 291) (h:=fun K hK => ?_)
              refine goes_ Tryz.func125 (by kernel_rfl) rfl #[.string ((rd_T93 x1_1 x5_2).f1), .string ((rd_T93 x1_1 (ji59)).f1)] (by rfl) rfl rfl (by (try simp only [List.map_toArray, List.map_cons, List.map_nil]); rfl) ?_
              with_reducible refine (strings_HasSuffix.calls ((rd_T93 x1_1 x5_2).f1) ((rd_T93 x1_1 (ji59)).f1) false _ A62.out).mono ?_
              rintro e w' ⟨rfl, ⟨nd, rfl⟩⟩
              refine ⟨_, rfl, ?_⟩
              refine hK.out _ _ ⟨hHeld.1, hHeld.2.1, hHeld.2.2.1, hHeld.2.2.2⟩ (fun hHeld => ?_)
              clear hK K
              refine nA_ (h:=?_)
              refine done_ (done_of HT_.out (by kernel_rfl)) ?_
              try go_wp2
              (try (rw [drewN_self w69]; generalize hq_ : World.drewN w69 _ = w69; have n0_ : Aside0 (Kd.R k93 93 w69 w0.heap.size (fun k_ => (P1_ k_ ∨ w.heap.size ≤ k_)) (.slice (some ad264) x1_1.length co46) x1_1) := ⟨by rw [← hq_]; exact (Kd.R_st HO_1.out)⟩; have n1_ : Aside0 (Kept w w69 (fun k_ => P1_ k_)) := ⟨by rw [← hq_]; exact (by repeat ((with_reducible first | exact HK.out | apply Kept.drewN)))⟩; have n2_ : Aside0 (Below w0.heap.size w0 w69) := ⟨by rw [← hq_]; exact (bel_ HB.out)⟩; clear HO_1 HK HB hq_; have HO_1 := n0_; have HK := n1_; have HB := n2_; clear n0_ n1_ n2_))
              replace HO_1 := aS_ (Kd.R_drew HO_1.out)
              replace HK := aS_ (Kept.drew HK.out)
              replace HB := aS_ (bD_ HB.out)
              have p270 : 0 ≤ (x5_2 : Int) := of_decide_eq_true (by assumption)
              have q270 : x5_2 < (x1_1.length : Int) := of_decide_eq_true (by assumption)
              obtain ⟨ad270, e270, hx270_0, hx270_1⟩ := at_T93 (Kd.R_reads' HO_1.out).2.2 x5_2 p270 q270
              obtain rfl : ad264 = ad270 := (by injection e270)
              replace p270 := eq_true p270
              replace q270 := eq_true q270
              have p271 : 0 ≤ ((ji64) : Int) := of_decide_eq_true (by assumption)
              have q271 : (ji64) < (x1_1.length : Int) := of_decide_eq_true (by assumption)
              obtain ⟨ad271, e271, hx271_0, hx271_1⟩ := at_T93 (Kd.R_reads' HO_1.out).2.2 (ji64) p271 q271
              obtain rfl : ad264 = ad271 := (by injection e271)
              replace p271 := eq_true p271
              replace q271 := eq_true q271
              refine sA_ (fun w' => w'.cell? (ad264.add ((x5_2).toNat * 2)) = some (.int .i8 ((rd_T93 x1_1 x5_2).f0)) ∧ w'.cell? ⟨(ad264.add ((x5_2).toNat * 2)).block, (ad264.add ((x5_2).toNat * 2)).off + 1, none⟩ = some (.string ((rd_T93 x1_1 x5_2).f1)) ∧ w'.cell? (ad264.add (((ji64)).toNat * 2)) = some (.int .i8 ((rd_T93 x1_1 (ji64)).f0)) ∧ w'.cell? ⟨(ad264.add (((ji64)).toNat * 2)).block, (ad264.add (((ji64)).toNat * 2)).off + 1, none⟩ = some (.string ((rd_T93 x1_1 (ji64)).f1))) [] p_DiffCleanupMerge.tab66 p_DiffCleanupMerge.bits66 ⟨hx270_0, hx270_1, hx271_0, hx271_1⟩ (fun hHeld HT_ HW_ => ?_)
              generalize w69.drew = w70 at HO_1 HK HB hx270_0 hx270_1 hx271_0 hx271_1 hHeld ⊢
              refine pA_ 0 (h:=pA_ 1 (h:=pA_ 2 (h:=pA_ 3 (h:=pA_ 5 (h:=pA_ 6 (h:=pA_ 7 (h:=pA_ 8 (h:=pA_ 9 (h:=tA_ 4 (h:=tA_ 10 (h:=?_)))))))))))
              refine oA_ 11 (some 356) (h:=fun K hK => ?_)
              refine goes_ Tryz.func126 (by kernel_rfl) rfl #[.string ((rd_T93 x1_1 x5_2).f1), .string ((rd_T93 x1_1 (ji64)).f1)] (by rfl) rfl rfl (by (try simp only [List.map_toArray, List.map_cons, List.map_nil]); rfl) ?_
              with_reducible refine (strings_HasPrefix.calls ((rd_T93 x1_1 x5_2).f1) ((rd_T93 x1_1 (ji64)).f1) false _ A67.out).mono ?_
              rintro e w' ⟨rfl, ⟨nd, rfl⟩⟩
              refine ⟨_, rfl, ?_⟩
              refine hK.out _ _ ⟨hHeld.1, hHeld.2.1, hHeld.2.2.1, hHeld.2.2.2⟩ (fun hHeld => ?_)
              clear hK K
              refine nA_ (h:=?_)
              refine done_ (done_of HT_.out (by kernel_rfl)) ?_
              try go_wp2
              go_roundg kj47
              case measure => have := HK1.out; have := HK2.out; have := HJ47.out; omega
              case rel => exact ⟨(ji64), (by rfl), (by rfl), (by rfl), H', ⟨by have := HK1.out; have := HK2.out; have := HJ47.out; omega⟩, ⟨Kd.R_st HO_1.out⟩, ⟨by repeat ((with_reducible first | exact HK.out | apply Kept.drewN))⟩, ⟨bel_ HB.out⟩⟩
          ·replace c56 := Bool.eq_false_iff.mpr c56
           subst c56
           rw [if_neg (show ¬ (false = true) by decide)] at H
           as_aux_lemma =>
            have H' := Aside0.mk H
            clear H
            go_wp2
            go_roundg kj47
            case measure => have := HK1.out; have := HK2.out; have := HJ47.out; omega
            case rel => exact ⟨(wrap64 (x5_2 + 1)), (by rfl), (by rfl), (by rfl), H', ⟨by have := HK1.out; have := HK2.out; have := HJ47.out; omega⟩, ⟨Kd.R_st HO_1.out⟩, ⟨by repeat ((with_reducible exact HK.out))⟩, ⟨bel_ HB.out⟩⟩
       ·rw [if_neg c47] at H
        have c47b0 := decide_eq_false c47
        clear c47
        (try (have c47r0 := c47b0; rw [hji42] at c47r0))
        rw [if_neg (show ¬ (false = true) by decide)] at H
        as_aux_lemma =>
         obtain rfl := Option.some.inj H
         go_wp2
         go_ret
         exact ⟨_, by rfl, Kd.R_st HO_1.out, bel_ HB.out, by repeat ((with_reducible exact HK.out))⟩
def q_runesEqual.l0 : Nat → List Int → List Int → Int → Int → Option (Bool)
 | 0, _, _, _, _ => none
 | k + 1, x1, x12, x13, x14 => if x14 < x13 then (if 0 ≤ x14 then (if x14 < (x12.length : Int) then (if x14 < (x1.length : Int) then (if (rd x12 x14) = (rd x1 x14) then (q_runesEqual.l0 k x1 x12 x13 (wrap64 (x14 + 1))) else (some false)) else (none)) else (none)) else (none)) else (some true)
def q_runesEqual.f (k : Nat) (l0 : List Int) (l1 : List Int) : Option (Bool) := if (l0.length : Int) = (l1.length : Int) then (q_runesEqual.l0 k l1 l0 (l0.length : Int) 0) else (some false)
theorem q_runesEqual.calls (k : Nat) (A0 : Option Addr) (c0 : Nat) (l0 : List Int) (A1 : Option Addr) (c1 : Nat) (l1 : List Int) (r : Bool) (w : World) (hr0 : Kd.C (Kd.int .i32) w A0 l0.length l0) (hc0 : l0.length ≤ c0) (hr1 : Kd.C (Kd.int .i32) w A1 l1.length l1) (hc1 : l1.length ≤ c1) (h : q_runesEqual.f k l0 l1 = some r) :
  Calls Tryz.prog 138 #[.slice A0 l0.length c0, .slice A1 l1.length c1] w fun e w' => e = .returned (.bool r) ∧ Drawn0 w w' := by
 have HR0 := Aside0.mk hr0
 have HC0 := Aside0.mk hc0
 clear hr0 hc0
 have HR1 := Aside0.mk hr1
 have HC1 := Aside0.mk hc1
 clear hr1 hc1
 have H : (if (l0.length : Int) = (l1.length : Int) then (q_runesEqual.l0 k l1 l0 (l0.length : Int) 0) else (some false)) = some r := h
 clear h
 by_cases c3 : (l0.length : Int) = (l1.length : Int)
 ·rw [if_pos c3] at H
  have c3b0 := beq_iff_eq.mpr c3
  have c3b1 := bne_eq_false_iff_eq.mpr c3
  have c3b2 : (l0.length == l1.length) = true := by (simp at c3 ⊢; omega)
  clear c3
  have H' := Aside0.mk H
  clear H
  go_enter Tryz.func138, Tryz.ntmps138
  go_wp2
  go_loopg [14] k (fun kq v14 w' => ∃ (x14_1 : Int), v14 = .int .i64 x14_1 ∧ Aside0 (q_runesEqual.l0 kq l1 l0 (l0.length : Int) x14_1 = some r) ∧ Aside0 (kq ≤ k) ∧ Drawn0 w w')
  case atStart => exact ⟨(0), (by rfl), H', ⟨Nat.le_refl _⟩, by repeat (exact Drawn0.refl _)⟩
  case round =>
   clear H'
   obtain ⟨x14_1, rfl, HA, HK1, ⟨m1, rfl⟩⟩ := hrel
   cases gk with
   | zero => exact absurd HA.out (by simp [q_runesEqual.l0])
   | succ k1 =>
    have H := HA.out; clear HA
    simp only [q_runesEqual.l0] at H
    by_cases c4 : x14_1 < (l0.length : Int)
    ·rw [if_pos c4] at H
     have c4b0 := decide_eq_true c4
     clear c4
     replace H := yes_ H; obtain ⟨c5, H⟩ := H
     have c5b0 := decide_eq_true c5
     clear c5
     replace H := yes_ H; obtain ⟨c6, H⟩ := H
     have c6b0 := decide_eq_true c6
     clear c6
     replace H := yes_ H; obtain ⟨c7, H⟩ := H
     have c7b0 := decide_eq_true c7
     clear c7
     by_cases c8 : (rd l0 x14_1) = (rd l1 x14_1)
     ·rw [if_pos c8] at H
      have c8b0 := beq_iff_eq.mpr c8
      have c8b1 := bne_eq_false_iff_eq.mpr c8
      clear c8
      have H' := Aside0.mk H
      clear H
      have p273 : 0 ≤ (x14_1 : Int) := of_decide_eq_true (by assumption)
      have q273 : x14_1 < (l0.length : Int) := of_decide_eq_true (by assumption)
      obtain ⟨ad273, e273, hx273_0⟩ := Kd.at_int HR0.out x14_1 p273 q273
      cases e273
      replace p273 := eq_true p273
      replace q273 := eq_true q273
      have p274 : 0 ≤ (x14_1 : Int) := of_decide_eq_true (by assumption)
      have q274 : x14_1 < (l1.length : Int) := of_decide_eq_true (by assumption)
      obtain ⟨ad274, e274, hx274_0⟩ := Kd.at_int HR1.out x14_1 p274 q274
      cases e274
      replace p274 := eq_true p274
      replace q274 := eq_true q274
      go_wp2
      go_roundg k1
      case measure => have := HK1.out; omega
      case rel => exact ⟨(wrap64 (x14_1 + 1)), (by rfl), H', ⟨by have := HK1.out; omega⟩, by repeat (first | exact Drawn0.refl _ | apply Drawn0.step)⟩
     ·rw [if_neg c8] at H
      have c8b0 := beq_eq_false_iff_ne.mpr c8
      have c8b1 := bne_iff_ne.mpr c8
      obtain rfl := Option.some.inj H
      have p273 : 0 ≤ (x14_1 : Int) := of_decide_eq_true (by assumption)
      have q273 : x14_1 < (l0.length : Int) := of_decide_eq_true (by assumption)
      obtain ⟨ad273, e273, hx273_0⟩ := Kd.at_int HR0.out x14_1 p273 q273
      cases e273
      replace p273 := eq_true p273
      replace q273 := eq_true q273
      have p274 : 0 ≤ (x14_1 : Int) := of_decide_eq_true (by assumption)
      have q274 : x14_1 < (l1.length : Int) := of_decide_eq_true (by assumption)
      obtain ⟨ad274, e274, hx274_0⟩ := Kd.at_int HR1.out x14_1 p274 q274
      cases e274
      replace p274 := eq_true p274
      replace q274 := eq_true q274
      go_wp2
      go_ret
      exact ⟨by rfl, by repeat (first | exact Drawn0.refl _ | apply Drawn0.step)⟩
    ·rw [if_neg c4] at H
     have c4b0 := decide_eq_false c4
     clear c4
     obtain rfl := Option.some.inj H
     go_wp2
     go_ret
     exact ⟨by rfl, by repeat (first | exact Drawn0.refl _ | apply Drawn0.step)⟩
 ·rw [if_neg c3] at H
  have c3b0 := beq_eq_false_iff_ne.mpr c3
  have c3b1 := bne_iff_ne.mpr c3
  have c3b2 : (l0.length == l1.length) = false := by (simp at c3 ⊢; omega)
  obtain rfl := Option.some.inj H
  go_enter Tryz.func138, Tryz.ntmps138
  go_wp2
  go_ret
  exact ⟨by rfl, by repeat (exact Drawn0.refl _)⟩
def p_diffCompute.f (a0 : Nat) (l1 : List Int) (l2 : List Int) (a3 : Bool) : Option ((List (S93))) := (some (([] : List (S93)) : List (S93))).bind fun y532 => (if (l1.length : Int) = 0 then (if y532.length < 5864062014805 then (some (y532 ++ [(⟨1, runesBytes l2⟩ : S93)])) else (none)) else (if (l2.length : Int) = 0 then (none) else (none)))
theorem p_diffCompute.calls (a0 : Nat) (A1 : Option Addr) (c1 : Nat) (l1 : List Int) (A2 : Option Addr) (c2 : Nat) (l2 : List Int) (a3 : Bool) (r : List (S93)) (w : World) (hd0 : DmpAt w a0) (hr1 : Kd.C (Kd.int .i32) w A1 l1.length l1) (hc1 : l1.length ≤ c1) (hr2 : Kd.C (Kd.int .i32) w A2 l2.length l2) (hc2 : l2.length ≤ c2) (h : p_diffCompute.f a0 l1 l2 a3 = some r) :
  Calls Tryz.prog 139 #[.pointer (some ⟨a0, 0, none⟩), .slice A1 l1.length c1, .slice A2 l2.length c2, .bool a3] w fun e w' => ∃ v0_ : Value, e = .returned (v0_) ∧ Kd.R k93 93 w' w.heap.size (fun _ => True) v0_ r ∧ Below w.heap.size w w' := by
 have hu93 := Tryz.underlying93
 have HD0 := Aside0.mk hd0
 clear hd0
 have HR1 := Aside0.mk hr1
 have HC1 := Aside0.mk hc1
 clear hr1 hc1
 have HR2 := Aside0.mk hr2
 have HC2 := Aside0.mk hc2
 clear hr2 hc2
 have HB := aS_ (Below.refl w.heap.size w)
 have H : ((some (([] : List (S93)) : List (S93))).bind fun y532 => (if (l1.length : Int) = 0 then (if y532.length < 5864062014805 then (some (y532 ++ [(⟨1, runesBytes l2⟩ : S93)])) else (none)) else (if (l2.length : Int) = 0 then (none) else (none)))) = some r := h
 clear h
 obtain ⟨y532, hy532, H⟩ := bindc_ H
 have Ny532 := Aside0.mk hy532
 clear hy532
 by_cases c5 : (l1.length : Int) = 0
 ·rw [if_pos c5] at H
  have c5b0 := beq_iff_eq.mpr c5
  have c5b1 := bne_eq_false_iff_eq.mpr c5
  clear c5
  replace H := yes_ H; obtain ⟨c6, H⟩ := H
  have LMc6 := Aside0.mk c6
  clear c6
  obtain ⟨y535, hy535⟩ : ∃ y_ : List (S93), y_ = (y532 ++ [(⟨1, runesBytes l2⟩ : S93)]) := ⟨_, rfl⟩
  replace H : (some y535) = some r := by (rw [hy535]; with_reducible exact H)
  have Ny535 := Aside0.mk hy535
  clear hy535
  obtain rfl := Option.some.inj H
  go_enter Tryz.func139, Tryz.ntmps139
  go_wp2_with (first | ((with_reducible refine gate_dst (N := 23) rfl ?_); refine Kd.R_lit k93 _ 93 ?hg (N := 23) ?hd (xs := ([] : List (S93))) (inner := []) (ok := fun _ => True) (okp := fun _ => True) ?hr ?hp (fun _ hk => hk) trivial (Below.refl _ _) (Nat.le_refl _) (by simp) ?_; (case hd => rfl); (case hg => rfl); (case hr => (go_simp; done)); (case hp => exact (Reps.none _ _)); intro v533 w7 ho8 hb hg_ hnew_; clear hg_ hnew_; (rw [← Ny532.out] at ho8); have HO534 := aS_ (Kd.R_lower ho8 (bz_ (bel_ HB.out))); replace HB := aS_ (bt_ (bel_ HB.out) hb); clear hb ho8; have hcv9 := Kd.C_runes (P := Tryz.prog) (A := A2) (c := c2) Tryz.underlying137 Tryz.underlying21 Tryz.underlying9 (Kd.C_below HR2.out HB.out)) | ((with_reducible refine gate_builtin (b := .append) (xs := #[.tmp 27, .tmp 31]) rfl ?_); at_builtin; refine Kd.R_append k93 (w0 := w) w.heap.size rfl (.tmp 27) (.tmp 31) 65 93 (.agg #[(.int .i8 0), (.string ⟨#[]⟩)]) 24 rfl Tryz.underlying65 info93 rfl (by decide) (by omega) v533 y532 (⟨1, runesBytes l2⟩ : S93) [.int .i8 1, .string (runesBytes l2)] (fun _ => True) (fun _ => False) rfl rfl ?aP (fun _ hk => hk.elim) ?aF ?aO ?aB ?aS ?aL ?_; (case aP => exact k93_mkM _ _ _ (⟨1, runesBytes l2⟩ : S93)); (case aB => exact (bel_ HB.out)); (case aF => exact (fun _ _ => trivial)); (case aO => exact (Kd.R_st HO534.out)); (case aS => exact (bz_ (bel_ HB.out))); (case aL => have := LMc6.out; omega); intro v536 w10 ho hb hg hat; rw [← Ny535.out] at ho; replace HB := aS_ (hb); have HO537 := aS_ (ho); clear HO534; clear ho hb hg hat))
  go_ret
  exact ⟨_, by rfl, Kd.R_st HO537.out, bel_ HB.out⟩
 ·rw [if_neg c5] at H
  have c5b0 := beq_eq_false_iff_ne.mpr c5
  have c5b1 := bne_iff_ne.mpr c5
  have c5b2 : ¬ (l1 = []) := fun h_ => c5 (by rw [h_]; rfl)
  replace H := yes_ H; obtain ⟨c11, H⟩ := H
  exact absurd H (by simp)
def p_diffMainRunes.f (k : Nat) (a0 : Nat) (l1 : List Int) (l2 : List Int) (a3 : Bool) : Option ((List (S93))) := (q_runesEqual.f k l1 l2).bind fun t538 => (if t538 = true then (none) else ((q_commonPrefixLength.f k l1 l2).bind fun t539 => (if 0 ≤ t539 then (if t539 ≤ (l1.length : Int) then (if t539 ≤ (l2.length : Int) then ((q_commonSuffixLength.f k (l1.drop (t539 : Int).toNat) (l2.drop (t539 : Int).toNat)).bind fun t543 => (if 0 ≤ (wrap64 (((l1.drop (t539 : Int).toNat).length : Int) - t543)) then (if (wrap64 (((l1.drop (t539 : Int).toNat).length : Int) - t543)) ≤ ((l1.drop (t539 : Int).toNat).length : Int) then (if 0 ≤ (wrap64 (((l2.drop (t539 : Int).toNat).length : Int) - t543)) then (if (wrap64 (((l2.drop (t539 : Int).toNat).length : Int) - t543)) ≤ ((l2.drop (t539 : Int).toNat).length : Int) then ((p_diffCompute.f a0 ((l1.drop (t539 : Int).toNat).take ((wrap64 (((l1.drop (t539 : Int).toNat).length : Int) - t543)) : Int).toNat) ((l2.drop (t539 : Int).toNat).take ((wrap64 (((l2.drop (t539 : Int).toNat).length : Int) - t543)) : Int).toNat) a3).bind fun t547 => (if ((l1.take (t539 : Int).toNat).length : Int) = 0 then (none) else ((some (([(⟨0, runesBytes (l1.take (t539 : Int).toNat)⟩ : S93)] : List (S93)) : List (S93))).bind fun y550 => (if y550.length + t547.length < 5864062014805 then ((some (y550 ++ t547 : List (S93))).bind fun y553 => (if (((l1.drop (t539 : Int).toNat).drop ((wrap64 (((l1.drop (t539 : Int).toNat).length : Int) - t543)) : Int).toNat).length : Int) = 0 then (none) else (if y553.length < 5864062014805 then ((p_DiffCleanupMerge.f k a0 (y553 ++ [(⟨0, runesBytes ((l1.drop (t539 : Int).toNat).drop ((wrap64 (((l1.drop (t539 : Int).toNat).length : Int) - t543)) : Int).toNat)⟩ : S93)])).bind fun t559 => (some t559)) else (none)))) else (none))))) else (none)) else (none)) else (none)) else (none))) else (none)) else (none)) else (none))))
theorem p_diffMainRunes.calls (k : Nat) (a0 : Nat) (A1 : Option Addr) (c1 : Nat) (l1 : List Int) (A2 : Option Addr) (c2 : Nat) (l2 : List Int) (a3 : Bool) (r : List (S93)) (w : World) (hd0 : DmpAt w a0) (hr1 : Kd.C (Kd.int .i32) w A1 l1.length l1) (hc1 : l1.length ≤ c1) (hr2 : Kd.C (Kd.int .i32) w A2 l2.length l2) (hc2 : l2.length ≤ c2) (h : p_diffMainRunes.f k a0 l1 l2 a3 = some r) :
  Calls Tryz.prog 116 #[.pointer (some ⟨a0, 0, none⟩), .slice A1 l1.length c1, .slice A2 l2.length c2, .bool a3] w fun e w' => ∃ v0_ : Value, e = .returned (v0_) ∧ Kd.R k93 93 w' w.heap.size (fun _ => True) v0_ r ∧ Below w.heap.size w w' := by
 have hu93 := Tryz.underlying93
 have HD0 := Aside0.mk hd0
 clear hd0
 have HR1 := Aside0.mk hr1
 have HC1 := Aside0.mk hc1
 clear hr1 hc1
 have HR2 := Aside0.mk hr2
 have HC2 := Aside0.mk hc2
 clear hr2 hc2
 have HB := aS_ (Below.refl w.heap.size w)
 have H : ((q_runesEqual.f k l1 l2).bind fun t538 => (if t538 = true then (none) else ((q_commonPrefixLength.f k l1 l2).bind fun t539 => (if 0 ≤ t539 then (if t539 ≤ (l1.length : Int) then (if t539 ≤ (l2.length : Int) then ((q_commonSuffixLength.f k (l1.drop (t539 : Int).toNat) (l2.drop (t539 : Int).toNat)).bind fun t543 => (if 0 ≤ (wrap64 (((l1.drop (t539 : Int).toNat).length : Int) - t543)) then (if (wrap64 (((l1.drop (t539 : Int).toNat).length : Int) - t543)) ≤ ((l1.drop (t539 : Int).toNat).length : Int) then (if 0 ≤ (wrap64 (((l2.drop (t539 : Int).toNat).length : Int) - t543)) then (if (wrap64 (((l2.drop (t539 : Int).toNat).length : Int) - t543)) ≤ ((l2.drop (t539 : Int).toNat).length : Int) then ((p_diffCompute.f a0 ((l1.drop (t539 : Int).toNat).take ((wrap64 (((l1.drop (t539 : Int).toNat).length : Int) - t543)) : Int).toNat) ((l2.drop (t539 : Int).toNat).take ((wrap64 (((l2.drop (t539 : Int).toNat).length : Int) - t543)) : Int).toNat) a3).bind fun t547 => (if ((l1.take (t539 : Int).toNat).length : Int) = 0 then (none) else ((some (([(⟨0, runesBytes (l1.take (t539 : Int).toNat)⟩ : S93)] : List (S93)) : List (S93))).bind fun y550 => (if y550.length + t547.length < 5864062014805 then ((some (y550 ++ t547 : List (S93))).bind fun y553 => (if (((l1.drop (t539 : Int).toNat).drop ((wrap64 (((l1.drop (t539 : Int).toNat).length : Int) - t543)) : Int).toNat).length : Int) = 0 then (none) else (if y553.length < 5864062014805 then ((p_DiffCleanupMerge.f k a0 (y553 ++ [(⟨0, runesBytes ((l1.drop (t539 : Int).toNat).drop ((wrap64 (((l1.drop (t539 : Int).toNat).length : Int) - t543)) : Int).toNat)⟩ : S93)])).bind fun t559 => (some t559)) else (none)))) else (none))))) else (none)) else (none)) else (none)) else (none))) else (none)) else (none)) else (none))))) = some r := h
 clear h
 replace H := Option.bind_eq_some_iff.mp H
 obtain ⟨t538, A50, H⟩ := H
 have A5 := Aside0.mk A50
 clear A50
 by_cases c6 : t538 = true
 ·subst c6
  rw [if_pos rfl] at H
  exact absurd H (by simp)
 ·replace c6 := Bool.eq_false_iff.mpr c6
  subst c6
  rw [if_neg (show ¬ (false = true) by decide)] at H
  replace H := Option.bind_eq_some_iff.mp H
  obtain ⟨t539, A70, H⟩ := H
  have A7 := Aside0.mk A70
  clear A70
  replace H := yes_ H; obtain ⟨c8, H⟩ := H
  have c8b0 := eq_true c8
  have c8b1 := decide_eq_true c8
  clear c8
  replace H := yes_ H; obtain ⟨c9, H⟩ := H
  have c9b0 := eq_true c9
  have c9b1 := decide_eq_true c9
  clear c9
  have c10b0 := eq_true (of_decide_eq_true (by assumption) : 0 ≤ t539)
  have c11b0 := eq_true (of_decide_eq_true (by assumption) : t539 ≤ (l1.length : Int))
  have c12b0 := eq_true (of_decide_eq_true (by assumption) : 0 ≤ t539)
  replace H := yes_ H; obtain ⟨c13, H⟩ := H
  have c13b0 := eq_true c13
  have c13b1 := decide_eq_true c13
  clear c13
  replace H := Option.bind_eq_some_iff.mp H
  obtain ⟨t543, A140, H⟩ := H
  have A14 := Aside0.mk A140
  clear A140
  obtain ⟨ji15, hji15⟩ : ∃ j_ : Int, (wrap64 (((l1.drop (t539 : Int).toNat).length : Int) - t543)) = j_ := ⟨_, rfl⟩
  rw [hji15] at H
  have hji15w : (IntKind.i64.wrap (((l1.drop (t539 : Int).toNat).length : Int) - t543)) = ji15 := (i64_w _).trans hji15
  have hji15x := hji15
  simp only [List.length_drop, List.length_take] at hji15x
  have hji15y := hji15w
  simp only [List.length_drop, List.length_take] at hji15y
  replace H := yes_ H; obtain ⟨c16, H⟩ := H
  have c16b0 := eq_true c16
  have c16b1 := decide_eq_true c16
  clear c16
  replace H := yes_ H; obtain ⟨c17, H⟩ := H
  have c17b0 := eq_true c17
  have c17b1 := decide_eq_true c17
  clear c17
  have c18b0 := eq_true (of_decide_eq_true (by assumption) : 0 ≤ (ji15))
  have c19b0 := eq_true (of_decide_eq_true (by assumption) : (ji15) ≤ ((l1.drop (t539 : Int).toNat).length : Int))
  obtain ⟨ji20, hji20⟩ : ∃ j_ : Int, (wrap64 (((l2.drop (t539 : Int).toNat).length : Int) - t543)) = j_ := ⟨_, rfl⟩
  rw [hji20] at H
  have hji20w : (IntKind.i64.wrap (((l2.drop (t539 : Int).toNat).length : Int) - t543)) = ji20 := (i64_w _).trans hji20
  have hji20x := hji20
  simp only [List.length_drop, List.length_take] at hji20x
  have hji20y := hji20w
  simp only [List.length_drop, List.length_take] at hji20y
  replace H := yes_ H; obtain ⟨c21, H⟩ := H
  have c21b0 := eq_true c21
  have c21b1 := decide_eq_true c21
  clear c21
  replace H := yes_ H; obtain ⟨c22, H⟩ := H
  have c22b0 := eq_true c22
  have c22b1 := decide_eq_true c22
  clear c22
  replace H := Option.bind_eq_some_iff.mp H
  obtain ⟨t547, A230, H⟩ := H
  have A23 := Aside0.mk A230
  clear A230
  by_cases c24 : ((l1.take (t539 : Int).toNat).length : Int) = 0
  ·rw [if_pos c24] at H
   exact absurd H (by simp)
  ·rw [if_neg c24] at H
   have c24b0 := beq_eq_false_iff_ne.mpr c24
   have c24b1 := bne_iff_ne.mpr c24
   have c24b2 : ¬ ((l1.take (t539 : Int).toNat) = []) := fun h_ => c24 (by rw [h_]; rfl)
   have c24m : max t539 0 ≠ 0 := by (have h_ := c24; rw [List.length_take] at h_; omega)
   have c24p : (max t539 0 != 0) = true := bne_iff_ne.mpr c24m
   have c24q : (max t539 0 == 0) = false := beq_eq_false_iff_ne.mpr c24m
   obtain ⟨y550, hy550, H⟩ := bindc_ H
   have Ny550 := Aside0.mk hy550
   clear hy550
   replace H := yes_ H; obtain ⟨c25, H⟩ := H
   have LMc25 := Aside0.mk c25
   clear c25
   obtain ⟨y553, hy553, H⟩ := bindc_ H
   have Ny553 := Aside0.mk hy553
   clear hy553
   by_cases c26 : (((l1.drop (t539 : Int).toNat).drop ((ji15) : Int).toNat).length : Int) = 0
   ·rw [if_pos c26] at H
    exact absurd H (by simp)
   ·rw [if_neg c26] at H
    have c26b0 := beq_eq_false_iff_ne.mpr c26
    have c26s0 := c26b0
    simp only [List.length_drop] at c26s0
    have c26b1 := bne_iff_ne.mpr c26
    have c26s1 := c26b1
    simp only [List.length_drop] at c26s1
    have c26b2 : ¬ (((l1.drop (t539 : Int).toNat).drop ((ji15) : Int).toNat) = []) := fun h_ => c26 (by rw [h_]; rfl)
    replace H := yes_ H; obtain ⟨c27, H⟩ := H
    have LMc27 := Aside0.mk c27
    clear c27
    obtain ⟨y556, hy556⟩ : ∃ y_ : List (S93), y_ = (y553 ++ [(⟨0, runesBytes ((l1.drop (t539 : Int).toNat).drop ((ji15) : Int).toNat)⟩ : S93)]) := ⟨_, rfl⟩
    replace H : ((p_DiffCleanupMerge.f k a0 y556).bind fun t559 => (some t559)) = some r := by (rw [hy556]; with_reducible exact H)
    have Ny556 := Aside0.mk hy556
    clear hy556
    replace H := Option.bind_eq_some_iff.mp H
    obtain ⟨t559, A280, H⟩ := H
    have A28 := Aside0.mk A280
    clear A280
    obtain rfl := Option.some.inj H
    have hdd_ : (l1.drop (t539 : Int).toNat).drop ((ji15) : Int).toNat = List.drop (t539.toNat + ji15.toNat) l1 := by simp [List.drop_drop]
    rw [hdd_] at Ny556
    clear hdd_
    go_enter Tryz.func116, Tryz.ntmps116
    go_wp2_with (first | ((with_reducible refine gate_callee (f := 138) rfl ?_); refine goesL_ (some 16) rfl rfl Tryz.func138 (by kernel_rfl) rfl #[.slice A1 l1.length c1, .slice A2 l2.length c2] rfl (by (try simp only [List.map_toArray, List.map_cons, List.map_nil]); rfl) ?_; (with_reducible refine (q_runesEqual.calls k _ _ l1 _ _ l2 false _ ?side1 ?side2 ?side3 ?side4 A5.out).mono ?_); (case side1 => exact Kd.C_st HR1.out); (case side2 => exact HC1.out); (case side3 => exact Kd.C_st HR2.out); (case side4 => exact HC2.out); rintro e w' ⟨rfl, ⟨nd, rfl⟩⟩; refine ⟨_, rfl, ?_⟩) | ((with_reducible refine gate_callee (f := 124) rfl ?_); refine goesL_ (some 29) rfl rfl Tryz.func124 (by kernel_rfl) rfl #[.slice A1 l1.length c1, .slice A2 l2.length c2] rfl (by (try simp only [List.map_toArray, List.map_cons, List.map_nil]); rfl) ?_; (with_reducible refine (q_commonPrefixLength.calls k _ _ l1 _ _ l2 t539 _ ?side1 ?side2 ?side3 ?side4 A7.out).mono ?_); (case side1 => exact Kd.C_st HR1.out); (case side2 => exact HC1.out); (case side3 => exact Kd.C_st HR2.out); (case side4 => exact HC2.out); rintro e w' ⟨rfl, ⟨nd, rfl⟩⟩; refine ⟨_, rfl, ?_⟩; obtain ⟨i029, hi029, _, hsz29, _⟩ := info_parts info21; obtain ⟨hcut29, hA29, hC29⟩ := print_take_of (P := Tryz.prog) (Value.int .i32) 0 137 21 .i64 Tryz.underlying137 hi029 hsz29 A1 c1 l1 t539 (of_decide_eq_true (by assumption)) (of_decide_eq_true (by assumption)) HC1.out; have HR540 := aS_ (Kd.C_of_reads (h1 := fun _ => rfl) (hA29 _ (Kd.reads_of_C HR1.out))); have HC540 := Aside0.mk hC29; clear hA29 hC29 hi029 hsz29; obtain ⟨i030, hi030, _, hsz30, _⟩ := info_parts info21; obtain ⟨A30, hcut30, hA30, hC30⟩ := print_drop_of (P := Tryz.prog) (Value.int .i32) 0 137 21 .i64 Tryz.underlying137 hi030 hsz30 A1 c1 l1 t539 (of_decide_eq_true (by assumption)) (of_decide_eq_true (by assumption)) HC1.out; have HR541 := aS_ (Kd.C_of_reads (h1 := fun _ => rfl) (hA30 _ (Kd.reads_of_C HR1.out))); have HC541 := Aside0.mk hC30; clear hA30 hC30 hi030 hsz30; obtain ⟨i031, hi031, _, hsz31, _⟩ := info_parts info21; obtain ⟨A31, hcut31, hA31, hC31⟩ := print_drop_of (P := Tryz.prog) (Value.int .i32) 0 137 21 .i64 Tryz.underlying137 hi031 hsz31 A2 c2 l2 t539 (of_decide_eq_true (by assumption)) (of_decide_eq_true (by assumption)) HC2.out; have HR542 := aS_ (Kd.C_of_reads (h1 := fun _ => rfl) (hA31 _ (Kd.reads_of_C HR2.out))); have HC542 := Aside0.mk hC31; clear hA31 hC31 hi031 hsz31) | ((with_reducible refine gate_callee (f := 117) rfl ?_); refine goesL_ (some 41) rfl rfl Tryz.func117 (by kernel_rfl) rfl #[.slice A30 (l1.drop (t539 : Int).toNat).length (c1 - t539.toNat), .slice A31 (l2.drop (t539 : Int).toNat).length (c2 - t539.toNat)] rfl (by (try simp only [List.map_toArray, List.map_cons, List.map_nil]); (simp only [List.length_drop, List.length_take]; rfl)) ?_; (with_reducible refine (q_commonSuffixLength.calls k _ _ (l1.drop (t539 : Int).toNat) _ _ (l2.drop (t539 : Int).toNat) t543 _ ?side1 ?side2 ?side3 ?side4 A14.out).mono ?_); (case side1 => exact Kd.C_st HR541.out); (case side2 => exact HC541.out); (case side3 => exact Kd.C_st HR542.out); (case side4 => exact HC542.out); rintro e w' ⟨rfl, ⟨nd, rfl⟩⟩; refine ⟨_, rfl, ?_⟩; obtain ⟨i032, hi032, _, hsz32, _⟩ := info_parts info21; obtain ⟨A32, hcut32, hA32, hC32⟩ := print_drop_of (P := Tryz.prog) (Value.int .i32) 0 137 21 .i64 Tryz.underlying137 hi032 hsz32 A30 (c1 - t539.toNat) (l1.drop (t539 : Int).toNat) (ji15) (of_decide_eq_true (by assumption)) (of_decide_eq_true (by assumption)) HC541.out; have HR544 := aS_ (Kd.C_of_reads (h1 := fun _ => rfl) (hA32 _ (Kd.reads_of_C HR541.out))); have HC544 := Aside0.mk hC32; clear hA32 hC32 hi032 hsz32; (try simp only [List.length_drop, List.length_take] at hcut32); obtain ⟨i033, hi033, _, hsz33, _⟩ := info_parts info21; obtain ⟨hcut33, hA33, hC33⟩ := print_take_of (P := Tryz.prog) (Value.int .i32) 0 137 21 .i64 Tryz.underlying137 hi033 hsz33 A30 (c1 - t539.toNat) (l1.drop (t539 : Int).toNat) (ji15) (of_decide_eq_true (by assumption)) (of_decide_eq_true (by assumption)) HC541.out; have HR545 := aS_ (Kd.C_of_reads (h1 := fun _ => rfl) (hA33 _ (Kd.reads_of_C HR541.out))); have HC545 := Aside0.mk hC33; clear hA33 hC33 hi033 hsz33; (try simp only [List.length_drop, List.length_take] at hcut33); obtain ⟨i034, hi034, _, hsz34, _⟩ := info_parts info21; obtain ⟨hcut34, hA34, hC34⟩ := print_take_of (P := Tryz.prog) (Value.int .i32) 0 137 21 .i64 Tryz.underlying137 hi034 hsz34 A31 (c2 - t539.toNat) (l2.drop (t539 : Int).toNat) (ji20) (of_decide_eq_true (by assumption)) (of_decide_eq_true (by assumption)) HC542.out; have HR546 := aS_ (Kd.C_of_reads (h1 := fun _ => rfl) (hA34 _ (Kd.reads_of_C HR542.out))); have HC546 := Aside0.mk hC34; clear hA34 hC34 hi034 hsz34; (try simp only [List.length_drop, List.length_take] at hcut34)) | ((with_reducible refine gate_callee (f := 139) rfl ?_); refine goesL_ (some 64) rfl rfl Tryz.func139 (by kernel_rfl) rfl #[.pointer (some ⟨a0, 0, none⟩), .slice A30 ((l1.drop (t539 : Int).toNat).take ((ji15) : Int).toNat).length (c1 - t539.toNat), .slice A31 ((l2.drop (t539 : Int).toNat).take ((ji20) : Int).toNat).length (c2 - t539.toNat), .bool a3] rfl (by (try simp only [List.map_toArray, List.map_cons, List.map_nil]); (simp only [List.length_drop, List.length_take]; rfl)) ?_; (with_reducible refine (p_diffCompute.calls a0 _ _ ((l1.drop (t539 : Int).toNat).take ((ji15) : Int).toNat) _ _ ((l2.drop (t539 : Int).toNat).take ((ji20) : Int).toNat) a3 t547 _ ?side1 ?side2 ?side3 ?side4 ?side5 A23.out).mono ?_); (case side1 => exact dmp_below HD0.out (bel_ HB.out)); (case side2 => exact Kd.C_st HR545.out); (case side3 => exact HC545.out); (case side4 => exact Kd.C_st HR546.out); (case side5 => exact HC546.out); rintro e w35 ⟨v548, rfl, ho0, hb⟩; refine ⟨_, rfl, ?_⟩; have HO549 := aS_ (Kd.R_lower ho0 (bz_ (bel_ HB.out))); replace HB := aS_ (bt_ (bel_ HB.out) hb); have hcv36 := Kd.C_runes (P := Tryz.prog) (A := A1) (c := c1) Tryz.underlying137 Tryz.underlying21 Tryz.underlying9 (Kd.C_below HR540.out HB.out); (have hm_ : t539 ≤ (l1.length : Int) := (of_decide_eq_true (by assumption)); rw [show (l1.take (t539 : Int).toNat).length = t539.toNat from by rw [List.length_take]; omega] at hcv36)) | ((with_reducible refine gate_dst (N := 71) rfl ?_); refine Kd.R_lit k93 _ 93 ?hg (N := 71) ?hd (xs := ([(⟨0, runesBytes (l1.take (t539 : Int).toNat)⟩ : S93)] : List (S93))) (inner := [.int .i8 0, .string (runesBytes (l1.take (t539 : Int).toNat))]) (ok := fun _ => True) (okp := fun _ => True) ?hr ?hp (fun _ hk => hk) trivial (Below.refl _ _) (Nat.le_refl _) (by simp) ?_; (case hd => rfl); (case hg => rfl); (case hr => (go_simp; done)); (case hp => exact (Reps.c2 (show Kd.M k93 _ _ _ (⟨0, runesBytes (l1.take (t539 : Int).toNat)⟩ : S93) [.int .i8 0, .string (runesBytes (l1.take (t539 : Int).toNat))] from (k93_mkM _ _ _ (⟨0, runesBytes (l1.take (t539 : Int).toNat)⟩ : S93) )) (Reps.none _ _))); intro v551 w37 ho38 hb hg_ hnew_; clear hg_ hnew_; (rw [← Ny550.out] at ho38); have HO552 := aS_ (Kd.R_lower (Kd.R_new' ho38 (Kd.R_lt (Kd.R_st HO549.out))) (bz_ (bel_ HB.out))); replace HO549 := aS_ (Kd.R_elder' (Kd.R_st HO549.out) (Kd.R_base ho38) hb); replace HB := aS_ (bt_ (bel_ HB.out) hb); clear hb ho38; obtain ⟨Ao40, co40, eo40⟩ := Kd.R_slice HO549.out; subst eo40) | ((with_reducible refine gate_builtin (b := .append) (xs := #[.tmp 71, .tmp 72]) rfl ?_); at_builtin; refine Kd.R_append_rows k93 (w0 := w) w.heap.size rfl (.tmp 71) (.tmp 72) 65 93 (.agg #[(.int .i8 0), (.string ⟨#[]⟩)]) 24 rfl Tryz.underlying65 info93 rfl (by decide) (by omega) v551 y550 t547 _ _ _ (fun k_ => some k_ ≠ (.slice Ao40 t547.length co40 : Value).ownBlock) (fun _ => False) rfl rfl ?aO ?aR (fun _ _ h => h) (fun _ h => h.elim) ?aF ?aB ?aS ?aL ?_; (case aR => repeat (exact (Kd.R_reads' HO549.out).2.2)); (case aB => exact (bel_ HB.out)); (case aF => exact (fun k_ hk => Kd.fresh' (Kd.R_lt (Kd.R_st HO549.out)) k_ hk)); (case aO => exact (Kd.R_st (Kd.R_mono HO552.out (fun _ hk => hk.2)))); (case aS => exact (bz_ (bel_ HB.out))); (case aL => have := LMc25.out; omega); intro v554 w39 ho hb hg hat; rw [← Ny553.out] at ho; replace HO549 := aS_ (Kd.R_after (ok := (fun _ => True)) (Kd.R_st HO549.out) hg hat); replace HB := aS_ (hb); have HO555 := aS_ (ho); clear HO552; clear ho hb hg hat; have hcv41 := Kd.C_runes (P := Tryz.prog) (A := A32) (c := ((c1 - t539.toNat) - (ji15).toNat)) Tryz.underlying137 Tryz.underlying21 Tryz.underlying9 (Kd.C_below HR544.out HB.out); simp only [List.length_drop] at hcv41) | ((with_reducible refine gate_builtin (b := .append) (xs := #[.tmp 77, .tmp 81]) rfl ?_); at_builtin; refine Kd.R_append k93 (w0 := w) w.heap.size rfl (.tmp 77) (.tmp 81) 65 93 (.agg #[(.int .i8 0), (.string ⟨#[]⟩)]) 24 rfl Tryz.underlying65 info93 rfl (by decide) (by omega) v554 y553 (⟨0, runesBytes (List.drop (t539.toNat + ji15.toNat) l1)⟩ : S93) [.int .i8 0, .string (runesBytes (List.drop (t539.toNat + ji15.toNat) l1))] (fun k_ => some k_ ≠ (.slice Ao40 t547.length co40 : Value).ownBlock) (fun _ => False) rfl rfl ?aP (fun _ hk => hk.elim) ?aF ?aO ?aB ?aS ?aL ?_; (case aP => exact k93_mkM _ _ _ (⟨0, runesBytes (List.drop (t539.toNat + ji15.toNat) l1)⟩ : S93)); (case aB => exact (bel_ HB.out)); (case aF => exact (fun k_ hk => Kd.fresh' (Kd.R_lt (Kd.R_st HO549.out)) k_ hk)); (case aO => exact (Kd.R_st HO555.out)); (case aS => exact (bz_ (bel_ HB.out))); (case aL => have := LMc27.out; omega); intro v557 w42 ho hb hg hat; rw [← Ny556.out] at ho; replace HO549 := aS_ (Kd.R_after (ok := (fun _ => True)) (Kd.R_st HO549.out) hg hat); replace HB := aS_ (hb); have HO558 := aS_ (ho); clear HO555; clear ho hb hg hat; obtain ⟨Ao43, co43, eo43⟩ := Kd.R_slice HO558.out; subst eo43) | ((with_reducible refine gate_callee (f := 93) rfl ?_); refine goesL_ (some 85) rfl rfl Tryz.func93 (by kernel_rfl) rfl #[.pointer (some ⟨a0, 0, none⟩), .slice Ao43 y556.length co43] rfl (by (try simp only [List.map_toArray, List.map_cons, List.map_nil]); rfl) ?_; (with_reducible refine (p_DiffCleanupMerge.calls k a0 (fun k_ => some k_ = (.slice Ao43 y556.length co43 : Value).ownBlock) (.slice Ao43 y556.length co43) y556 t559 w _ ?side1 ?side2 ?side3 A28.out).mono ?_); (case side1 => repeat ((with_reducible exact HB.out))); (case side2 => exact HD0.out); (case side3 => exact Kd.R_tight rfl HO558.out); rintro e w44 ⟨v560, rfl, ho0, hb, hkp⟩; refine ⟨_, rfl, ?_⟩; have HO561 := aS_ (Kd.R_mono (ok' := fun k_ => some k_ ≠ (.slice Ao40 t547.length co40 : Value).ownBlock) ho0 (fun k_ hk_ => Or.elim hk_ (fun hs_ => fun e_ => (((HO549.out).1 k_ e_.symm).2) hs_) (fun hn_ => (Kd.fresh' (Kd.R_lt (Kd.R_st HO549.out)) k_ hn_)))); replace HO549 := aS_ (Kd.R_mono (ok' := fun k_ => some k_ ≠ (v560 : Value).ownBlock) (Kd.R_keptB (HO549.out) hkp (fun k_ hk_ hs_ => (hk_.2) hs_)) (fun k_ hk_ => fun e_ => Or.elim (ho0.1 k_ e_.symm) (fun hs_ => hk_.2.1 hs_) (fun hn_ => Nat.not_le.2 hk_.2.2 hn_))); replace HB := aS_ (hb); clear HO558))
    go_ret
    exact ⟨_, by rfl, Kd.R_st (Kd.R_mono HO561.out (fun _ hk => trivial)), bel_ HB.out⟩
def p_DiffMainRunes.f (k : Nat) (a0 : Nat) (l1 : List Int) (l2 : List Int) (a3 : Bool) : Option ((List (S93))) := (p_diffMainRunes.f k a0 l1 l2 a3).bind fun t562 => (some t562)
theorem p_DiffMainRunes.calls (k : Nat) (a0 : Nat) (A1 : Option Addr) (c1 : Nat) (l1 : List Int) (A2 : Option Addr) (c2 : Nat) (l2 : List Int) (a3 : Bool) (r : List (S93)) (w : World) (hd0 : DmpAt w a0) (hr1 : Kd.C (Kd.int .i32) w A1 l1.length l1) (hc1 : l1.length ≤ c1) (hr2 : Kd.C (Kd.int .i32) w A2 l2.length l2) (hc2 : l2.length ≤ c2) (h : p_DiffMainRunes.f k a0 l1 l2 a3 = some r) :
  Calls Tryz.prog 87 #[.pointer (some ⟨a0, 0, none⟩), .slice A1 l1.length c1, .slice A2 l2.length c2, .bool a3] w fun e w' => ∃ v0_ : Value, e = .returned (v0_) ∧ Kd.R k93 93 w' w.heap.size (fun _ => True) v0_ r ∧ Below w.heap.size w w' := by
 have HD0 := Aside0.mk hd0
 clear hd0
 have HR1 := Aside0.mk hr1
 have HC1 := Aside0.mk hc1
 clear hr1 hc1
 have HR2 := Aside0.mk hr2
 have HC2 := Aside0.mk hc2
 clear hr2 hc2
 have HB := aS_ (Below.refl w.heap.size w)
 have H : ((p_diffMainRunes.f k a0 l1 l2 a3).bind fun t562 => (some t562)) = some r := h
 clear h
 replace H := Option.bind_eq_some_iff.mp H
 obtain ⟨t562, A50, H⟩ := H
 have A5 := Aside0.mk A50
 clear A50
 obtain rfl := Option.some.inj H
 go_enter Tryz.func87, Tryz.ntmps87
 go_wp2_with ((go_at_call 116; (with_reducible refine (p_diffMainRunes.calls k a0 _ _ l1 _ _ l2 a3 t562 _ ?side1 ?side2 ?side3 ?side4 ?side5 A5.out).mono ?_); (case side1 => exact dmp_below HD0.out (bel_ HB.out)); (case side2 => exact Kd.C_st HR1.out); (case side3 => exact HC1.out); (case side4 => exact Kd.C_st HR2.out); (case side5 => exact HC2.out); rintro e w6 ⟨v563, rfl, ho0, hb⟩; have HO564 := aS_ (Kd.R_lower ho0 (bz_ (bel_ HB.out))); replace HB := aS_ (bt_ (bel_ HB.out) hb)))
 go_ret
 exact ⟨_, by rfl, Kd.R_st HO564.out, bel_ HB.out⟩
def p_DiffMain.f (k : Nat) (a0 : Nat) (a1 : ByteArray) (a2 : ByteArray) (a3 : Bool) : Option ((List (S93))) := if a1.size ≤ 70368744177664 then (if a2.size ≤ 70368744177664 then ((p_DiffMainRunes.f k a0 (runesOf a1) (runesOf a2) a3).bind fun t571 => (some t571)) else (none)) else (none)
theorem p_DiffMain.calls (k : Nat) (a0 : Nat) (a1 : ByteArray) (a2 : ByteArray) (a3 : Bool) (r : List (S93)) (w : World) (hd0 : DmpAt w a0) (h : p_DiffMain.f k a0 a1 a2 a3 = some r) :
  Calls Tryz.prog 61 #[.pointer (some ⟨a0, 0, none⟩), .string a1, .string a2, .bool a3] w fun e w' => ∃ v0_ : Value, e = .returned (v0_) ∧ Kd.R k93 93 w' w.heap.size (fun _ => True) v0_ r ∧ Below w.heap.size w w' := by
 have HD0 := Aside0.mk hd0
 clear hd0
 have HB := aS_ (Below.refl w.heap.size w)
 have H : (if a1.size ≤ 70368744177664 then (if a2.size ≤ 70368744177664 then ((p_DiffMainRunes.f k a0 (runesOf a1) (runesOf a2) a3).bind fun t571 => (some t571)) else (none)) else (none)) = some r := h
 clear h
 replace H := yes_ H; obtain ⟨c5, H⟩ := H
 have c5b0 := eq_true c5
 have c5b1 := decide_eq_true c5
 clear c5
 obtain ⟨y565, hy565⟩ : ∃ y_ : List Int, y_ = (runesOf a1) := ⟨_, rfl⟩
 replace H : (if a2.size ≤ 70368744177664 then ((p_DiffMainRunes.f k a0 y565 (runesOf a2) a3).bind fun t571 => (some t571)) else (none)) = some r := by (rw [hy565]; with_reducible exact H)
 have Ny565 := Aside0.mk hy565
 clear hy565
 replace H := yes_ H; obtain ⟨c6, H⟩ := H
 have c6b0 := eq_true c6
 have c6b1 := decide_eq_true c6
 clear c6
 obtain ⟨y568, hy568⟩ : ∃ y_ : List Int, y_ = (runesOf a2) := ⟨_, rfl⟩
 replace H : ((p_DiffMainRunes.f k a0 y565 y568 a3).bind fun t571 => (some t571)) = some r := by (rw [hy568]; with_reducible exact H)
 have Ny568 := Aside0.mk hy568
 clear hy568
 replace H := Option.bind_eq_some_iff.mp H
 obtain ⟨t571, A70, H⟩ := H
 have A7 := Aside0.mk A70
 clear A70
 obtain rfl := Option.some.inj H
 go_enter Tryz.func61, Tryz.ntmps61
 go_wp2_with (first | ((with_reducible refine gate_dst (N := 11) rfl ?_); refine Kd.R_runes _ 21 rfl (N := 11) rfl 9 137 (.tmp 10) rfl a1 rfl Tryz.underlying9 Tryz.underlying137 Tryz.underlying21 (of_decide_eq_true (by assumption)) (ok := fun _ => True) (okp := fun _ => True) (fun _ hk => hk) (fun _ _ => trivial) (Below.refl _ _) (Nat.le_refl _) ?_; intro v566 w8 ho9 hb hg_ hnew_; clear hg_ hnew_; (rw [← Ny565.out] at ho9); have HO567 := aS_ (Kd.R_lower ho9 (bz_ (bel_ HB.out))); replace HB := aS_ (bt_ (bel_ HB.out) hb); clear hb ho9) | ((with_reducible refine gate_dst (N := 13) rfl ?_); refine Kd.R_runes _ 21 rfl (N := 13) rfl 9 137 (.tmp 12) rfl a2 rfl Tryz.underlying9 Tryz.underlying137 Tryz.underlying21 (of_decide_eq_true (by assumption)) (ok := fun _ => True) (okp := fun _ => True) (fun _ hk => hk) (fun _ _ => trivial) (Below.refl _ _) (Nat.le_refl _) ?_; intro v569 w10 ho11 hb hg_ hnew_; clear hg_ hnew_; (rw [← Ny568.out] at ho11); have HO570 := aS_ (Kd.R_lower (Kd.R_new' ho11 (Kd.R_lt (Kd.R_st HO567.out))) (bz_ (bel_ HB.out))); replace HO567 := aS_ (Kd.R_elder' (Kd.R_st HO567.out) (Kd.R_base ho11) hb); replace HB := aS_ (bt_ (bel_ HB.out) hb); clear hb ho11; obtain ⟨Ao12, co12, eo12⟩ := Kd.R_slice HO567.out; subst eo12; obtain ⟨Ao13, co13, eo13⟩ := Kd.R_slice HO570.out; subst eo13) | (go_at_call 87; (with_reducible refine (p_DiffMainRunes.calls k a0 _ _ y565 _ _ y568 a3 t571 _ ?side1 ?side2 ?side3 ?side4 ?side5 A7.out).mono ?_); (case side1 => exact dmp_below HD0.out (bel_ HB.out)); (case side2 => repeat (exact (Kd.R_reads' HO567.out).2.2)); (case side3 => exact (Kd.R_reads' HO567.out).2.1); (case side4 => repeat (exact (Kd.R_reads' HO570.out).2.2)); (case side5 => exact (Kd.R_reads' HO570.out).2.1); rintro e w14 ⟨v572, rfl, ho0, hb⟩; replace HO567 := aS_ (Kd.R_below (Kd.R_st HO567.out) hb); replace HO570 := aS_ (Kd.R_below (Kd.R_st HO570.out) hb); have HO573 := aS_ (Kd.R_lower ho0 (bz_ (bel_ HB.out))); replace HB := aS_ (bt_ (bel_ HB.out) hb)))
 go_ret
 exact ⟨_, by rfl, Kd.R_st HO573.out, bel_ HB.out⟩
def utf8_decodeRuneInStringSlow.f (a0 : ByteArray) : Option (Int × Int) := if (a0.size : Int) < 1 then (some (65533, 0)) else (none)
theorem utf8_decodeRuneInStringSlow.calls (a0 : ByteArray) (r1 : Int) (r2 : Int) (w : World) (h : utf8_decodeRuneInStringSlow.f a0 = some (r1, r2)) :
  Calls Tryz.prog 123 #[.string a0] w fun e w' => e = .returned (.tuple #[.int .i32 r1, .int .i64 r2]) ∧ Below w.heap.size w w' := by
 have hu182 := Tryz.underlying182
 have HB := aS_ (Below.refl w.heap.size w)
 have H : (if (a0.size : Int) < 1 then (some (65533, 0)) else (none)) = some (r1, r2) := h
 clear h
 replace H := yes_ H; obtain ⟨c2, H⟩ := H
 have c2b0 := decide_eq_true c2
 have c2b1 : decide (a0.size < 1) = true := decide_eq_true (by omega)
 clear c2
 simp only [Option.some.injEq, Prod.mk.injEq] at H
 obtain ⟨rfl, rfl⟩ := H
 go_enter Tryz.func123, Tryz.ntmps123
 go_wp2
 go_ret2
 exact ⟨by rfl, bel_ HB.out⟩
def utf8_DecodeRuneInString.f (a0 : ByteArray) : Option (Int × Int) := if a0.toList = ([] : List UInt8) then ((utf8_decodeRuneInStringSlow.f a0).bind fun bt203 => (some (bt203.1, bt203.2))) else (if 0 < (a0.size : Int) then (if (bt a0 0) < 128 then (some (wrap32 (bt a0 0), 1)) else ((utf8_decodeRuneInStringSlow.f a0).bind fun bt205 => (some (bt205.1, bt205.2)))) else (none))
theorem utf8_DecodeRuneInString.calls (a0 : ByteArray) (r1 : Int) (r2 : Int) (w : World) (h : utf8_DecodeRuneInString.f a0 = some (r1, r2)) :
  Calls Tryz.prog 91 #[.string a0] w fun e w' => e = .returned (.tuple #[.int .i32 r1, .int .i64 r2]) ∧ Below w.heap.size w w' := by
 have HB := aS_ (Below.refl w.heap.size w)
 have H : (if a0.toList = ([] : List UInt8) then ((utf8_decodeRuneInStringSlow.f a0).bind fun bt203 => (some (bt203.1, bt203.2))) else (if 0 < (a0.size : Int) then (if (bt a0 0) < 128 then (some (wrap32 (bt a0 0), 1)) else ((utf8_decodeRuneInStringSlow.f a0).bind fun bt205 => (some (bt205.1, bt205.2)))) else (none))) = some (r1, r2) := h
 clear h
 by_cases c2 : a0.toList = ([] : List UInt8)
 ·rw [if_pos c2] at H
  have c2b0 := beq_iff_eq.mpr c2
  have c2b1 := bne_eq_false_iff_eq.mpr c2
  clear c2
  replace H := Option.bind_eq_some_iff.mp H
  obtain ⟨⟨t203, t204⟩, A30, H⟩ := H
  try dsimp only at H
  have A3 := Aside0.mk A30
  clear A30
  simp only [Option.some.injEq, Prod.mk.injEq] at H
  obtain ⟨rfl, rfl⟩ := H
  go_enter Tryz.func91, Tryz.ntmps91
  go_wp2_with ((go_at_call 123; (with_reducible refine (utf8_decodeRuneInStringSlow.calls a0 t203 t204 _ A3.out).mono ?_); rintro e w4 ⟨rfl, hb⟩; replace HB := aS_ (bt_ (bel_ HB.out) hb)))
  go_ret2
  exact ⟨by rfl, bel_ HB.out⟩
 ·rw [if_neg c2] at H
  have c2b0 := beq_eq_false_iff_ne.mpr c2
  have c2b1 := bne_iff_ne.mpr c2
  replace H := yes_ H; obtain ⟨c5, H⟩ := H
  have c5b0 := decide_eq_true c5
  have c5b1 : decide (0 < a0.size) = true := decide_eq_true (by omega)
  clear c5
  by_cases c7 : (bt a0 0) < 128
  ·rw [if_pos c7] at H
   have c7b0 := decide_eq_true c7
   clear c7
   simp only [Option.some.injEq, Prod.mk.injEq] at H
   obtain ⟨rfl, rfl⟩ := H
   have p6 : 0 ≤ (0 : Int) := (by omega)
   have q6 : 0 < a0.size := (by have : (0 : Int) < (a0.size : Int) := of_decide_eq_true (by assumption); omega)
   have hx6 : ∀ h : 0 < a0.size, ((a0[0]'h).toNat : Int) = bt a0 0 := bt_at a0 0
   clear p6
   have qi6 : (0 < (a0.size : Int)) = True := eq_true (of_decide_eq_true (by assumption))
   replace q6 := eq_true q6
   have p8 : 0 ≤ (0 : Int) := (by omega)
   have q8 : 0 < a0.size := (by have : (0 : Int) < (a0.size : Int) := of_decide_eq_true (by assumption); omega)
   have hx8 : ∀ h : 0 < a0.size, ((a0[0]'h).toNat : Int) = bt a0 0 := bt_at a0 0
   clear p8
   have qi8 : (0 < (a0.size : Int)) = True := eq_true (of_decide_eq_true (by assumption))
   replace q8 := eq_true q8
   go_enter Tryz.func91, Tryz.ntmps91
   go_wp2
   go_ret2
   exact ⟨by rfl, bel_ HB.out⟩
  ·rw [if_neg c7] at H
   have c7b0 := decide_eq_false c7
   clear c7
   replace H := Option.bind_eq_some_iff.mp H
   obtain ⟨⟨t205, t206⟩, A90, H⟩ := H
   try dsimp only at H
   have A9 := Aside0.mk A90
   clear A90
   simp only [Option.some.injEq, Prod.mk.injEq] at H
   obtain ⟨rfl, rfl⟩ := H
   have p6 : 0 ≤ (0 : Int) := (by omega)
   have q6 : 0 < a0.size := (by have : (0 : Int) < (a0.size : Int) := of_decide_eq_true (by assumption); omega)
   have hx6 : ∀ h : 0 < a0.size, ((a0[0]'h).toNat : Int) = bt a0 0 := bt_at a0 0
   clear p6
   have qi6 : (0 < (a0.size : Int)) = True := eq_true (of_decide_eq_true (by assumption))
   replace q6 := eq_true q6
   go_enter Tryz.func91, Tryz.ntmps91
   go_wp2_with ((go_at_call 123; (with_reducible refine (utf8_decodeRuneInStringSlow.calls a0 t205 t206 _ A9.out).mono ?_); rintro e w10 ⟨rfl, hb⟩; replace HB := aS_ (bt_ (bel_ HB.out) hb)))
   go_ret2
   exact ⟨by rfl, bel_ HB.out⟩
def p_DiffCommonSuffix.f (k : Nat) (a0 : Nat) (a1 : ByteArray) (a2 : ByteArray) : Option (Int) := if a1.size ≤ 70368744177664 then (if a2.size ≤ 70368744177664 then ((q_commonSuffixLength.f k (runesOf a1) (runesOf a2)).bind fun t352 => (some t352)) else (none)) else (none)
theorem p_DiffCommonSuffix.calls (k : Nat) (a0 : Nat) (a1 : ByteArray) (a2 : ByteArray) (r : Int) (w : World) (hd0 : DmpAt w a0) (h : p_DiffCommonSuffix.f k a0 a1 a2 = some r) :
  Calls Tryz.prog 89 #[.pointer (some ⟨a0, 0, none⟩), .string a1, .string a2] w fun e w' => e = .returned (.int .i64 r) ∧ Below w.heap.size w w' := by
 have HD0 := Aside0.mk hd0
 clear hd0
 have HB := aS_ (Below.refl w.heap.size w)
 have H : (if a1.size ≤ 70368744177664 then (if a2.size ≤ 70368744177664 then ((q_commonSuffixLength.f k (runesOf a1) (runesOf a2)).bind fun t352 => (some t352)) else (none)) else (none)) = some r := h
 clear h
 replace H := yes_ H; obtain ⟨c4, H⟩ := H
 have c4b0 := eq_true c4
 have c4b1 := decide_eq_true c4
 clear c4
 obtain ⟨y346, hy346⟩ : ∃ y_ : List Int, y_ = (runesOf a1) := ⟨_, rfl⟩
 replace H : (if a2.size ≤ 70368744177664 then ((q_commonSuffixLength.f k y346 (runesOf a2)).bind fun t352 => (some t352)) else (none)) = some r := by (rw [hy346]; with_reducible exact H)
 have Ny346 := Aside0.mk hy346
 clear hy346
 replace H := yes_ H; obtain ⟨c5, H⟩ := H
 have c5b0 := eq_true c5
 have c5b1 := decide_eq_true c5
 clear c5
 obtain ⟨y349, hy349⟩ : ∃ y_ : List Int, y_ = (runesOf a2) := ⟨_, rfl⟩
 replace H : ((q_commonSuffixLength.f k y346 y349).bind fun t352 => (some t352)) = some r := by (rw [hy349]; with_reducible exact H)
 have Ny349 := Aside0.mk hy349
 clear hy349
 replace H := Option.bind_eq_some_iff.mp H
 obtain ⟨t352, A60, H⟩ := H
 have A6 := Aside0.mk A60
 clear A60
 obtain rfl := Option.some.inj H
 go_enter Tryz.func89, Tryz.ntmps89
 go_wp2_with (first | ((with_reducible refine gate_dst (N := 8) rfl ?_); refine Kd.R_runes _ 21 rfl (N := 8) rfl 9 137 (.tmp 7) rfl a1 rfl Tryz.underlying9 Tryz.underlying137 Tryz.underlying21 (of_decide_eq_true (by assumption)) (ok := fun _ => True) (okp := fun _ => True) (fun _ hk => hk) (fun _ _ => trivial) (Below.refl _ _) (Nat.le_refl _) ?_; intro v347 w7 ho8 hb hg_ hnew_; clear hg_ hnew_; (rw [← Ny346.out] at ho8); have HO348 := aS_ (Kd.R_lower ho8 (bz_ (bel_ HB.out))); replace HB := aS_ (bt_ (bel_ HB.out) hb); clear hb ho8) | ((with_reducible refine gate_dst (N := 10) rfl ?_); refine Kd.R_runes _ 21 rfl (N := 10) rfl 9 137 (.tmp 9) rfl a2 rfl Tryz.underlying9 Tryz.underlying137 Tryz.underlying21 (of_decide_eq_true (by assumption)) (ok := fun _ => True) (okp := fun _ => True) (fun _ hk => hk) (fun _ _ => trivial) (Below.refl _ _) (Nat.le_refl _) ?_; intro v350 w9 ho10 hb hg_ hnew_; clear hg_ hnew_; (rw [← Ny349.out] at ho10); have HO351 := aS_ (Kd.R_lower (Kd.R_new' ho10 (Kd.R_lt (Kd.R_st HO348.out))) (bz_ (bel_ HB.out))); replace HO348 := aS_ (Kd.R_elder' (Kd.R_st HO348.out) (Kd.R_base ho10) hb); replace HB := aS_ (bt_ (bel_ HB.out) hb); clear hb ho10; obtain ⟨Ao11, co11, eo11⟩ := Kd.R_slice HO348.out; subst eo11; obtain ⟨Ao12, co12, eo12⟩ := Kd.R_slice HO351.out; subst eo12) | ((with_reducible refine gate_callee (f := 117) rfl ?_); refine goesL_ (some 11) rfl rfl Tryz.func117 (by kernel_rfl) rfl #[.slice Ao11 y346.length co11, .slice Ao12 y349.length co12] rfl (by (try simp only [List.map_toArray, List.map_cons, List.map_nil]); rfl) ?_; (with_reducible refine (q_commonSuffixLength.calls k _ _ y346 _ _ y349 t352 _ ?side1 ?side2 ?side3 ?side4 A6.out).mono ?_); (case side1 => repeat (exact (Kd.R_reads' HO348.out).2.2)); (case side2 => exact (Kd.R_reads' HO348.out).2.1); (case side3 => repeat (exact (Kd.R_reads' HO351.out).2.2)); (case side4 => exact (Kd.R_reads' HO351.out).2.1); rintro e w' ⟨rfl, ⟨nd, rfl⟩⟩; refine ⟨_, rfl, ?_⟩))
 go_ret
 exact ⟨by rfl, bel_ HB.out⟩
def utf8_DecodeLastRuneInString.f (a0 : ByteArray) : Option (Int × Int) := if (a0.size : Int) = 0 then (some (65533, 0)) else (if 0 ≤ (wrap64 ((a0.size : Int) - 1)) then (if (wrap64 ((a0.size : Int) - 1)) < (a0.size : Int) then (if (wrap32 (bt a0 (wrap64 ((a0.size : Int) - 1)))) < 128 then (some (wrap32 (bt a0 (wrap64 ((a0.size : Int) - 1))), 1)) else (none)) else (none)) else (none))
theorem utf8_DecodeLastRuneInString.calls (a0 : ByteArray) (r1 : Int) (r2 : Int) (w : World) (h : utf8_DecodeLastRuneInString.f a0 = some (r1, r2)) :
  Calls Tryz.prog 118 #[.string a0] w fun e w' => e = .returned (.tuple #[.int .i32 r1, .int .i64 r2]) ∧ Below w.heap.size w w' := by
 have HB := aS_ (Below.refl w.heap.size w)
 have H : (if (a0.size : Int) = 0 then (some (65533, 0)) else (if 0 ≤ (wrap64 ((a0.size : Int) - 1)) then (if (wrap64 ((a0.size : Int) - 1)) < (a0.size : Int) then (if (wrap32 (bt a0 (wrap64 ((a0.size : Int) - 1)))) < 128 then (some (wrap32 (bt a0 (wrap64 ((a0.size : Int) - 1))), 1)) else (none)) else (none)) else (none))) = some (r1, r2) := h
 clear h
 by_cases c2 : (a0.size : Int) = 0
 ·rw [if_pos c2] at H
  have c2b0 := beq_iff_eq.mpr c2
  have c2b1 := bne_eq_false_iff_eq.mpr c2
  clear c2
  simp only [Option.some.injEq, Prod.mk.injEq] at H
  obtain ⟨rfl, rfl⟩ := H
  go_enter Tryz.func118, Tryz.ntmps118
  go_wp2
  go_ret2
  exact ⟨by rfl, bel_ HB.out⟩
 ·rw [if_neg c2] at H
  have c2b0 := beq_eq_false_iff_ne.mpr c2
  have c2b1 := bne_iff_ne.mpr c2
  obtain ⟨ji3, hji3⟩ : ∃ j_ : Int, (wrap64 ((a0.size : Int) - 1)) = j_ := ⟨_, rfl⟩
  rw [hji3] at H
  have hji3w : (IntKind.i64.wrap ((a0.size : Int) - 1)) = ji3 := (i64_w _).trans hji3
  replace H := yes_ H; obtain ⟨c4, H⟩ := H
  have c4b0 := decide_eq_true c4
  clear c4
  replace H := yes_ H; obtain ⟨c5, H⟩ := H
  have c5b0 := decide_eq_true c5
  clear c5
  replace H := yes_ H; obtain ⟨c7, H⟩ := H
  have c7b0 := decide_eq_true c7
  clear c7
  simp only [Option.some.injEq, Prod.mk.injEq] at H
  obtain ⟨rfl, rfl⟩ := H
  have p6 : 0 ≤ ((ji3) : Int) := of_decide_eq_true (by assumption)
  have q6 : (ji3) < (a0.size : Int) := of_decide_eq_true (by assumption)
  have hx6 := bt_at a0 (ji3)
  replace p6 := eq_true p6
  replace q6 := eq_true q6
  go_enter Tryz.func118, Tryz.ntmps118
  go_wp2
  go_ret2
  exact ⟨by rfl, bel_ HB.out⟩
def q_zzNotAlnum.f (a0 : Int) : Option (Bool) := if 97 ≤ a0 then (if a0 ≤ 122 then (some (!true)) else (if 65 ≤ a0 then (if a0 ≤ 90 then (some (!true)) else (if 48 ≤ a0 then (some (!(decide (a0 ≤ 57)))) else (some (!false)))) else (if 48 ≤ a0 then (some (!(decide (a0 ≤ 57)))) else (some (!false))))) else (if 65 ≤ a0 then (if a0 ≤ 90 then (some (!true)) else (if 48 ≤ a0 then (some (!(decide (a0 ≤ 57)))) else (some (!false)))) else (if 48 ≤ a0 then (some (!(decide (a0 ≤ 57)))) else (some (!false))))
theorem q_zzNotAlnum.calls (a0 : Int) (r : Bool) (w : World) (h : q_zzNotAlnum.f a0 = some r) :
  Calls Tryz.prog 119 #[.int .i32 a0] w fun e w' => e = .returned (.bool r) ∧ Drawn0 w w' := by
 have H : (if 97 ≤ a0 then (if a0 ≤ 122 then (some (!true)) else (if 65 ≤ a0 then (if a0 ≤ 90 then (some (!true)) else (if 48 ≤ a0 then (some (!(decide (a0 ≤ 57)))) else (some (!false)))) else (if 48 ≤ a0 then (some (!(decide (a0 ≤ 57)))) else (some (!false))))) else (if 65 ≤ a0 then (if a0 ≤ 90 then (some (!true)) else (if 48 ≤ a0 then (some (!(decide (a0 ≤ 57)))) else (some (!false)))) else (if 48 ≤ a0 then (some (!(decide (a0 ≤ 57)))) else (some (!false))))) = some r := h
 clear h
 by_cases c2 : 97 ≤ a0
 ·rw [if_pos c2] at H
  have c2b0 := decide_eq_true c2
  clear c2
  by_cases c3 : a0 ≤ 122
  ·rw [if_pos c3] at H
   have c3b0 := decide_eq_true c3
   clear c3
   obtain rfl := Option.some.inj H
   go_enter Tryz.func119, Tryz.ntmps119
   go_wp2
   go_ret
   exact ⟨by rfl, by repeat (exact Drawn0.refl _)⟩
  ·rw [if_neg c3] at H
   have c3b0 := decide_eq_false c3
   clear c3
   by_cases c4 : 65 ≤ a0
   ·rw [if_pos c4] at H
    have c4b0 := decide_eq_true c4
    clear c4
    by_cases c5 : a0 ≤ 90
    ·rw [if_pos c5] at H
     have c5b0 := decide_eq_true c5
     clear c5
     obtain rfl := Option.some.inj H
     go_enter Tryz.func119, Tryz.ntmps119
     go_wp2
     go_ret
     exact ⟨by rfl, by repeat (exact Drawn0.refl _)⟩
    ·rw [if_neg c5] at H
     have c5b0 := decide_eq_false c5
     clear c5
     by_cases c6 : 48 ≤ a0
     ·rw [if_pos c6] at H
      have c6b0 := decide_eq_true c6
      clear c6
      obtain rfl := Option.some.inj H
      go_enter Tryz.func119, Tryz.ntmps119
      go_wp2
      go_ret
      exact ⟨by rfl, by repeat (exact Drawn0.refl _)⟩
     ·rw [if_neg c6] at H
      have c6b0 := decide_eq_false c6
      clear c6
      obtain rfl := Option.some.inj H
      go_enter Tryz.func119, Tryz.ntmps119
      go_wp2
      go_ret
      exact ⟨by rfl, by repeat (exact Drawn0.refl _)⟩
   ·rw [if_neg c4] at H
    have c4b0 := decide_eq_false c4
    clear c4
    by_cases c7 : 48 ≤ a0
    ·rw [if_pos c7] at H
     have c7b0 := decide_eq_true c7
     clear c7
     obtain rfl := Option.some.inj H
     go_enter Tryz.func119, Tryz.ntmps119
     go_wp2
     go_ret
     exact ⟨by rfl, by repeat (exact Drawn0.refl _)⟩
    ·rw [if_neg c7] at H
     have c7b0 := decide_eq_false c7
     clear c7
     obtain rfl := Option.some.inj H
     go_enter Tryz.func119, Tryz.ntmps119
     go_wp2
     go_ret
     exact ⟨by rfl, by repeat (exact Drawn0.refl _)⟩
 ·rw [if_neg c2] at H
  have c2b0 := decide_eq_false c2
  clear c2
  by_cases c8 : 65 ≤ a0
  ·rw [if_pos c8] at H
   have c8b0 := decide_eq_true c8
   clear c8
   by_cases c9 : a0 ≤ 90
   ·rw [if_pos c9] at H
    have c9b0 := decide_eq_true c9
    clear c9
    obtain rfl := Option.some.inj H
    go_enter Tryz.func119, Tryz.ntmps119
    go_wp2
    go_ret
    exact ⟨by rfl, by repeat (exact Drawn0.refl _)⟩
   ·rw [if_neg c9] at H
    have c9b0 := decide_eq_false c9
    clear c9
    by_cases c10 : 48 ≤ a0
    ·rw [if_pos c10] at H
     have c10b0 := decide_eq_true c10
     clear c10
     obtain rfl := Option.some.inj H
     go_enter Tryz.func119, Tryz.ntmps119
     go_wp2
     go_ret
     exact ⟨by rfl, by repeat (exact Drawn0.refl _)⟩
    ·rw [if_neg c10] at H
     have c10b0 := decide_eq_false c10
     clear c10
     obtain rfl := Option.some.inj H
     go_enter Tryz.func119, Tryz.ntmps119
     go_wp2
     go_ret
     exact ⟨by rfl, by repeat (exact Drawn0.refl _)⟩
  ·rw [if_neg c8] at H
   have c8b0 := decide_eq_false c8
   clear c8
   by_cases c11 : 48 ≤ a0
   ·rw [if_pos c11] at H
    have c11b0 := decide_eq_true c11
    clear c11
    obtain rfl := Option.some.inj H
    go_enter Tryz.func119, Tryz.ntmps119
    go_wp2
    go_ret
    exact ⟨by rfl, by repeat (exact Drawn0.refl _)⟩
   ·rw [if_neg c11] at H
    have c11b0 := decide_eq_false c11
    clear c11
    obtain rfl := Option.some.inj H
    go_enter Tryz.func119, Tryz.ntmps119
    go_wp2
    go_ret
    exact ⟨by rfl, by repeat (exact Drawn0.refl _)⟩
def q_zzWhite.f (a0 : Int) : Option (Bool) := if a0 = 9 then (some true) else (if a0 = 10 then (some true) else (if a0 = 12 then (some true) else (if a0 = 13 then (some true) else (some (a0 == 32)))))
theorem q_zzWhite.calls (a0 : Int) (r : Bool) (w : World) (h : q_zzWhite.f a0 = some r) :
  Calls Tryz.prog 120 #[.int .i32 a0] w fun e w' => e = .returned (.bool r) ∧ Drawn0 w w' := by
 have H : (if a0 = 9 then (some true) else (if a0 = 10 then (some true) else (if a0 = 12 then (some true) else (if a0 = 13 then (some true) else (some (a0 == 32)))))) = some r := h
 clear h
 by_cases c2 : a0 = 9
 ·rw [if_pos c2] at H
  have c2b0 := beq_iff_eq.mpr c2
  have c2b1 := bne_eq_false_iff_eq.mpr c2
  clear c2
  obtain rfl := Option.some.inj H
  go_enter Tryz.func120, Tryz.ntmps120
  go_wp2
  go_ret
  exact ⟨by rfl, by repeat (exact Drawn0.refl _)⟩
 ·rw [if_neg c2] at H
  have c2b0 := beq_eq_false_iff_ne.mpr c2
  have c2b1 := bne_iff_ne.mpr c2
  by_cases c3 : a0 = 10
  ·rw [if_pos c3] at H
   have c3b0 := beq_iff_eq.mpr c3
   have c3b1 := bne_eq_false_iff_eq.mpr c3
   clear c3
   obtain rfl := Option.some.inj H
   go_enter Tryz.func120, Tryz.ntmps120
   go_wp2
   go_ret
   exact ⟨by rfl, by repeat (exact Drawn0.refl _)⟩
  ·rw [if_neg c3] at H
   have c3b0 := beq_eq_false_iff_ne.mpr c3
   have c3b1 := bne_iff_ne.mpr c3
   by_cases c4 : a0 = 12
   ·rw [if_pos c4] at H
    have c4b0 := beq_iff_eq.mpr c4
    have c4b1 := bne_eq_false_iff_eq.mpr c4
    clear c4
    obtain rfl := Option.some.inj H
    go_enter Tryz.func120, Tryz.ntmps120
    go_wp2
    go_ret
    exact ⟨by rfl, by repeat (exact Drawn0.refl _)⟩
   ·rw [if_neg c4] at H
    have c4b0 := beq_eq_false_iff_ne.mpr c4
    have c4b1 := bne_iff_ne.mpr c4
    by_cases c5 : a0 = 13
    ·rw [if_pos c5] at H
     have c5b0 := beq_iff_eq.mpr c5
     have c5b1 := bne_eq_false_iff_eq.mpr c5
     clear c5
     obtain rfl := Option.some.inj H
     go_enter Tryz.func120, Tryz.ntmps120
     go_wp2
     go_ret
     exact ⟨by rfl, by repeat (exact Drawn0.refl _)⟩
    ·rw [if_neg c5] at H
     have c5b0 := beq_eq_false_iff_ne.mpr c5
     have c5b1 := bne_iff_ne.mpr c5
     obtain rfl := Option.some.inj H
     go_enter Tryz.func120, Tryz.ntmps120
     go_wp2
     go_ret
     exact ⟨by rfl, by repeat (exact Drawn0.refl _)⟩
def q_zzBreak.f (a0 : Int) : Option (Bool) := if a0 = 13 then (some true) else (some (a0 == 10))
theorem q_zzBreak.calls (a0 : Int) (r : Bool) (w : World) (h : q_zzBreak.f a0 = some r) :
  Calls Tryz.prog 121 #[.int .i32 a0] w fun e w' => e = .returned (.bool r) ∧ Drawn0 w w' := by
 have H : (if a0 = 13 then (some true) else (some (a0 == 10))) = some r := h
 clear h
 by_cases c2 : a0 = 13
 ·rw [if_pos c2] at H
  have c2b0 := beq_iff_eq.mpr c2
  have c2b1 := bne_eq_false_iff_eq.mpr c2
  clear c2
  obtain rfl := Option.some.inj H
  go_enter Tryz.func121, Tryz.ntmps121
  go_wp2
  go_ret
  exact ⟨by rfl, by repeat (exact Drawn0.refl _)⟩
 ·rw [if_neg c2] at H
  have c2b0 := beq_eq_false_iff_ne.mpr c2
  have c2b1 := bne_iff_ne.mpr c2
  obtain rfl := Option.some.inj H
  go_enter Tryz.func121, Tryz.ntmps121
  go_wp2
  go_ret
  exact ⟨by rfl, by repeat (exact Drawn0.refl _)⟩
def q_zzBlankEnd.f (a0 : ByteArray) : Option (Bool) := if (a0.size : Int) < 2 then (some false) else (if 0 ≤ (wrap64 ((a0.size : Int) - 1)) then (if (wrap64 ((a0.size : Int) - 1)) < (a0.size : Int) then (if (bt a0 (wrap64 ((a0.size : Int) - 1))) = 10 then (if 0 ≤ (wrap64 ((a0.size : Int) - 2)) then (if (wrap64 ((a0.size : Int) - 2)) < (a0.size : Int) then (if (bt a0 (wrap64 ((a0.size : Int) - 2))) = 10 then (some true) else (if (a0.size : Int) > 2 then (if (bt a0 (wrap64 ((a0.size : Int) - 2))) = 13 then (if 0 ≤ (wrap64 ((a0.size : Int) - 3)) then (if (wrap64 ((a0.size : Int) - 3)) < (a0.size : Int) then (some ((bt a0 (wrap64 ((a0.size : Int) - 3))) == 10)) else (none)) else (none)) else (some false)) else (some false))) else (none)) else (none)) else (some false)) else (none)) else (none))
theorem q_zzBlankEnd.calls (a0 : ByteArray) (r : Bool) (w : World) (h : q_zzBlankEnd.f a0 = some r) :
  Calls Tryz.prog 122 #[.string a0] w fun e w' => e = .returned (.bool r) ∧ Drawn0 w w' := by
 have H : (if (a0.size : Int) < 2 then (some false) else (if 0 ≤ (wrap64 ((a0.size : Int) - 1)) then (if (wrap64 ((a0.size : Int) - 1)) < (a0.size : Int) then (if (bt a0 (wrap64 ((a0.size : Int) - 1))) = 10 then (if 0 ≤ (wrap64 ((a0.size : Int) - 2)) then (if (wrap64 ((a0.size : Int) - 2)) < (a0.size : Int) then (if (bt a0 (wrap64 ((a0.size : Int) - 2))) = 10 then (some true) else (if (a0.size : Int) > 2 then (if (bt a0 (wrap64 ((a0.size : Int) - 2))) = 13 then (if 0 ≤ (wrap64 ((a0.size : Int) - 3)) then (if (wrap64 ((a0.size : Int) - 3)) < (a0.size : Int) then (some ((bt a0 (wrap64 ((a0.size : Int) - 3))) == 10)) else (none)) else (none)) else (some false)) else (some false))) else (none)) else (none)) else (some false)) else (none)) else (none))) = some r := h
 clear h
 by_cases c2 : (a0.size : Int) < 2
 ·rw [if_pos c2] at H
  have c2b0 := decide_eq_true c2
  have c2b1 : decide (a0.size < 2) = true := decide_eq_true (by omega)
  clear c2
  obtain rfl := Option.some.inj H
  go_enter Tryz.func122, Tryz.ntmps122
  go_wp2
  go_ret
  exact ⟨by rfl, by repeat (exact Drawn0.refl _)⟩
 ·rw [if_neg c2] at H
  have c2b0 := decide_eq_false c2
  have c2b1 : decide (a0.size < 2) = false := decide_eq_false (by omega)
  clear c2
  obtain ⟨ji3, hji3⟩ : ∃ j_ : Int, (wrap64 ((a0.size : Int) - 1)) = j_ := ⟨_, rfl⟩
  rw [hji3] at H
  have hji3w : (IntKind.i64.wrap ((a0.size : Int) - 1)) = ji3 := (i64_w _).trans hji3
  replace H := yes_ H; obtain ⟨c4, H⟩ := H
  have c4b0 := decide_eq_true c4
  clear c4
  replace H := yes_ H; obtain ⟨c5, H⟩ := H
  have c5b0 := decide_eq_true c5
  clear c5
  by_cases c7 : (bt a0 (ji3)) = 10
  ·rw [if_pos c7] at H
   have c7b0 := beq_iff_eq.mpr c7
   have c7b1 := bne_eq_false_iff_eq.mpr c7
   clear c7
   obtain ⟨ji8, hji8⟩ : ∃ j_ : Int, (wrap64 ((a0.size : Int) - 2)) = j_ := ⟨_, rfl⟩
   rw [hji8] at H
   have hji8w : (IntKind.i64.wrap ((a0.size : Int) - 2)) = ji8 := (i64_w _).trans hji8
   replace H := yes_ H; obtain ⟨c9, H⟩ := H
   have c9b0 := decide_eq_true c9
   clear c9
   replace H := yes_ H; obtain ⟨c10, H⟩ := H
   have c10b0 := decide_eq_true c10
   clear c10
   by_cases c12 : (bt a0 (ji8)) = 10
   ·rw [if_pos c12] at H
    have c12b0 := beq_iff_eq.mpr c12
    have c12b1 := bne_eq_false_iff_eq.mpr c12
    clear c12
    obtain rfl := Option.some.inj H
    have p6 : 0 ≤ ((ji3) : Int) := of_decide_eq_true (by assumption)
    have q6 : (ji3) < (a0.size : Int) := of_decide_eq_true (by assumption)
    have hx6 := bt_at a0 (ji3)
    replace p6 := eq_true p6
    replace q6 := eq_true q6
    have p11 : 0 ≤ ((ji8) : Int) := of_decide_eq_true (by assumption)
    have q11 : (ji8) < (a0.size : Int) := of_decide_eq_true (by assumption)
    have hx11 := bt_at a0 (ji8)
    replace p11 := eq_true p11
    replace q11 := eq_true q11
    go_enter Tryz.func122, Tryz.ntmps122
    go_wp2
    go_ret
    exact ⟨by rfl, by repeat (exact Drawn0.refl _)⟩
   ·rw [if_neg c12] at H
    have c12b0 := beq_eq_false_iff_ne.mpr c12
    have c12b1 := bne_iff_ne.mpr c12
    by_cases c13 : (a0.size : Int) > 2
    ·rw [if_pos c13] at H
     have c13b0 : decide (2 < (a0.size : Int)) = true := decide_eq_true c13
     have c13b1 : decide (2 < a0.size) = true := decide_eq_true (by omega)
     clear c13
     by_cases c15 : (bt a0 (ji8)) = 13
     ·rw [if_pos c15] at H
      have c15b0 := beq_iff_eq.mpr c15
      have c15b1 := bne_eq_false_iff_eq.mpr c15
      clear c15
      obtain ⟨ji16, hji16⟩ : ∃ j_ : Int, (wrap64 ((a0.size : Int) - 3)) = j_ := ⟨_, rfl⟩
      rw [hji16] at H
      have hji16w : (IntKind.i64.wrap ((a0.size : Int) - 3)) = ji16 := (i64_w _).trans hji16
      replace H := yes_ H; obtain ⟨c17, H⟩ := H
      have c17b0 := decide_eq_true c17
      clear c17
      replace H := yes_ H; obtain ⟨c18, H⟩ := H
      have c18b0 := decide_eq_true c18
      clear c18
      obtain rfl := Option.some.inj H
      have p6 : 0 ≤ ((ji3) : Int) := of_decide_eq_true (by assumption)
      have q6 : (ji3) < (a0.size : Int) := of_decide_eq_true (by assumption)
      have hx6 := bt_at a0 (ji3)
      replace p6 := eq_true p6
      replace q6 := eq_true q6
      have p11 : 0 ≤ ((ji8) : Int) := of_decide_eq_true (by assumption)
      have q11 : (ji8) < (a0.size : Int) := of_decide_eq_true (by assumption)
      have hx11 := bt_at a0 (ji8)
      replace p11 := eq_true p11
      replace q11 := eq_true q11
      have p14 : 0 ≤ ((ji8) : Int) := of_decide_eq_true (by assumption)
      have q14 : (ji8) < (a0.size : Int) := of_decide_eq_true (by assumption)
      have hx14 := bt_at a0 (ji8)
      replace p14 := eq_true p14
      replace q14 := eq_true q14
      have p19 : 0 ≤ ((ji16) : Int) := of_decide_eq_true (by assumption)
      have q19 : (ji16) < (a0.size : Int) := of_decide_eq_true (by assumption)
      have hx19 := bt_at a0 (ji16)
      replace p19 := eq_true p19
      replace q19 := eq_true q19
      go_enter Tryz.func122, Tryz.ntmps122
      go_wp2
      go_ret
      exact ⟨by rfl, by repeat (exact Drawn0.refl _)⟩
     ·rw [if_neg c15] at H
      have c15b0 := beq_eq_false_iff_ne.mpr c15
      have c15b1 := bne_iff_ne.mpr c15
      obtain rfl := Option.some.inj H
      have p6 : 0 ≤ ((ji3) : Int) := of_decide_eq_true (by assumption)
      have q6 : (ji3) < (a0.size : Int) := of_decide_eq_true (by assumption)
      have hx6 := bt_at a0 (ji3)
      replace p6 := eq_true p6
      replace q6 := eq_true q6
      have p11 : 0 ≤ ((ji8) : Int) := of_decide_eq_true (by assumption)
      have q11 : (ji8) < (a0.size : Int) := of_decide_eq_true (by assumption)
      have hx11 := bt_at a0 (ji8)
      replace p11 := eq_true p11
      replace q11 := eq_true q11
      have p14 : 0 ≤ ((ji8) : Int) := of_decide_eq_true (by assumption)
      have q14 : (ji8) < (a0.size : Int) := of_decide_eq_true (by assumption)
      have hx14 := bt_at a0 (ji8)
      replace p14 := eq_true p14
      replace q14 := eq_true q14
      go_enter Tryz.func122, Tryz.ntmps122
      go_wp2
      go_ret
      exact ⟨by rfl, by repeat (exact Drawn0.refl _)⟩
    ·rw [if_neg c13] at H
     have c13b0 : decide (2 < (a0.size : Int)) = false := decide_eq_false c13
     have c13b1 : decide (2 < a0.size) = false := decide_eq_false (by omega)
     clear c13
     obtain rfl := Option.some.inj H
     have p6 : 0 ≤ ((ji3) : Int) := of_decide_eq_true (by assumption)
     have q6 : (ji3) < (a0.size : Int) := of_decide_eq_true (by assumption)
     have hx6 := bt_at a0 (ji3)
     replace p6 := eq_true p6
     replace q6 := eq_true q6
     have p11 : 0 ≤ ((ji8) : Int) := of_decide_eq_true (by assumption)
     have q11 : (ji8) < (a0.size : Int) := of_decide_eq_true (by assumption)
     have hx11 := bt_at a0 (ji8)
     replace p11 := eq_true p11
     replace q11 := eq_true q11
     go_enter Tryz.func122, Tryz.ntmps122
     go_wp2
     go_ret
     exact ⟨by rfl, by repeat (exact Drawn0.refl _)⟩
  ·rw [if_neg c7] at H
   have c7b0 := beq_eq_false_iff_ne.mpr c7
   have c7b1 := bne_iff_ne.mpr c7
   obtain rfl := Option.some.inj H
   have p6 : 0 ≤ ((ji3) : Int) := of_decide_eq_true (by assumption)
   have q6 : (ji3) < (a0.size : Int) := of_decide_eq_true (by assumption)
   have hx6 := bt_at a0 (ji3)
   replace p6 := eq_true p6
   replace q6 := eq_true q6
   go_enter Tryz.func122, Tryz.ntmps122
   go_wp2
   go_ret
   exact ⟨by rfl, by repeat (exact Drawn0.refl _)⟩
mutual
def q_diffCleanupSemanticScore.j0 : Nat → ByteArray → ByteArray → Bool → Option (Int)
 | 0, _, _, _ => none
 | k + 1, x0, x1, x24 => if x24 = true then (none) else ((utf8_DecodeLastRuneInString.f x0).bind fun bt353 => ((utf8_DecodeRuneInString.f x1).bind fun bt355 => ((q_zzNotAlnum.f bt353.1).bind fun t357 => ((q_zzNotAlnum.f bt355.1).bind fun t358 => (if t357 = true then ((q_zzWhite.f bt353.1).bind fun t359 => (q_diffCleanupSemanticScore.j1 k x0 x1 bt353.1 bt355.1 t357 t358 t359)) else (q_diffCleanupSemanticScore.j1 k x0 x1 bt353.1 bt355.1 t357 t358 false))))))
def q_diffCleanupSemanticScore.j1 : Nat → ByteArray → ByteArray → Int → Int → Bool → Bool → Bool → Option (Int)
 | 0, _, _, _, _, _, _, _ => none
 | k + 1, x0, x1, x5, x7, x9, x10, x11 => if x10 = true then ((q_zzWhite.f x7).bind fun t360 => (q_diffCleanupSemanticScore.j2 k x0 x1 x5 x7 x9 x10 x11 t360)) else (q_diffCleanupSemanticScore.j2 k x0 x1 x5 x7 x9 x10 x11 false)
def q_diffCleanupSemanticScore.j2 : Nat → ByteArray → ByteArray → Int → Int → Bool → Bool → Bool → Bool → Option (Int)
 | 0, _, _, _, _, _, _, _, _ => none
 | k + 1, x0, x1, x5, x7, x9, x10, x11, x12 => if x11 = true then ((q_zzBreak.f x5).bind fun t361 => (q_diffCleanupSemanticScore.j3 k x0 x1 x7 x9 x10 x11 x12 t361)) else (q_diffCleanupSemanticScore.j3 k x0 x1 x7 x9 x10 x11 x12 false)
def q_diffCleanupSemanticScore.j3 : Nat → ByteArray → ByteArray → Int → Bool → Bool → Bool → Bool → Bool → Option (Int)
 | 0, _, _, _, _, _, _, _, _ => none
 | k + 1, x0, x1, x7, x9, x10, x11, x12, x13 => if x12 = true then ((q_zzBreak.f x7).bind fun t362 => (q_diffCleanupSemanticScore.j4 k x0 x1 x9 x10 x11 x12 x13 t362)) else (q_diffCleanupSemanticScore.j4 k x0 x1 x9 x10 x11 x12 x13 false)
def q_diffCleanupSemanticScore.j4 : Nat → ByteArray → ByteArray → Bool → Bool → Bool → Bool → Bool → Bool → Option (Int)
 | 0, _, _, _, _, _, _, _, _ => none
 | k + 1, x0, x1, x9, x10, x11, x12, x13, x14 => if x13 = true then ((q_zzBlankEnd.f x0).bind fun t363 => (q_diffCleanupSemanticScore.j5 k x1 x9 x10 x11 x12 x13 x14 t363)) else (q_diffCleanupSemanticScore.j5 k x1 x9 x10 x11 x12 x13 x14 false)
def q_diffCleanupSemanticScore.j5 : Nat → ByteArray → Bool → Bool → Bool → Bool → Bool → Bool → Bool → Option (Int)
 | 0, _, _, _, _, _, _, _, _ => none
 | k + 1, x1, x9, x10, x11, x12, x13, x14, x15 => if x14 = true then ((q_zzBlankEnd.f x1).bind fun t364 => (q_diffCleanupSemanticScore.j6 k x9 x10 x11 x12 x13 x14 x15 t364)) else (q_diffCleanupSemanticScore.j6 k x9 x10 x11 x12 x13 x14 x15 false)
def q_diffCleanupSemanticScore.j6 : Nat → Bool → Bool → Bool → Bool → Bool → Bool → Bool → Bool → Option (Int)
 | 0, _, _, _, _, _, _, _, _ => none
 | k + 1, x9, x10, x11, x12, x13, x14, x15, x16 => if x15 = true then (q_diffCleanupSemanticScore.j7 k x9 x10 x11 x12 x13 x14 true) else (q_diffCleanupSemanticScore.j7 k x9 x10 x11 x12 x13 x14 x16)
def q_diffCleanupSemanticScore.j7 : Nat → Bool → Bool → Bool → Bool → Bool → Bool → Bool → Option (Int)
 | 0, _, _, _, _, _, _, _ => none
 | k + 1, x9, x10, x11, x12, x13, x14, x72 => if x72 = true then (none) else (if x13 = true then (q_diffCleanupSemanticScore.j8 k x9 x10 x11 x12 true) else (q_diffCleanupSemanticScore.j8 k x9 x10 x11 x12 x14))
def q_diffCleanupSemanticScore.j8 : Nat → Bool → Bool → Bool → Bool → Bool → Option (Int)
 | 0, _, _, _, _, _ => none
 | k + 1, x9, x10, x11, x12, x76 => if x76 = true then (none) else (if x9 = true then (if x11 = true then (q_diffCleanupSemanticScore.j9 k x9 x10 x11 x12 false) else (q_diffCleanupSemanticScore.j9 k x9 x10 x11 x12 x12)) else (q_diffCleanupSemanticScore.j9 k x9 x10 x11 x12 false))
def q_diffCleanupSemanticScore.j9 : Nat → Bool → Bool → Bool → Bool → Bool → Option (Int)
 | 0, _, _, _, _, _ => none
 | k + 1, x9, x10, x11, x12, x84 => if x84 = true then (none) else (if x11 = true then (q_diffCleanupSemanticScore.j10 k x9 x10 true) else (q_diffCleanupSemanticScore.j10 k x9 x10 x12))
def q_diffCleanupSemanticScore.j10 : Nat → Bool → Bool → Bool → Option (Int)
 | 0, _, _, _ => none
 | k + 1, x9, x10, x88 => if x88 = true then (none) else (if x9 = true then (none) else (if x10 = true then (none) else (some 0)))
end
def q_diffCleanupSemanticScore.f (k : Nat) (a0 : ByteArray) (a1 : ByteArray) : Option (Int) := if (a0.size : Int) = 0 then (q_diffCleanupSemanticScore.j0 k a0 a1 true) else (q_diffCleanupSemanticScore.j0 k a0 a1 ((a1.size : Int) == 0))
theorem q_diffCleanupSemanticScore.calls (k : Nat) (a0 : ByteArray) (a1 : ByteArray) (r : Int) (w : World) (h : q_diffCleanupSemanticScore.f k a0 a1 = some r) :
  Calls Tryz.prog 90 #[.string a0, .string a1] w fun e w' => e = .returned (.int .i64 r) ∧ Below w.heap.size w w' := by
 have HB := aS_ (Below.refl w.heap.size w)
 have H : (if (a0.size : Int) = 0 then (q_diffCleanupSemanticScore.j0 k a0 a1 true) else (q_diffCleanupSemanticScore.j0 k a0 a1 ((a1.size : Int) == 0))) = some r := h
 clear h
 have HC3 := Aside0.mk H
 clear H
 go_enter Tryz.func90, Tryz.ntmps90
 go_upto_region 1 with (fail)
 go_cut [24] (fun v24 wc => ∃ (kq : Nat) (x24_2 : Bool), v24 = .bool x24_2 ∧ Aside0 (q_diffCleanupSemanticScore.j0 kq a0 a1 x24_2 = some r) ∧ Aside0 (kq ≤ k) ∧ Aside0 (Below w.heap.size w wc))
 case first =>
  have H := HC3.out
  clear HC3
  by_cases c4 : (a0.size : Int) = 0
  ·rw [if_pos c4] at H
   have c4b0 := beq_iff_eq.mpr c4
   have c4b1 := bne_eq_false_iff_eq.mpr c4
   clear c4
   have H' := Aside0.mk H
   clear H
   go_wp2
   go_meet
   case rel => exact ⟨_, (true), (by rfl), H', ⟨by omega⟩, ⟨bel_ HB.out⟩⟩
  ·rw [if_neg c4] at H
   have c4b0 := beq_eq_false_iff_ne.mpr c4
   have c4b1 := bne_iff_ne.mpr c4
   have H' := Aside0.mk H
   clear H
   go_wp2
   go_meet
   case rel => exact ⟨_, (((a1.size : Int) == 0)), (by rfl), H', ⟨by omega⟩, ⟨bel_ HB.out⟩⟩
 case rest =>
  clear HC3
  obtain ⟨kq, x24_2, rfl, HA, HJ2, HB⟩ := hcut
  cases kq with
  | zero => exact absurd HA.out (by simp [q_diffCleanupSemanticScore.j0])
  | succ kj2 =>
   have H := HA.out; clear HA
   simp only [q_diffCleanupSemanticScore.j0] at H
   by_cases c5 : x24_2 = true
   ·subst c5
    rw [if_pos rfl] at H
    exact absurd H (by simp)
   ·replace c5 := Bool.eq_false_iff.mpr c5
    subst c5
    rw [if_neg (show ¬ (false = true) by decide)] at H
    replace H := Option.bind_eq_some_iff.mp H
    obtain ⟨⟨t353, t354⟩, A60, H⟩ := H
    try dsimp only at H
    have A6 := Aside0.mk A60
    clear A60
    replace H := Option.bind_eq_some_iff.mp H
    obtain ⟨⟨t355, t356⟩, A70, H⟩ := H
    try dsimp only at H
    have A7 := Aside0.mk A70
    clear A70
    replace H := Option.bind_eq_some_iff.mp H
    obtain ⟨t357, A80, H⟩ := H
    have A8 := Aside0.mk A80
    clear A80
    replace H := Option.bind_eq_some_iff.mp H
    obtain ⟨t358, A90, H⟩ := H
    have A9 := Aside0.mk A90
    clear A90
    have HC10 := Aside0.mk H
    clear H
    go_upto_region 7 with (first | (go_at_call 118; (with_reducible refine (utf8_DecodeLastRuneInString.calls a0 t353 t354 _ A6.out).mono ?_); rintro e w11 ⟨rfl, hb⟩; replace HB := aS_ (bt_ (bel_ HB.out) hb)) | (go_at_call 91; (with_reducible refine (utf8_DecodeRuneInString.calls a1 t355 t356 _ A7.out).mono ?_); rintro e w12 ⟨rfl, hb⟩; replace HB := aS_ (bt_ (bel_ HB.out) hb)) | ((with_reducible refine gate_callee (f := 119) rfl ?_); refine goesL_ (some 36) rfl rfl Tryz.func119 (by kernel_rfl) rfl #[.int .i32 t353] rfl (by (try simp only [List.map_toArray, List.map_cons, List.map_nil]); rfl) ?_; (with_reducible refine (q_zzNotAlnum.calls t353 t357 _ A8.out).mono ?_); rintro e w' ⟨rfl, ⟨nd, rfl⟩⟩; refine ⟨_, rfl, ?_⟩) | ((with_reducible refine gate_callee (f := 119) rfl ?_); refine goesL_ (some 38) rfl rfl Tryz.func119 (by kernel_rfl) rfl #[.int .i32 t355] rfl (by (try simp only [List.map_toArray, List.map_cons, List.map_nil]); rfl) ?_; (with_reducible refine (q_zzNotAlnum.calls t355 t358 _ A9.out).mono ?_); rintro e w' ⟨rfl, ⟨nd, rfl⟩⟩; refine ⟨_, rfl, ?_⟩))
    go_cut [11] (fun v11 wc => ∃ (kq : Nat) (x11_9 : Bool), v11 = .bool x11_9 ∧ Aside0 (q_diffCleanupSemanticScore.j1 kq a0 a1 t353 t355 t357 t358 x11_9 = some r) ∧ Aside0 (kq ≤ kj2) ∧ Aside0 (Below w.heap.size w wc))
    case first =>
     have H := HC10.out
     clear HC10
     by_cases c13 : t357 = true
     ·subst c13
      rw [if_pos rfl] at H
      replace H := Option.bind_eq_some_iff.mp H
      obtain ⟨t359, A140, H⟩ := H
      have A14 := Aside0.mk A140
      clear A140
      have H' := Aside0.mk H
      clear H
      go_wp2_with ((go_at_call 120; (with_reducible refine (q_zzWhite.calls t353 t359 _ A14.out).mono ?_); rintro e w' ⟨rfl, ⟨nd, rfl⟩⟩))
      go_meet
      case rel => exact ⟨_, (t359), (by rfl), H', ⟨by have := HJ2.out; omega⟩, ⟨bel_ HB.out⟩⟩
     ·replace c13 := Bool.eq_false_iff.mpr c13
      subst c13
      rw [if_neg (show ¬ (false = true) by decide)] at H
      have H' := Aside0.mk H
      clear H
      go_wp2
      go_meet
      case rel => exact ⟨_, (false), (by rfl), H', ⟨by have := HJ2.out; omega⟩, ⟨bel_ HB.out⟩⟩
    case rest =>
     clear HC10
     obtain ⟨kq, x11_9, rfl, HA, HJ9, HB⟩ := hcut
     cases kq with
     | zero => exact absurd HA.out (by simp [q_diffCleanupSemanticScore.j1])
     | succ kj9 =>
      have H := HA.out; clear HA
      simp only [q_diffCleanupSemanticScore.j1] at H
      have HC15 := Aside0.mk H
      clear H
      go_upto_region 8 with (fail)
      go_cut [12] (fun v12 wc => ∃ (kq : Nat) (x12_14 : Bool), v12 = .bool x12_14 ∧ Aside0 (q_diffCleanupSemanticScore.j2 kq a0 a1 t353 t355 t357 t358 x11_9 x12_14 = some r) ∧ Aside0 (kq ≤ kj9) ∧ Aside0 (Below w.heap.size w wc))
      case first =>
       have H := HC15.out
       clear HC15
       by_cases c16 : t358 = true
       ·subst c16
        rw [if_pos rfl] at H
        replace H := Option.bind_eq_some_iff.mp H
        obtain ⟨t360, A170, H⟩ := H
        have A17 := Aside0.mk A170
        clear A170
        have H' := Aside0.mk H
        clear H
        go_wp2_with ((go_at_call 120; (with_reducible refine (q_zzWhite.calls t355 t360 _ A17.out).mono ?_); rintro e w' ⟨rfl, ⟨nd, rfl⟩⟩))
        go_meet
        case rel => exact ⟨_, (t360), (by rfl), H', ⟨by have := HJ2.out; have := HJ9.out; omega⟩, ⟨bel_ HB.out⟩⟩
       ·replace c16 := Bool.eq_false_iff.mpr c16
        subst c16
        rw [if_neg (show ¬ (false = true) by decide)] at H
        have H' := Aside0.mk H
        clear H
        go_wp2
        go_meet
        case rel => exact ⟨_, (false), (by rfl), H', ⟨by have := HJ2.out; have := HJ9.out; omega⟩, ⟨bel_ HB.out⟩⟩
      case rest =>
       clear HC15
       obtain ⟨kq, x12_14, rfl, HA, HJ14, HB⟩ := hcut
       cases kq with
       | zero => exact absurd HA.out (by simp [q_diffCleanupSemanticScore.j2])
       | succ kj14 =>
        have H := HA.out; clear HA
        simp only [q_diffCleanupSemanticScore.j2] at H
        have HC18 := Aside0.mk H
        clear H
        go_upto_region 9 with (fail)
        go_cut [13] (fun v13 wc => ∃ (kq : Nat) (x13_17 : Bool), v13 = .bool x13_17 ∧ Aside0 (q_diffCleanupSemanticScore.j3 kq a0 a1 t355 t357 t358 x11_9 x12_14 x13_17 = some r) ∧ Aside0 (kq ≤ kj14) ∧ Aside0 (Below w.heap.size w wc))
        case first =>
         have H := HC18.out
         clear HC18
         by_cases c19 : x11_9 = true
         ·subst c19
          rw [if_pos rfl] at H
          replace H := Option.bind_eq_some_iff.mp H
          obtain ⟨t361, A200, H⟩ := H
          have A20 := Aside0.mk A200
          clear A200
          have H' := Aside0.mk H
          clear H
          go_wp2_with ((go_at_call 121; (with_reducible refine (q_zzBreak.calls t353 t361 _ A20.out).mono ?_); rintro e w' ⟨rfl, ⟨nd, rfl⟩⟩))
          go_meet
          case rel => exact ⟨_, (t361), (by rfl), H', ⟨by have := HJ2.out; have := HJ9.out; have := HJ14.out; omega⟩, ⟨bel_ HB.out⟩⟩
         ·replace c19 := Bool.eq_false_iff.mpr c19
          subst c19
          rw [if_neg (show ¬ (false = true) by decide)] at H
          have H' := Aside0.mk H
          clear H
          go_wp2
          go_meet
          case rel => exact ⟨_, (false), (by rfl), H', ⟨by have := HJ2.out; have := HJ9.out; have := HJ14.out; omega⟩, ⟨bel_ HB.out⟩⟩
        case rest =>
         clear HC18
         obtain ⟨kq, x13_17, rfl, HA, HJ17, HB⟩ := hcut
         cases kq with
         | zero => exact absurd HA.out (by simp [q_diffCleanupSemanticScore.j3])
         | succ kj17 =>
          have H := HA.out; clear HA
          simp only [q_diffCleanupSemanticScore.j3] at H
          have HC21 := Aside0.mk H
          clear H
          go_upto_region 10 with (fail)
          go_cut [14] (fun v14 wc => ∃ (kq : Nat) (x14_20 : Bool), v14 = .bool x14_20 ∧ Aside0 (q_diffCleanupSemanticScore.j4 kq a0 a1 t357 t358 x11_9 x12_14 x13_17 x14_20 = some r) ∧ Aside0 (kq ≤ kj17) ∧ Aside0 (Below w.heap.size w wc))
          case first =>
           have H := HC21.out
           clear HC21
           by_cases c22 : x12_14 = true
           ·subst c22
            rw [if_pos rfl] at H
            replace H := Option.bind_eq_some_iff.mp H
            obtain ⟨t362, A230, H⟩ := H
            have A23 := Aside0.mk A230
            clear A230
            have H' := Aside0.mk H
            clear H
            go_wp2_with ((go_at_call 121; (with_reducible refine (q_zzBreak.calls t355 t362 _ A23.out).mono ?_); rintro e w' ⟨rfl, ⟨nd, rfl⟩⟩))
            go_meet
            case rel => exact ⟨_, (t362), (by rfl), H', ⟨by have := HJ2.out; have := HJ9.out; have := HJ14.out; have := HJ17.out; omega⟩, ⟨bel_ HB.out⟩⟩
           ·replace c22 := Bool.eq_false_iff.mpr c22
            subst c22
            rw [if_neg (show ¬ (false = true) by decide)] at H
            have H' := Aside0.mk H
            clear H
            go_wp2
            go_meet
            case rel => exact ⟨_, (false), (by rfl), H', ⟨by have := HJ2.out; have := HJ9.out; have := HJ14.out; have := HJ17.out; omega⟩, ⟨bel_ HB.out⟩⟩
          case rest =>
           clear HC21
           obtain ⟨kq, x14_20, rfl, HA, HJ20, HB⟩ := hcut
           cases kq with
           | zero => exact absurd HA.out (by simp [q_diffCleanupSemanticScore.j4])
           | succ kj20 =>
            have H := HA.out; clear HA
            simp only [q_diffCleanupSemanticScore.j4] at H
            have HC24 := Aside0.mk H
            clear H
            go_upto_region 11 with (fail)
            go_cut [15] (fun v15 wc => ∃ (kq : Nat) (x15_23 : Bool), v15 = .bool x15_23 ∧ Aside0 (q_diffCleanupSemanticScore.j5 kq a1 t357 t358 x11_9 x12_14 x13_17 x14_20 x15_23 = some r) ∧ Aside0 (kq ≤ kj20) ∧ Aside0 (Below w.heap.size w wc))
            case first =>
             have H := HC24.out
             clear HC24
             by_cases c25 : x13_17 = true
             ·subst c25
              rw [if_pos rfl] at H
              replace H := Option.bind_eq_some_iff.mp H
              obtain ⟨t363, A260, H⟩ := H
              have A26 := Aside0.mk A260
              clear A260
              have H' := Aside0.mk H
              clear H
              go_wp2_with ((go_at_call 122; (with_reducible refine (q_zzBlankEnd.calls a0 t363 _ A26.out).mono ?_); rintro e w' ⟨rfl, ⟨nd, rfl⟩⟩))
              go_meet
              case rel => exact ⟨_, (t363), (by rfl), H', ⟨by have := HJ2.out; have := HJ9.out; have := HJ14.out; have := HJ17.out; have := HJ20.out; omega⟩, ⟨bel_ HB.out⟩⟩
             ·replace c25 := Bool.eq_false_iff.mpr c25
              subst c25
              rw [if_neg (show ¬ (false = true) by decide)] at H
              have H' := Aside0.mk H
              clear H
              go_wp2
              go_meet
              case rel => exact ⟨_, (false), (by rfl), H', ⟨by have := HJ2.out; have := HJ9.out; have := HJ14.out; have := HJ17.out; have := HJ20.out; omega⟩, ⟨bel_ HB.out⟩⟩
            case rest =>
             clear HC24
             obtain ⟨kq, x15_23, rfl, HA, HJ23, HB⟩ := hcut
             cases kq with
             | zero => exact absurd HA.out (by simp [q_diffCleanupSemanticScore.j5])
             | succ kj23 =>
              have H := HA.out; clear HA
              simp only [q_diffCleanupSemanticScore.j5] at H
              have HC27 := Aside0.mk H
              clear H
              go_upto_region 12 with (fail)
              go_cut [16] (fun v16 wc => ∃ (kq : Nat) (x16_26 : Bool), v16 = .bool x16_26 ∧ Aside0 (q_diffCleanupSemanticScore.j6 kq t357 t358 x11_9 x12_14 x13_17 x14_20 x15_23 x16_26 = some r) ∧ Aside0 (kq ≤ kj23) ∧ Aside0 (Below w.heap.size w wc))
              case first =>
               have H := HC27.out
               clear HC27
               by_cases c28 : x14_20 = true
               ·subst c28
                rw [if_pos rfl] at H
                replace H := Option.bind_eq_some_iff.mp H
                obtain ⟨t364, A290, H⟩ := H
                have A29 := Aside0.mk A290
                clear A290
                have H' := Aside0.mk H
                clear H
                go_wp2_with ((go_at_call 122; (with_reducible refine (q_zzBlankEnd.calls a1 t364 _ A29.out).mono ?_); rintro e w' ⟨rfl, ⟨nd, rfl⟩⟩))
                go_meet
                case rel => exact ⟨_, (t364), (by rfl), H', ⟨by have := HJ2.out; have := HJ9.out; have := HJ14.out; have := HJ17.out; have := HJ20.out; have := HJ23.out; omega⟩, ⟨bel_ HB.out⟩⟩
               ·replace c28 := Bool.eq_false_iff.mpr c28
                subst c28
                rw [if_neg (show ¬ (false = true) by decide)] at H
                have H' := Aside0.mk H
                clear H
                go_wp2
                go_meet
                case rel => exact ⟨_, (false), (by rfl), H', ⟨by have := HJ2.out; have := HJ9.out; have := HJ14.out; have := HJ17.out; have := HJ20.out; have := HJ23.out; omega⟩, ⟨bel_ HB.out⟩⟩
              case rest =>
               clear HC27
               obtain ⟨kq, x16_26, rfl, HA, HJ26, HB⟩ := hcut
               cases kq with
               | zero => exact absurd HA.out (by simp [q_diffCleanupSemanticScore.j6])
               | succ kj26 =>
                have H := HA.out; clear HA
                simp only [q_diffCleanupSemanticScore.j6] at H
                have HC30 := Aside0.mk H
                clear H
                go_upto_region 13 with (fail)
                go_cut [72] (fun v72 wc => ∃ (kq : Nat) (x72_29 : Bool), v72 = .bool x72_29 ∧ Aside0 (q_diffCleanupSemanticScore.j7 kq t357 t358 x11_9 x12_14 x13_17 x14_20 x72_29 = some r) ∧ Aside0 (kq ≤ kj26) ∧ Aside0 (Below w.heap.size w wc))
                case first =>
                 have H := HC30.out
                 clear HC30
                 by_cases c31 : x15_23 = true
                 ·subst c31
                  rw [if_pos rfl] at H
                  have H' := Aside0.mk H
                  clear H
                  go_wp2
                  go_meet
                  case rel => exact ⟨_, (true), (by rfl), H', ⟨by have := HJ2.out; have := HJ9.out; have := HJ14.out; have := HJ17.out; have := HJ20.out; have := HJ23.out; have := HJ26.out; omega⟩, ⟨bel_ HB.out⟩⟩
                 ·replace c31 := Bool.eq_false_iff.mpr c31
                  subst c31
                  rw [if_neg (show ¬ (false = true) by decide)] at H
                  have H' := Aside0.mk H
                  clear H
                  go_wp2
                  go_meet
                  case rel => exact ⟨_, (x16_26), (by rfl), H', ⟨by have := HJ2.out; have := HJ9.out; have := HJ14.out; have := HJ17.out; have := HJ20.out; have := HJ23.out; have := HJ26.out; omega⟩, ⟨bel_ HB.out⟩⟩
                case rest =>
                 clear HC30
                 obtain ⟨kq, x72_29, rfl, HA, HJ29, HB⟩ := hcut
                 cases kq with
                 | zero => exact absurd HA.out (by simp [q_diffCleanupSemanticScore.j7])
                 | succ kj29 =>
                  have H := HA.out; clear HA
                  simp only [q_diffCleanupSemanticScore.j7] at H
                  by_cases c32 : x72_29 = true
                  ·subst c32
                   rw [if_pos rfl] at H
                   exact absurd H (by simp)
                  ·replace c32 := Bool.eq_false_iff.mpr c32
                   subst c32
                   rw [if_neg (show ¬ (false = true) by decide)] at H
                   have HC33 := Aside0.mk H
                   clear H
                   go_upto_region 15 with (fail)
                   go_cut [76] (fun v76 wc => ∃ (kq : Nat) (x76_32 : Bool), v76 = .bool x76_32 ∧ Aside0 (q_diffCleanupSemanticScore.j8 kq t357 t358 x11_9 x12_14 x76_32 = some r) ∧ Aside0 (kq ≤ kj29) ∧ Aside0 (Below w.heap.size w wc))
                   case first =>
                    have H := HC33.out
                    clear HC33
                    by_cases c34 : x13_17 = true
                    ·subst c34
                     rw [if_pos rfl] at H
                     have H' := Aside0.mk H
                     clear H
                     go_wp2
                     go_meet
                     case rel => exact ⟨_, (true), (by rfl), H', ⟨by have := HJ2.out; have := HJ9.out; have := HJ14.out; have := HJ17.out; have := HJ20.out; have := HJ23.out; have := HJ26.out; have := HJ29.out; omega⟩, ⟨bel_ HB.out⟩⟩
                    ·replace c34 := Bool.eq_false_iff.mpr c34
                     subst c34
                     rw [if_neg (show ¬ (false = true) by decide)] at H
                     have H' := Aside0.mk H
                     clear H
                     go_wp2
                     go_meet
                     case rel => exact ⟨_, (x14_20), (by rfl), H', ⟨by have := HJ2.out; have := HJ9.out; have := HJ14.out; have := HJ17.out; have := HJ20.out; have := HJ23.out; have := HJ26.out; have := HJ29.out; omega⟩, ⟨bel_ HB.out⟩⟩
                   case rest =>
                    clear HC33
                    obtain ⟨kq, x76_32, rfl, HA, HJ32, HB⟩ := hcut
                    cases kq with
                    | zero => exact absurd HA.out (by simp [q_diffCleanupSemanticScore.j8])
                    | succ kj32 =>
                     have H := HA.out; clear HA
                     simp only [q_diffCleanupSemanticScore.j8] at H
                     by_cases c35 : x76_32 = true
                     ·subst c35
                      rw [if_pos rfl] at H
                      exact absurd H (by simp)
                     ·replace c35 := Bool.eq_false_iff.mpr c35
                      subst c35
                      rw [if_neg (show ¬ (false = true) by decide)] at H
                      have HC36 := Aside0.mk H
                      clear H
                      go_upto_region 17 with (fail)
                      go_cut [84] (fun v84 wc => ∃ (kq : Nat) (x84_35 : Bool), v84 = .bool x84_35 ∧ Aside0 (q_diffCleanupSemanticScore.j9 kq t357 t358 x11_9 x12_14 x84_35 = some r) ∧ Aside0 (kq ≤ kj32) ∧ Aside0 (Below w.heap.size w wc))
                      case first =>
                       have H := HC36.out
                       clear HC36
                       by_cases c37 : t357 = true
                       ·subst c37
                        rw [if_pos rfl] at H
                        by_cases c38 : x11_9 = true
                        ·subst c38
                         rw [if_pos rfl] at H
                         have H' := Aside0.mk H
                         clear H
                         go_wp2
                         go_meet
                         case rel => exact ⟨_, (false), (by rfl), H', ⟨by have := HJ2.out; have := HJ9.out; have := HJ14.out; have := HJ17.out; have := HJ20.out; have := HJ23.out; have := HJ26.out; have := HJ29.out; have := HJ32.out; omega⟩, ⟨bel_ HB.out⟩⟩
                        ·replace c38 := Bool.eq_false_iff.mpr c38
                         subst c38
                         rw [if_neg (show ¬ (false = true) by decide)] at H
                         have H' := Aside0.mk H
                         clear H
                         go_wp2
                         go_meet
                         case rel => exact ⟨_, (x12_14), (by rfl), H', ⟨by have := HJ2.out; have := HJ9.out; have := HJ14.out; have := HJ17.out; have := HJ20.out; have := HJ23.out; have := HJ26.out; have := HJ29.out; have := HJ32.out; omega⟩, ⟨bel_ HB.out⟩⟩
                       ·replace c37 := Bool.eq_false_iff.mpr c37
                        subst c37
                        rw [if_neg (show ¬ (false = true) by decide)] at H
                        have H' := Aside0.mk H
                        clear H
                        go_wp2
                        go_meet
                        case rel => exact ⟨_, (false), (by rfl), H', ⟨by have := HJ2.out; have := HJ9.out; have := HJ14.out; have := HJ17.out; have := HJ20.out; have := HJ23.out; have := HJ26.out; have := HJ29.out; have := HJ32.out; omega⟩, ⟨bel_ HB.out⟩⟩
                      case rest =>
                       clear HC36
                       obtain ⟨kq, x84_35, rfl, HA, HJ35, HB⟩ := hcut
                       cases kq with
                       | zero => exact absurd HA.out (by simp [q_diffCleanupSemanticScore.j9])
                       | succ kj35 =>
                        have H := HA.out; clear HA
                        simp only [q_diffCleanupSemanticScore.j9] at H
                        by_cases c39 : x84_35 = true
                        ·subst c39
                         rw [if_pos rfl] at H
                         exact absurd H (by simp)
                        ·replace c39 := Bool.eq_false_iff.mpr c39
                         subst c39
                         rw [if_neg (show ¬ (false = true) by decide)] at H
                         have HC40 := Aside0.mk H
                         clear H
                         go_upto_region 19 with (fail)
                         go_cut [88] (fun v88 wc => ∃ (kq : Nat) (x88_39 : Bool), v88 = .bool x88_39 ∧ Aside0 (q_diffCleanupSemanticScore.j10 kq t357 t358 x88_39 = some r) ∧ Aside0 (kq ≤ kj35) ∧ Aside0 (Below w.heap.size w wc))
                         case first =>
                          have H := HC40.out
                          clear HC40
                          by_cases c41 : x11_9 = true
                          ·subst c41
                           rw [if_pos rfl] at H
                           have H' := Aside0.mk H
                           clear H
                           go_wp2
                           go_meet
                           case rel => exact ⟨_, (true), (by rfl), H', ⟨by have := HJ2.out; have := HJ9.out; have := HJ14.out; have := HJ17.out; have := HJ20.out; have := HJ23.out; have := HJ26.out; have := HJ29.out; have := HJ32.out; have := HJ35.out; omega⟩, ⟨bel_ HB.out⟩⟩
                          ·replace c41 := Bool.eq_false_iff.mpr c41
                           subst c41
                           rw [if_neg (show ¬ (false = true) by decide)] at H
                           have H' := Aside0.mk H
                           clear H
                           go_wp2
                           go_meet
                           case rel => exact ⟨_, (x12_14), (by rfl), H', ⟨by have := HJ2.out; have := HJ9.out; have := HJ14.out; have := HJ17.out; have := HJ20.out; have := HJ23.out; have := HJ26.out; have := HJ29.out; have := HJ32.out; have := HJ35.out; omega⟩, ⟨bel_ HB.out⟩⟩
                         case rest =>
                          clear HC40
                          obtain ⟨kq, x88_39, rfl, HA, HJ39, HB⟩ := hcut
                          cases kq with
                          | zero => exact absurd HA.out (by simp [q_diffCleanupSemanticScore.j10])
                          | succ kj39 =>
                           have H := HA.out; clear HA
                           simp only [q_diffCleanupSemanticScore.j10] at H
                           by_cases c42 : x88_39 = true
                           ·subst c42
                            rw [if_pos rfl] at H
                            exact absurd H (by simp)
                           ·replace c42 := Bool.eq_false_iff.mpr c42
                            subst c42
                            rw [if_neg (show ¬ (false = true) by decide)] at H
                            by_cases c43 : t357 = true
                            ·subst c43
                             rw [if_pos rfl] at H
                             exact absurd H (by simp)
                            ·replace c43 := Bool.eq_false_iff.mpr c43
                             subst c43
                             rw [if_neg (show ¬ (false = true) by decide)] at H
                             by_cases c44 : t358 = true
                             ·subst c44
                              rw [if_pos rfl] at H
                              exact absurd H (by simp)
                             ·replace c44 := Bool.eq_false_iff.mpr c44
                              subst c44
                              rw [if_neg (show ¬ (false = true) by decide)] at H
                              obtain rfl := Option.some.inj H
                              go_wp2
                              go_ret
                              exact ⟨by rfl, bel_ HB.out⟩
mutual
def p_DiffCleanupSemanticLossless.l0 : Nat → Nat → List (S93) → Int → Option ((List (S93)))
 | 0, _, _, _ => none
 | k + 1, x0, x1, x5 => if x5 < (wrap64 ((x1.length : Int) - 1)) then (if 0 ≤ (wrap64 (x5 - 1)) then (if (wrap64 (x5 - 1)) < (x1.length : Int) then (if ((rd_T93 x1 (wrap64 (x5 - 1))).f0) = 0 then (if 0 ≤ (wrap64 (x5 + 1)) then (if (wrap64 (x5 + 1)) < (x1.length : Int) then (p_DiffCleanupSemanticLossless.j1 k x0 x1 x5 (((rd_T93 x1 (wrap64 (x5 + 1))).f0) == 0)) else (none)) else (none)) else (p_DiffCleanupSemanticLossless.j1 k x0 x1 x5 false)) else (none)) else (none)) else (some x1)
def p_DiffCleanupSemanticLossless.j1 : Nat → Nat → List (S93) → Int → Bool → Option ((List (S93)))
 | 0, _, _, _, _ => none
 | k + 1, x0, x1, x5, x38 => if x38 = true then (if 0 ≤ (wrap64 (x5 - 1)) then (if (wrap64 (x5 - 1)) < (x1.length : Int) then (if 0 ≤ x5 then (if x5 < (x1.length : Int) then (if 0 ≤ (wrap64 (x5 + 1)) then (if (wrap64 (x5 + 1)) < (x1.length : Int) then ((p_DiffCommonSuffix.f k x0 ((rd_T93 x1 (wrap64 (x5 - 1))).f1) ((rd_T93 x1 x5).f1)).bind fun t370 => (if t370 > 0 then (none) else ((q_diffCleanupSemanticScore.f k ((rd_T93 x1 (wrap64 (x5 - 1))).f1) ((rd_T93 x1 x5).f1)).bind fun t371 => ((q_diffCleanupSemanticScore.f k ((rd_T93 x1 x5).f1) ((rd_T93 x1 (wrap64 (x5 + 1))).f1)).bind fun t372 => (p_DiffCleanupSemanticLossless.l1 k x0 x1 x5 ((rd_T93 x1 x5).f1) ((rd_T93 x1 (wrap64 (x5 + 1))).f1) ((rd_T93 x1 (wrap64 (x5 - 1))).f1)))))) else (none)) else (none)) else (none)) else (none)) else (none)) else (none)) else (p_DiffCleanupSemanticLossless.l0 k x0 x1 (wrap64 (x5 + 1)))
def p_DiffCleanupSemanticLossless.j5 : Nat → Nat → List (S93) → Int → ByteArray → Option ((List (S93)))
 | 0, _, _, _, _ => none
 | k + 1, x0, x1, x5, x11 => if 0 ≤ (wrap64 (x5 - 1)) then (if (wrap64 (x5 - 1)) < (x1.length : Int) then (if ((rd_T93 x1 (wrap64 (x5 - 1))).f1).toList = x11.toList then (p_DiffCleanupSemanticLossless.l0 k x0 x1 (wrap64 (x5 + 1))) else (none)) else (none)) else (none)
def p_DiffCleanupSemanticLossless.l1 : Nat → Nat → List (S93) → Int → ByteArray → ByteArray → ByteArray → Option ((List (S93)))
 | 0, _, _, _, _, _, _ => none
 | k + 1, x0, x1, x5, x7, x8, x11 => if (x7.size : Int) = 0 then (p_DiffCleanupSemanticLossless.j3 k x0 x1 x5 x7 x8 x11 false) else (p_DiffCleanupSemanticLossless.j3 k x0 x1 x5 x7 x8 x11 ((x8.size : Int) != 0))
def p_DiffCleanupSemanticLossless.j3 : Nat → Nat → List (S93) → Int → ByteArray → ByteArray → ByteArray → Bool → Option ((List (S93)))
 | 0, _, _, _, _, _, _, _ => none
 | k + 1, x0, x1, x5, x7, x8, x11, x102 => if x102 = true then ((utf8_DecodeRuneInString.f x7).bind fun bt373 => (if (x8.size : Int) < bt373.2 then (p_DiffCleanupSemanticLossless.j4 k x0 x1 x5 x11 true) else (if 0 ≤ bt373.2 then (if bt373.2 ≤ (x7.size : Int) then (if bt373.2 ≤ (x8.size : Int) then (p_DiffCleanupSemanticLossless.j4 k x0 x1 x5 x11 ((x7.extract 0 (bt373.2 : Int).toNat).toList != (x8.extract 0 (bt373.2 : Int).toNat).toList)) else (none)) else (none)) else (none)))) else (p_DiffCleanupSemanticLossless.j5 k x0 x1 x5 x11)
def p_DiffCleanupSemanticLossless.j4 : Nat → Nat → List (S93) → Int → ByteArray → Bool → Option ((List (S93)))
 | 0, _, _, _, _, _ => none
 | k + 1, x0, x1, x5, x11, x120 => if x120 = true then (p_DiffCleanupSemanticLossless.j5 k x0 x1 x5 x11) else (none)
end
def p_DiffCleanupSemanticLossless.f (k : Nat) (a0 : Nat) (l1 : List (S93)) : Option ((List (S93))) := p_DiffCleanupSemanticLossless.l0 k a0 l1 1
theorem p_DiffCleanupSemanticLossless.calls (k : Nat) (a0 : Nat) (P1_ : Nat → Prop) (u9000_ : Value) (l1 : List (S93)) (r : List (S93)) (w0 w : World) (hB : Below w0.heap.size w0 w) (hd0 : DmpAt w0 a0) (ho1 : Kd.R k93 93 w w0.heap.size P1_ u9000_ l1) (h : p_DiffCleanupSemanticLossless.f k a0 l1 = some r) :
  Calls Tryz.prog 63 #[.pointer (some ⟨a0, 0, none⟩), u9000_] w fun e w' => ∃ v0_ : Value, e = .returned (v0_) ∧ Kd.R k93 93 w' w0.heap.size (fun k_ => (P1_ k_ ∨ w.heap.size ≤ k_)) v0_ r ∧ Below w0.heap.size w0 w' ∧ Kept w w' (fun k_ => P1_ k_) := by
 have HD0 := Aside0.mk hd0
 clear hd0
 have HO1 := aS_ (show Kd.R k93 93 w w0.heap.size (fun k_ => (P1_ k_ ∨ w.heap.size ≤ k_)) u9000_ l1 from Kd.R_mono ho1 (fun k_ hk => (.inl hk)))
 have HK := aS_ (Kept.refl w (fun k_ => P1_ k_))
 have HW0 := Aside0.mk hB.size
 have HB := Aside0.mk hB
 clear hB
 have H : (p_DiffCleanupSemanticLossless.l0 k a0 l1 1) = some r := h
 clear h
 have H' := Aside0.mk H
 clear H
 go_enter Tryz.func63, Tryz.ntmps63
 go_wp2
 go_loopg [5, 1] k (fun kq v5 v1 w' => ∃ (x5_1 : Int), v5 = .int .i64 x5_1 ∧ (u9000_ : Value) = v1 ∧ Aside0 (p_DiffCleanupSemanticLossless.l0 kq a0 l1 x5_1 = some r) ∧ Aside0 (kq ≤ k) ∧ Aside0 (Kd.R k93 93 w' w0.heap.size (fun k_ => (P1_ k_ ∨ w.heap.size ≤ k_)) u9000_ l1) ∧ Aside0 (Kept w w' (fun k_ => P1_ k_)) ∧ Aside0 (Below w0.heap.size w0 w'))
 case atStart => exact ⟨(1), (by rfl), (by rfl), H', ⟨Nat.le_refl _⟩, ⟨Kd.R_st HO1.out⟩, ⟨by repeat ((with_reducible exact HK.out))⟩, ⟨bel_ HB.out⟩⟩
 case round =>
  clear H'
  obtain ⟨x5_1, rfl, rfl, HA, HK1, HO_1, HK, HB⟩ := hrel
  cases gk with
  | zero => exact absurd HA.out (by simp [p_DiffCleanupSemanticLossless.l0])
  | succ k1 =>
   have H := HA.out; clear HA
   simp only [p_DiffCleanupSemanticLossless.l0] at H
   by_cases c3 : x5_1 < (wrap64 ((l1.length : Int) - 1))
   ·rw [if_pos c3] at H
    have c3b0 := decide_eq_true c3
    clear c3
    have HC4 := Aside0.mk H
    clear H
    obtain ⟨Ao5, co5, eo5⟩ := Kd.R_slice HO_1.out
    subst eo5
    go_upto_region 3 with (fail)
    go_cut [38] (fun v38 wc => ∃ (kq : Nat) (x38_3 : Bool), v38 = .bool x38_3 ∧ Aside0 (p_DiffCleanupSemanticLossless.j1 kq a0 l1 x5_1 x38_3 = some r) ∧ Aside0 (kq ≤ k1) ∧ Aside0 (Kd.R k93 93 wc w0.heap.size (fun k_ => (P1_ k_ ∨ w.heap.size ≤ k_)) (.slice Ao5 l1.length co5) l1) ∧ Aside0 (Kept w wc (fun k_ => P1_ k_)) ∧ Aside0 (Below w0.heap.size w0 wc))
    case first =>
     have H := HC4.out
     clear HC4
     obtain ⟨ji6, hji6⟩ : ∃ j_ : Int, (wrap64 (x5_1 - 1)) = j_ := ⟨_, rfl⟩
     rw [hji6] at H
     have hji6w : (IntKind.i64.wrap (x5_1 - 1)) = ji6 := (i64_w _).trans hji6
     replace H := yes_ H; obtain ⟨c7, H⟩ := H
     have c7b0 := decide_eq_true c7
     clear c7
     replace H := yes_ H; obtain ⟨c8, H⟩ := H
     have c8b0 := decide_eq_true c8
     clear c8
     by_cases c9 : ((rd_T93 l1 (ji6)).f0) = 0
     ·rw [if_pos c9] at H
      have c9b0 := beq_iff_eq.mpr c9
      have c9b1 := bne_eq_false_iff_eq.mpr c9
      clear c9
      obtain ⟨ji10, hji10⟩ : ∃ j_ : Int, (wrap64 (x5_1 + 1)) = j_ := ⟨_, rfl⟩
      rw [hji10] at H
      have hji10w : (IntKind.i64.wrap (x5_1 + 1)) = ji10 := (i64_w _).trans hji10
      replace H := yes_ H; obtain ⟨c11, H⟩ := H
      have c11b0 := decide_eq_true c11
      clear c11
      replace H := yes_ H; obtain ⟨c12, H⟩ := H
      have c12b0 := decide_eq_true c12
      clear c12
      have H' := Aside0.mk H
      clear H
      have p365 : 0 ≤ ((ji6) : Int) := of_decide_eq_true (by assumption)
      have q365 : (ji6) < (l1.length : Int) := of_decide_eq_true (by assumption)
      obtain ⟨ad365, e365, hx365_0, hx365_1⟩ := at_T93 (Kd.R_reads' HO_1.out).2.2 (ji6) p365 q365
      cases e365
      replace p365 := eq_true p365
      replace q365 := eq_true q365
      have p366 : 0 ≤ ((ji10) : Int) := of_decide_eq_true (by assumption)
      have q366 : (ji10) < (l1.length : Int) := of_decide_eq_true (by assumption)
      obtain ⟨ad366, e366, hx366_0, hx366_1⟩ := at_T93 (Kd.R_reads' HO_1.out).2.2 (ji10) p366 q366
      obtain rfl : ad365 = ad366 := (by injection e366)
      replace p366 := eq_true p366
      replace q366 := eq_true q366
      go_wp2
      go_meet
      case rel => exact ⟨_, ((((rd_T93 l1 (ji10)).f0) == 0)), (by rfl), H', ⟨by have := HK1.out; omega⟩, ⟨Kd.R_st HO_1.out⟩, ⟨by repeat ((with_reducible exact HK.out))⟩, ⟨bel_ HB.out⟩⟩
     ·rw [if_neg c9] at H
      have c9b0 := beq_eq_false_iff_ne.mpr c9
      have c9b1 := bne_iff_ne.mpr c9
      have H' := Aside0.mk H
      clear H
      have p365 : 0 ≤ ((ji6) : Int) := of_decide_eq_true (by assumption)
      have q365 : (ji6) < (l1.length : Int) := of_decide_eq_true (by assumption)
      obtain ⟨ad365, e365, hx365_0, hx365_1⟩ := at_T93 (Kd.R_reads' HO_1.out).2.2 (ji6) p365 q365
      cases e365
      replace p365 := eq_true p365
      replace q365 := eq_true q365
      go_wp2
      go_meet
      case rel => exact ⟨_, (false), (by rfl), H', ⟨by have := HK1.out; omega⟩, ⟨Kd.R_st HO_1.out⟩, ⟨by repeat ((with_reducible exact HK.out))⟩, ⟨bel_ HB.out⟩⟩
    case rest =>
     clear HC4
     obtain ⟨kq, x38_3, rfl, HA, HJ3, HO_1, HK, HB⟩ := hcut
     cases kq with
     | zero => exact absurd HA.out (by simp [p_DiffCleanupSemanticLossless.j1])
     | succ kj3 =>
      have H := HA.out; clear HA
      simp only [p_DiffCleanupSemanticLossless.j1] at H
      by_cases c13 : x38_3 = true
      ·subst c13
       rw [if_pos rfl] at H
       obtain ⟨ji14, hji14⟩ : ∃ j_ : Int, (wrap64 (x5_1 - 1)) = j_ := ⟨_, rfl⟩
       rw [hji14] at H
       have hji14w : (IntKind.i64.wrap (x5_1 - 1)) = ji14 := (i64_w _).trans hji14
       replace H := yes_ H; obtain ⟨c15, H⟩ := H
       have c15b0 := decide_eq_true c15
       clear c15
       replace H := yes_ H; obtain ⟨c16, H⟩ := H
       have c16b0 := decide_eq_true c16
       clear c16
       replace H := yes_ H; obtain ⟨c17, H⟩ := H
       have c17b0 := decide_eq_true c17
       clear c17
       replace H := yes_ H; obtain ⟨c18, H⟩ := H
       have c18b0 := decide_eq_true c18
       clear c18
       obtain ⟨ji19, hji19⟩ : ∃ j_ : Int, (wrap64 (x5_1 + 1)) = j_ := ⟨_, rfl⟩
       rw [hji19] at H
       have hji19w : (IntKind.i64.wrap (x5_1 + 1)) = ji19 := (i64_w _).trans hji19
       replace H := yes_ H; obtain ⟨c20, H⟩ := H
       have c20b0 := decide_eq_true c20
       clear c20
       replace H := yes_ H; obtain ⟨c21, H⟩ := H
       have c21b0 := decide_eq_true c21
       clear c21
       replace H := Option.bind_eq_some_iff.mp H
       obtain ⟨t370, A220, H⟩ := H
       have A22 := Aside0.mk A220
       clear A220
       by_cases c23 : t370 > 0
       ·rw [if_pos c23] at H
        exact absurd H (by simp)
       ·rw [if_neg c23] at H
        have c23b0 : decide (0 < t370) = false := decide_eq_false c23
        clear c23
        replace H := Option.bind_eq_some_iff.mp H
        obtain ⟨t371, A240, H⟩ := H
        have A24 := Aside0.mk A240
        clear A240
        replace H := Option.bind_eq_some_iff.mp H
        obtain ⟨t372, A250, H⟩ := H
        have A25 := Aside0.mk A250
        clear A250
        have HC26 := Aside0.mk H
        clear H
        have p367 : 0 ≤ ((ji14) : Int) := of_decide_eq_true (by assumption)
        have q367 : (ji14) < (l1.length : Int) := of_decide_eq_true (by assumption)
        obtain ⟨ad367, e367, hx367_0, hx367_1⟩ := at_T93 (Kd.R_reads' HO_1.out).2.2 (ji14) p367 q367
        cases e367
        replace p367 := eq_true p367
        replace q367 := eq_true q367
        have p368 : 0 ≤ (x5_1 : Int) := of_decide_eq_true (by assumption)
        have q368 : x5_1 < (l1.length : Int) := of_decide_eq_true (by assumption)
        obtain ⟨ad368, e368, hx368_0, hx368_1⟩ := at_T93 (Kd.R_reads' HO_1.out).2.2 x5_1 p368 q368
        obtain rfl : ad367 = ad368 := (by injection e368)
        replace p368 := eq_true p368
        replace q368 := eq_true q368
        have p369 : 0 ≤ ((ji19) : Int) := of_decide_eq_true (by assumption)
        have q369 : (ji19) < (l1.length : Int) := of_decide_eq_true (by assumption)
        obtain ⟨ad369, e369, hx369_0, hx369_1⟩ := at_T93 (Kd.R_reads' HO_1.out).2.2 (ji19) p369 q369
        obtain rfl : ad367 = ad369 := (by injection e369)
        replace p369 := eq_true p369
        replace q369 := eq_true q369
        go_upto_block 2 with (first | (go_at_call 89; (with_reducible refine (p_DiffCommonSuffix.calls kj3 a0 ((rd_T93 l1 (ji14)).f1) ((rd_T93 l1 x5_1).f1) t370 _ ?side1 A22.out).mono ?_); (case side1 => exact dmp_below HD0.out (bel_ HB.out)); rintro e w27 ⟨rfl, hb⟩; replace HO_1 := aS_ (Kd.R_below (Kd.R_st HO_1.out) hb); replace HK := aS_ (Kept.below (S := (fun k_ => P1_ k_)) (by repeat ((with_reducible exact HK.out))) hb); replace HB := aS_ (bt_ (bel_ HB.out) hb)) | (go_at_call 90; (with_reducible refine (q_diffCleanupSemanticScore.calls kj3 ((rd_T93 l1 (ji14)).f1) ((rd_T93 l1 x5_1).f1) t371 _ A24.out).mono ?_); rintro e w28 ⟨rfl, hb⟩; replace HO_1 := aS_ (Kd.R_below (Kd.R_st HO_1.out) hb); replace HK := aS_ (Kept.below (S := (fun k_ => P1_ k_)) (by repeat ((with_reducible exact HK.out))) hb); replace HB := aS_ (bt_ (bel_ HB.out) hb)) | (go_at_call 90; (with_reducible refine (q_diffCleanupSemanticScore.calls kj3 ((rd_T93 l1 x5_1).f1) ((rd_T93 l1 (ji19)).f1) t372 _ A25.out).mono ?_); rintro e w29 ⟨rfl, hb⟩; replace HO_1 := aS_ (Kd.R_below (Kd.R_st HO_1.out) hb); replace HK := aS_ (Kept.below (S := (fun k_ => P1_ k_)) (by repeat ((with_reducible exact HK.out))) hb); replace HB := aS_ (bt_ (bel_ HB.out) hb)))
        go_cut [6, 7, 8, 11, 12, 13, 14] (fun v6 v7 v8 v11 v12 v13 v14 wc => ∃ (kq : Nat), (.string ((rd_T93 l1 (ji14)).f1) : Value) = v6 ∧ (.string ((rd_T93 l1 x5_1).f1) : Value) = v7 ∧ (.string ((rd_T93 l1 (ji19)).f1) : Value) = v8 ∧ (.string ((rd_T93 l1 (ji14)).f1) : Value) = v11 ∧ (.string ((rd_T93 l1 x5_1).f1) : Value) = v12 ∧ (.string ((rd_T93 l1 (ji19)).f1) : Value) = v13 ∧ (.int .i64 (wrap64 (t371 + t372)) : Value) = v14 ∧ Aside0 (p_DiffCleanupSemanticLossless.j5 kq a0 l1 x5_1 ((rd_T93 l1 (ji14)).f1) = some r) ∧ Aside0 (kq ≤ kj3) ∧ Aside0 (Kd.R k93 93 wc w0.heap.size (fun k_ => (P1_ k_ ∨ w.heap.size ≤ k_)) (.slice (some ad367) l1.length co5) l1) ∧ Aside0 (Kept w wc (fun k_ => P1_ k_)) ∧ Aside0 (Below w0.heap.size w0 wc))
        case first =>
         have H := HC26.out
         clear HC26
         have H' := Aside0.mk H
         clear H
         go_wp2
         go_loopg [6, 7, 8, 11, 12, 13, 14] kj3 (fun kq v6 v7 v8 v11 v12 v13 v14 w' => (.string ((rd_T93 l1 (ji14)).f1) : Value) = v6 ∧ (.string ((rd_T93 l1 x5_1).f1) : Value) = v7 ∧ (.string ((rd_T93 l1 (ji19)).f1) : Value) = v8 ∧ (.string ((rd_T93 l1 (ji14)).f1) : Value) = v11 ∧ (.string ((rd_T93 l1 x5_1).f1) : Value) = v12 ∧ (.string ((rd_T93 l1 (ji19)).f1) : Value) = v13 ∧ (.int .i64 (wrap64 (t371 + t372)) : Value) = v14 ∧ Aside0 (p_DiffCleanupSemanticLossless.l1 kq a0 l1 x5_1 ((rd_T93 l1 x5_1).f1) ((rd_T93 l1 (ji19)).f1) ((rd_T93 l1 (ji14)).f1) = some r) ∧ Aside0 (kq ≤ kj3) ∧ Aside0 (Kd.R k93 93 w' w0.heap.size (fun k_ => (P1_ k_ ∨ w.heap.size ≤ k_)) (.slice (some ad367) l1.length co5) l1) ∧ Aside0 (Kept w w' (fun k_ => P1_ k_)) ∧ Aside0 (Below w0.heap.size w0 w'))
         case atStart => exact ⟨(by rfl), (by rfl), (by rfl), (by rfl), (by rfl), (by rfl), (by rfl), H', ⟨Nat.le_refl _⟩, ⟨Kd.R_st HO_1.out⟩, ⟨by repeat ((with_reducible exact HK.out))⟩, ⟨bel_ HB.out⟩⟩
         case round =>
          clear H'
          obtain ⟨rfl, rfl, rfl, rfl, rfl, rfl, rfl, HA, HK3, HO_1, HK, HB⟩ := hrel
          cases gk with
          | zero => exact absurd HA.out (by simp [p_DiffCleanupSemanticLossless.l1])
          | succ k3 =>
           have H := HA.out; clear HA
           simp only [p_DiffCleanupSemanticLossless.l1] at H
           have HC30 := Aside0.mk H
           clear H
           go_upto_region 17 with (fail)
           go_cut [102] (fun v102 wc => ∃ (kq : Nat) (x102_29 : Bool), v102 = .bool x102_29 ∧ Aside0 (p_DiffCleanupSemanticLossless.j3 kq a0 l1 x5_1 ((rd_T93 l1 x5_1).f1) ((rd_T93 l1 (ji19)).f1) ((rd_T93 l1 (ji14)).f1) x102_29 = some r) ∧ Aside0 (kq ≤ k3) ∧ Aside0 (Kd.R k93 93 wc w0.heap.size (fun k_ => (P1_ k_ ∨ w.heap.size ≤ k_)) (.slice (some ad367) l1.length co5) l1) ∧ Aside0 (Kept w wc (fun k_ => P1_ k_)) ∧ Aside0 (Below w0.heap.size w0 wc))
           case first =>
            have H := HC30.out
            clear HC30
            by_cases c31 : (((rd_T93 l1 x5_1).f1).size : Int) = 0
            ·rw [if_pos c31] at H
             have c31b0 := beq_iff_eq.mpr c31
             have c31b1 := bne_eq_false_iff_eq.mpr c31
             clear c31
             have H' := Aside0.mk H
             clear H
             go_wp2
             go_meet
             case rel => exact ⟨_, (false), (by rfl), H', ⟨by have := HK1.out; have := HJ3.out; have := HK3.out; omega⟩, ⟨Kd.R_st HO_1.out⟩, ⟨by repeat ((with_reducible exact HK.out))⟩, ⟨bel_ HB.out⟩⟩
            ·rw [if_neg c31] at H
             have c31b0 := beq_eq_false_iff_ne.mpr c31
             have c31b1 := bne_iff_ne.mpr c31
             have H' := Aside0.mk H
             clear H
             go_wp2
             go_meet
             case rel => exact ⟨_, (((((rd_T93 l1 (ji19)).f1).size : Int) != 0)), (by rfl), H', ⟨by have := HK1.out; have := HJ3.out; have := HK3.out; omega⟩, ⟨Kd.R_st HO_1.out⟩, ⟨by repeat ((with_reducible exact HK.out))⟩, ⟨bel_ HB.out⟩⟩
           case rest =>
            clear HC30
            obtain ⟨kq, x102_29, rfl, HA, HJ29, HO_1, HK, HB⟩ := hcut
            cases kq with
            | zero => exact absurd HA.out (by simp [p_DiffCleanupSemanticLossless.j3])
            | succ kj29 =>
             have H := HA.out; clear HA
             simp only [p_DiffCleanupSemanticLossless.j3] at H
             by_cases c32 : x102_29 = true
             ·subst c32
              rw [if_pos rfl] at H
              replace H := Option.bind_eq_some_iff.mp H
              obtain ⟨⟨t373, t374⟩, A330, H⟩ := H
              try dsimp only at H
              have A33 := Aside0.mk A330
              clear A330
              have HC34 := Aside0.mk H
              clear H
              go_upto_region 19 with ((go_at_call 91; (with_reducible refine (utf8_DecodeRuneInString.calls ((rd_T93 l1 x5_1).f1) t373 t374 _ A33.out).mono ?_); rintro e w35 ⟨rfl, hb⟩; replace HO_1 := aS_ (Kd.R_below (Kd.R_st HO_1.out) hb); replace HK := aS_ (Kept.below (S := (fun k_ => P1_ k_)) (by repeat ((with_reducible exact HK.out))) hb); replace HB := aS_ (bt_ (bel_ HB.out) hb)))
              go_cut [120] (fun v120 wc => ∃ (kq : Nat) (x120_33 : Bool), v120 = .bool x120_33 ∧ Aside0 (p_DiffCleanupSemanticLossless.j4 kq a0 l1 x5_1 ((rd_T93 l1 (ji14)).f1) x120_33 = some r) ∧ Aside0 (kq ≤ kj29) ∧ Aside0 (Kd.R k93 93 wc w0.heap.size (fun k_ => (P1_ k_ ∨ w.heap.size ≤ k_)) (.slice (some ad367) l1.length co5) l1) ∧ Aside0 (Kept w wc (fun k_ => P1_ k_)) ∧ Aside0 (Below w0.heap.size w0 wc))
              case first =>
               have H := HC34.out
               clear HC34
               by_cases c36 : (((rd_T93 l1 (ji19)).f1).size : Int) < t374
               ·rw [if_pos c36] at H
                have c36b0 := decide_eq_true c36
                clear c36
                have H' := Aside0.mk H
                clear H
                go_wp2
                repeat (go_quiet (fail); try go_wp2)
                go_meet
                case rel => exact ⟨_, (true), (by rfl), H', ⟨by have := HK1.out; have := HJ3.out; have := HK3.out; have := HJ29.out; omega⟩, ⟨Kd.R_st HO_1.out⟩, ⟨by repeat ((with_reducible first | exact HK.out | apply Kept.drewN))⟩, ⟨bel_ HB.out⟩⟩
               ·rw [if_neg c36] at H
                have c36b0 := decide_eq_false c36
                clear c36
                replace H := yes_ H; obtain ⟨c37, H⟩ := H
                have c37b0 := eq_true c37
                have c37b1 := decide_eq_true c37
                clear c37
                replace H := yes_ H; obtain ⟨c38, H⟩ := H
                have c38b0 := eq_true c38
                have c38b1 := decide_eq_true c38
                clear c38
                have c39b0 := eq_true (of_decide_eq_true (by assumption) : 0 ≤ t374)
                replace H := yes_ H; obtain ⟨c40, H⟩ := H
                have c40b0 := eq_true c40
                have c40b1 := decide_eq_true c40
                clear c40
                have H' := Aside0.mk H
                clear H
                go_wp2
                repeat (go_quiet (fail); try go_wp2)
                go_meet
                case rel => exact ⟨_, (((((rd_T93 l1 x5_1).f1).extract 0 (t374 : Int).toNat).toList != (((rd_T93 l1 (ji19)).f1).extract 0 (t374 : Int).toNat).toList)), (by rfl), H', ⟨by have := HK1.out; have := HJ3.out; have := HK3.out; have := HJ29.out; omega⟩, ⟨Kd.R_st HO_1.out⟩, ⟨by repeat ((with_reducible first | exact HK.out | apply Kept.drewN))⟩, ⟨bel_ HB.out⟩⟩
              case rest =>
               clear HC34
               obtain ⟨kq, x120_33, rfl, HA, HJ33, HO_1, HK, HB⟩ := hcut
               cases kq with
               | zero => exact absurd HA.out (by simp [p_DiffCleanupSemanticLossless.j4])
               | succ kj33 =>
                have H := HA.out; clear HA
                simp only [p_DiffCleanupSemanticLossless.j4] at H
                by_cases c41 : x120_33 = true
                ·subst c41
                 rw [if_pos rfl] at H
                 have H' := Aside0.mk H
                 clear H
                 go_wp2
                 go_meet
                 case rel => exact ⟨_, (by rfl), (by rfl), (by rfl), (by rfl), (by rfl), (by rfl), (by rfl), H', ⟨by have := HK1.out; have := HJ3.out; have := HK3.out; have := HJ29.out; have := HJ33.out; omega⟩, ⟨Kd.R_st HO_1.out⟩, ⟨by repeat ((with_reducible exact HK.out))⟩, ⟨bel_ HB.out⟩⟩
                ·replace c41 := Bool.eq_false_iff.mpr c41
                 subst c41
                 rw [if_neg (show ¬ (false = true) by decide)] at H
                 exact absurd H (by simp)
             ·replace c32 := Bool.eq_false_iff.mpr c32
              subst c32
              rw [if_neg (show ¬ (false = true) by decide)] at H
              have H' := Aside0.mk H
              clear H
              go_wp2
              go_meet
              case rel => exact ⟨_, (by rfl), (by rfl), (by rfl), (by rfl), (by rfl), (by rfl), (by rfl), H', ⟨by have := HK1.out; have := HJ3.out; have := HK3.out; have := HJ29.out; omega⟩, ⟨Kd.R_st HO_1.out⟩, ⟨by repeat ((with_reducible exact HK.out))⟩, ⟨bel_ HB.out⟩⟩
        case rest =>
         clear HC26
         obtain ⟨kq, rfl, rfl, rfl, rfl, rfl, rfl, rfl, HA, HJ25, HO_1, HK, HB⟩ := hcut
         cases kq with
         | zero => exact absurd HA.out (by simp [p_DiffCleanupSemanticLossless.j5])
         | succ kj25 =>
          have H := HA.out; clear HA
          simp only [p_DiffCleanupSemanticLossless.j5] at H
          rw [hji14] at H
          replace H := yes_ H; obtain ⟨c42, H⟩ := H
          have c42b0 := decide_eq_true c42
          clear c42
          replace H := yes_ H; obtain ⟨c43, H⟩ := H
          have c43b0 := decide_eq_true c43
          clear c43
          replace H := yes_ H; obtain ⟨c44, H⟩ := H
          have c44b0 := beq_iff_eq.mpr c44
          have c44b1 := bne_eq_false_iff_eq.mpr c44
          clear c44
          have H' := Aside0.mk H
          clear H
          have p375 : 0 ≤ ((ji14) : Int) := of_decide_eq_true (by assumption)
          have q375 : (ji14) < (l1.length : Int) := of_decide_eq_true (by assumption)
          obtain ⟨ad375, e375, hx375_0, hx375_1⟩ := at_T93 (Kd.R_reads' HO_1.out).2.2 (ji14) p375 q375
          obtain rfl : ad367 = ad375 := (by injection e375)
          replace p375 := eq_true p375
          replace q375 := eq_true q375
          go_wp2
          go_roundg kj25
          case measure => have := HK1.out; have := HJ3.out; have := HJ25.out; omega
          case rel => exact ⟨(wrap64 (x5_1 + 1)), (by simp [*]), (by rfl), H', ⟨by have := HK1.out; have := HJ3.out; have := HJ25.out; omega⟩, ⟨Kd.R_st HO_1.out⟩, ⟨by repeat ((with_reducible exact HK.out))⟩, ⟨bel_ HB.out⟩⟩
      ·replace c13 := Bool.eq_false_iff.mpr c13
       subst c13
       rw [if_neg (show ¬ (false = true) by decide)] at H
       have H' := Aside0.mk H
       clear H
       go_wp2
       go_roundg kj3
       case measure => have := HK1.out; have := HJ3.out; omega
       case rel => exact ⟨(wrap64 (x5_1 + 1)), (by rfl), (by rfl), H', ⟨by have := HK1.out; have := HJ3.out; omega⟩, ⟨Kd.R_st HO_1.out⟩, ⟨by repeat ((with_reducible exact HK.out))⟩, ⟨bel_ HB.out⟩⟩
   ·rw [if_neg c3] at H
    have c3b0 := decide_eq_false c3
    clear c3
    obtain rfl := Option.some.inj H
    obtain ⟨Ao45, co45, eo45⟩ := Kd.R_slice HO_1.out
    subst eo45
    go_wp2
    go_ret
    exact ⟨_, by rfl, Kd.R_st HO_1.out, bel_ HB.out, by repeat ((with_reducible exact HK.out))⟩
mutual
def p_DiffCleanupSemantic.l0 : Nat → Nat → List (S93) → Bool → List Int → ByteArray → Int → Int → Int → Int → Int → Option ((List (S93)))
 | 0, _, _, _, _, _, _, _, _, _, _ => none
 | k + 1, x0, x1, x5, x6, x7, x8, x9, x10, x11, x12 => if x8 < (x1.length : Int) then (if 0 ≤ x8 then (if ((rd_T93 x1 x8).f0) = 0 then (if x6.length < 17592186044416 then (p_DiffCleanupSemantic.l0 k x0 x1 x5 (x6 ++ [x8]) ((rd_T93 x1 x8).f1) (wrap64 (x8 + 1)) x11 x12 0 0) else (none)) else (if ((rd_T93 x1 x8).f0) = 1 then ((utf8_RuneCountInString.f ((rd_T93 x1 x8).f1)).bind fun t388 => ((math_Max.f (Value.float .f64 (FloatKind.f64.nearest x9)) (Value.float .f64 (FloatKind.f64.nearest x10))).bind fun t389 => (if f2iOk t389 = true then ((math_Max.f (Value.float .f64 (FloatKind.f64.nearest (wrap64 (x11 + t388)))) (Value.float .f64 (FloatKind.f64.nearest x12))).bind fun t390 => (if f2iOk t390 = true then ((utf8_RuneCountInString.f x7).bind fun t391 => (if t391 > 0 then ((utf8_RuneCountInString.f x7).bind fun t392 => (if t392 ≤ (f2i t389) then ((utf8_RuneCountInString.f x7).bind fun t393 => (p_DiffCleanupSemantic.j1 k x0 x1 x5 x6 x7 x8 x9 x10 (wrap64 (x11 + t388)) x12 (decide (t393 ≤ (f2i t390))))) else (p_DiffCleanupSemantic.j1 k x0 x1 x5 x6 x7 x8 x9 x10 (wrap64 (x11 + t388)) x12 false))) else (p_DiffCleanupSemantic.j1 k x0 x1 x5 x6 x7 x8 x9 x10 (wrap64 (x11 + t388)) x12 false))) else (none))) else (none)))) else (none))) else (none)) else (if x5 = true then (none) else ((p_DiffCleanupSemanticLossless.f k x0 x1).bind fun t394 => (p_DiffCleanupSemantic.l1 k t394 1)))
def p_DiffCleanupSemantic.j1 : Nat → Nat → List (S93) → Bool → List Int → ByteArray → Int → Int → Int → Int → Int → Bool → Option ((List (S93)))
 | 0, _, _, _, _, _, _, _, _, _, _, _ => none
 | k + 1, x0, x1, x5, x6, x7, x8, x9, x10, x11, x12, x93 => if x93 = true then (none) else (p_DiffCleanupSemantic.l0 k x0 x1 x5 x6 x7 (wrap64 (x8 + 1)) x9 x10 x11 x12)
def p_DiffCleanupSemantic.l1 : Nat → List (S93) → Int → Option ((List (S93)))
 | 0, _, _ => none
 | k + 1, x1, x8 => if x8 < (x1.length : Int) then (if 0 ≤ (wrap64 (x8 - 1)) then (if (wrap64 (x8 - 1)) < (x1.length : Int) then (if ((rd_T93 x1 (wrap64 (x8 - 1))).f0) = (-1) then (if 0 ≤ x8 then (p_DiffCleanupSemantic.j3 k x1 x8 (((rd_T93 x1 x8).f0) == 1)) else (none)) else (p_DiffCleanupSemantic.j3 k x1 x8 false)) else (none)) else (none)) else (some x1)
def p_DiffCleanupSemantic.j3 : Nat → List (S93) → Int → Bool → Option ((List (S93)))
 | 0, _, _, _ => none
 | k + 1, x1, x8, x160 => if x160 = true then (none) else (p_DiffCleanupSemantic.l1 k x1 (wrap64 (x8 + 1)))
end
def p_DiffCleanupSemantic.f (k : Nat) (a0 : Nat) (l1 : List (S93)) : Option ((List (S93))) := if 0 ≤ (l1.length : Int) then (if ((l1.length : Int) : Int).toNat ≤ 35184372088832 then (p_DiffCleanupSemantic.l0 k a0 l1 false (([] : List Int)) (⟨#[]⟩ : ByteArray) 0 0 0 0 0) else (none)) else (none)
theorem p_DiffCleanupSemantic.calls (k : Nat) (a0 : Nat) (P1_ : Nat → Prop) (u9000_ : Value) (l1 : List (S93)) (r : List (S93)) (w0 w : World) (hB : Below w0.heap.size w0 w) (hd0 : DmpAt w0 a0) (ho1 : Kd.R k93 93 w w0.heap.size P1_ u9000_ l1) (h : p_DiffCleanupSemantic.f k a0 l1 = some r) :
  Calls Tryz.prog 65 #[.pointer (some ⟨a0, 0, none⟩), u9000_] w fun e w' => ∃ v0_ : Value, e = .returned (v0_) ∧ Kd.R k93 93 w' w0.heap.size (fun k_ => (P1_ k_ ∨ w.heap.size ≤ k_)) v0_ r ∧ Below w0.heap.size w0 w' ∧ Kept w w' (fun k_ => P1_ k_) := by
 have HD0 := Aside0.mk hd0
 clear hd0
 have HO1 := aS_ (show Kd.R k93 93 w w0.heap.size (fun k_ => (P1_ k_ ∨ w.heap.size ≤ k_)) u9000_ l1 from Kd.R_mono ho1 (fun k_ hk => (.inl hk)))
 have HK := aS_ (Kept.refl w (fun k_ => P1_ k_))
 have HW0 := Aside0.mk hB.size
 have HB := Aside0.mk hB
 clear hB
 have H : (if 0 ≤ (l1.length : Int) then (if ((l1.length : Int) : Int).toNat ≤ 35184372088832 then (p_DiffCleanupSemantic.l0 k a0 l1 false (([] : List Int)) (⟨#[]⟩ : ByteArray) 0 0 0 0 0) else (none)) else (none)) = some r := h
 clear h
 replace H := yes_ H; obtain ⟨c3, H⟩ := H
 have c3b0 := eq_true c3
 have c3b1 := decide_eq_true c3
 clear c3
 replace H := yes_ H; obtain ⟨c4, H⟩ := H
 have c4b0 := eq_true c4
 have c4b1 := decide_eq_true c4
 clear c4
 obtain ⟨y378, hy378⟩ : ∃ y_ : List Int, y_ = (([] : List Int)) := ⟨_, rfl⟩
 replace H : (p_DiffCleanupSemantic.l0 k a0 l1 false y378 (⟨#[]⟩ : ByteArray) 0 0 0 0 0) = some r := by (rw [hy378]; with_reducible exact H)
 have Ny378 := Aside0.mk hy378
 clear hy378
 have H' := Aside0.mk H
 clear H
 obtain ⟨Ao5, co5, eo5⟩ := Kd.R_slice HO1.out
 subst eo5
 go_enter Tryz.func65, Tryz.ntmps65
 go_wp2_with (((with_reducible refine gate_dst (N := 23) rfl ?_); refine Kd.R_make0 (Kd.int .i64) _ 3 rfl (N := 23) rfl 141 _ _ rfl (l1.length : Int) rfl rfl Tryz.underlying141 (.int .i64 0) 8 info3 (by omega) (ok := fun _ => True) (okp := fun _ => True) (fun _ hk => hk) (fun _ _ => trivial) (of_decide_eq_true (by assumption)) (Nat.le_trans (Nat.mul_le_mul_right _ (of_decide_eq_true (by assumption) : (l1.length : Int).toNat ≤ 35184372088832)) (by omega)) (Below.refl _ _) (Nat.le_refl _) ?_; intro v379 w6 ho7 hb hg_ hnew_; clear hg_ hnew_; (rw [← Ny378.out] at ho7); replace HO1 := aS_ (Kd.R_below (Kd.R_st HO1.out) hb); have HO380 := aS_ (Kd.R_lower (Kd.R_newM (M := fun k_ => (P1_ k_ ∨ w.heap.size ≤ k_)) ho7 (by exact HK.out.1) (fun k_ h_ => .inr h_)) (bz_ (bel_ HB.out))); replace HK := aS_ (Kept.below (S := (fun k_ => P1_ k_)) (by repeat ((with_reducible exact HK.out))) hb); replace HB := aS_ (bt_ (bel_ HB.out) hb); clear hb ho7))
 go_loopg [6, 7, 8, 9, 10, 11, 12, 1, 5] k (fun kq v6 v7 v8 v9 v10 v11 v12 v1 v5 w' => ∃ (x6_1 : List Int) (x7_1 : ByteArray) (x8_1 : Int) (x9_1 : Int) (x10_1 : Int) (x11_1 : Int) (x12_1 : Int), v7 = .string x7_1 ∧ v8 = .int .i64 x8_1 ∧ v9 = .int .i64 x9_1 ∧ v10 = .int .i64 x10_1 ∧ v11 = .int .i64 x11_1 ∧ v12 = .int .i64 x12_1 ∧ (.slice Ao5 l1.length co5 : Value) = v1 ∧ (.bool false : Value) = v5 ∧ Aside0 (p_DiffCleanupSemantic.l0 kq a0 l1 false x6_1 x7_1 x8_1 x9_1 x10_1 x11_1 x12_1 = some r) ∧ Aside0 (kq ≤ k) ∧ Aside0 (Kd.R k93 93 w' w0.heap.size (fun k_ => (P1_ k_ ∨ w.heap.size ≤ k_)) (.slice Ao5 l1.length co5) l1) ∧ Aside0 (Kd.R (Kd.int .i64) 3 w' w0.heap.size (fun k_ => (P1_ k_ ∨ w.heap.size ≤ k_)) v6 x6_1) ∧ Aside0 (Kept w w' (fun k_ => P1_ k_)) ∧ Aside0 (Below w0.heap.size w0 w'))
 case atStart => exact ⟨(y378), ((⟨#[]⟩ : ByteArray)), (0), (0), (0), (0), (0), (by rfl), (by rfl), (by rfl), (by rfl), (by rfl), (by rfl), (by rfl), (by rfl), H', ⟨Nat.le_refl _⟩, ⟨Kd.R_st HO1.out⟩, ⟨Kd.R_st (Kd.R_mono HO380.out (fun _ hk => hk.1))⟩, ⟨by repeat ((with_reducible exact HK.out))⟩, ⟨bel_ HB.out⟩⟩
 case round =>
  clear H'
  try clear c3b0
  try clear c3b1
  try clear c4b0
  try clear c4b1
  obtain ⟨x6_1, x7_1, x8_1, x9_1, x10_1, x11_1, x12_1, rfl, rfl, rfl, rfl, rfl, rfl, rfl, rfl, HA, HK1, HO_1, HO_6, HK, HB⟩ := hrel
  cases gk with
  | zero => exact absurd HA.out (by simp [p_DiffCleanupSemantic.l0])
  | succ k1 =>
   have H := HA.out; clear HA
   simp only [p_DiffCleanupSemantic.l0] at H
   by_cases c8 : x8_1 < (l1.length : Int)
   ·rw [if_pos c8] at H
    have c8b0 := decide_eq_true c8
    clear c8
    replace H := yes_ H; obtain ⟨c9, H⟩ := H
    have c9b0 := decide_eq_true c9
    clear c9
    by_cases c10 : ((rd_T93 l1 x8_1).f0) = 0
    ·rw [if_pos c10] at H
     have c10b0 := beq_iff_eq.mpr c10
     have c10b1 := bne_eq_false_iff_eq.mpr c10
     clear c10
     replace H := yes_ H; obtain ⟨c11, H⟩ := H
     have LMc11 := Aside0.mk c11
     clear c11
     obtain ⟨y382, hy382⟩ : ∃ y_ : List Int, y_ = (x6_1 ++ [x8_1]) := ⟨_, rfl⟩
     replace H : (p_DiffCleanupSemantic.l0 k1 a0 l1 false y382 ((rd_T93 l1 x8_1).f1) (wrap64 (x8_1 + 1)) x11_1 x12_1 0 0) = some r := by (rw [hy382]; with_reducible exact H)
     have Ny382 := Aside0.mk hy382
     clear hy382
     have H' := Aside0.mk H
     clear H
     have p381 : 0 ≤ (x8_1 : Int) := of_decide_eq_true (by assumption)
     have q381 : x8_1 < (l1.length : Int) := of_decide_eq_true (by assumption)
     obtain ⟨ad381, e381, hx381_0, hx381_1⟩ := at_T93 (Kd.R_reads' HO_1.out).2.2 x8_1 p381 q381
     cases e381
     replace p381 := eq_true p381
     replace q381 := eq_true q381
     go_wp2_with (((with_reducible refine gate_builtin (b := .append) (xs := #[.tmp 34, .tmp 36]) rfl ?_); at_builtin; refine Kd.R_append (Kd.int .i64) (w0 := w0) w0.heap.size rfl (.tmp 34) (.tmp 36) 141 3 (.int .i64 0) 8 rfl Tryz.underlying141 info3 rfl (by decide) (by omega) u6 x6_1 x8_1 [.int .i64 x8_1] (fun k_ => (P1_ k_ ∨ w.heap.size ≤ k_)) (fun _ => False) rfl rfl ?aP (fun _ hk => hk.elim) ?aF ?aO ?aB ?aS ?aL ?_; (case aP => exact rfl); (case aB => exact (bel_ HB.out)); (case aF => exact (fun k_ hk => (.inr (Nat.le_trans (by exact HK.out.1) hk)))); (case aO => exact (Kd.R_st HO_6.out)); (case aS => exact (bz_ (bel_ HB.out))); (case aL => have := LMc11.out; omega); intro v383 w12 ho hb hg hat; rw [← Ny382.out] at ho; replace HO_1 := aS_ (Kd.R_over' (Kd.R_st HO_1.out) (Kd.R_typed (Kd.R_st HO_6.out)) (by decide) hg); replace HB := aS_ (hb); replace HK := aS_ (Kept.of_grown (S := (fun k_ => P1_ k_)) hg (by repeat ((with_reducible exact HK.out))) (fun k_ e_ => (HO_6.out.1 k_ e_))); have HO384 := aS_ (ho); clear HO_6; clear ho hb hg hat; have p385 : 0 ≤ (x8_1 : Int) := of_decide_eq_true (by assumption); have q385 : x8_1 < (l1.length : Int) := of_decide_eq_true (by assumption); obtain ⟨ad385, e385, hx385_0, hx385_1⟩ := at_T93 (Kd.R_reads' HO_1.out).2.2 x8_1 p385 q385; obtain rfl : ad381 = ad385 := (by injection e385); replace p385 := eq_true p385; replace q385 := eq_true q385))
     go_roundg k1
     case measure => have := HK1.out; omega
     case rel => exact ⟨(y382), ((rd_T93 l1 x8_1).f1), (wrap64 (x8_1 + 1)), (x11_1), (x12_1), (0), (0), (by rfl), (by rfl), (by rfl), (by rfl), (by rfl), (by rfl), (by rfl), (by rfl), H', ⟨by have := HK1.out; omega⟩, ⟨Kd.R_st HO_1.out⟩, ⟨Kd.R_st HO384.out⟩, ⟨by repeat ((with_reducible exact HK.out))⟩, ⟨bel_ HB.out⟩⟩
    ·rw [if_neg c10] at H
     have c10b0 := beq_eq_false_iff_ne.mpr c10
     have c10b1 := bne_iff_ne.mpr c10
     replace H := yes_ H; obtain ⟨c13, H⟩ := H
     have c13b0 := beq_iff_eq.mpr c13
     have c13b1 := bne_eq_false_iff_eq.mpr c13
     clear c13
     replace H := Option.bind_eq_some_iff.mp H
     obtain ⟨t388, A140, H⟩ := H
     have A14 := Aside0.mk A140
     clear A140
     replace H := Option.bind_eq_some_iff.mp H
     obtain ⟨t389, A150, H⟩ := H
     have A15 := Aside0.mk A150
     clear A150
     replace H := yes_ H; obtain ⟨c16, H⟩ := H
     have c16b1 := decide_eq_true c16
     clear c16
     replace H := Option.bind_eq_some_iff.mp H
     obtain ⟨t390, A170, H⟩ := H
     have A17 := Aside0.mk A170
     clear A170
     replace H := yes_ H; obtain ⟨c18, H⟩ := H
     have c18b1 := decide_eq_true c18
     clear c18
     have HC19 := Aside0.mk H
     clear H
     have p381 : 0 ≤ (x8_1 : Int) := of_decide_eq_true (by assumption)
     have q381 : x8_1 < (l1.length : Int) := of_decide_eq_true (by assumption)
     obtain ⟨ad381, e381, hx381_0, hx381_1⟩ := at_T93 (Kd.R_reads' HO_1.out).2.2 x8_1 p381 q381
     cases e381
     replace p381 := eq_true p381
     replace q381 := eq_true q381
     have p386 : 0 ≤ (x8_1 : Int) := of_decide_eq_true (by assumption)
     have q386 : x8_1 < (l1.length : Int) := of_decide_eq_true (by assumption)
     obtain ⟨ad386, e386, hx386_0, hx386_1⟩ := at_T93 (Kd.R_reads' HO_1.out).2.2 x8_1 p386 q386
     obtain rfl : ad381 = ad386 := (by injection e386)
     replace p386 := eq_true p386
     replace q386 := eq_true q386
     have p387 : 0 ≤ (x8_1 : Int) := of_decide_eq_true (by assumption)
     have q387 : x8_1 < (l1.length : Int) := of_decide_eq_true (by assumption)
     obtain ⟨ad387, e387, hx387_0, hx387_1⟩ := at_T93 (Kd.R_reads' HO_1.out).2.2 x8_1 p387 q387
     obtain rfl : ad381 = ad387 := (by injection e387)
     replace p387 := eq_true p387
     replace q387 := eq_true q387
     go_upto_region 20 with (first | ((with_reducible refine gate_callee (f := 88) rfl ?_); refine goesL_ (some 57) rfl rfl Tryz.func88 (by kernel_rfl) rfl #[.string ((rd_T93 l1 x8_1).f1)] rfl (by (try simp only [List.map_toArray, List.map_cons, List.map_nil]); rfl) ?_; (with_reducible refine (utf8_RuneCountInString.calls ((rd_T93 l1 x8_1).f1) t388 _ A14.out).mono ?_); rintro e w20 ⟨rfl, hb⟩; refine ⟨_, rfl, ?_⟩; replace HO_1 := aS_ (Kd.R_below (Kd.R_st HO_1.out) hb); replace HO_6 := aS_ (Kd.R_below (Kd.R_st HO_6.out) hb); replace HK := aS_ (Kept.below (S := (fun k_ => P1_ k_)) (by repeat ((with_reducible exact HK.out))) hb); replace HB := aS_ (bt_ (bel_ HB.out) hb); have hffi21 := run_i2f (P := Tryz.prog) Tryz.underlying3 Tryz.underlying48; have hffi22 := run_i2f (P := Tryz.prog) Tryz.underlying3 Tryz.underlying48) | ((with_reducible refine gate_callee (f := 83) rfl ?_); refine goesL_ (some 71) rfl rfl Tryz.func83 (by kernel_rfl) rfl #[(Value.float .f64 (FloatKind.f64.nearest x9_1)), (Value.float .f64 (FloatKind.f64.nearest x10_1))] rfl (by (try simp only [List.map_toArray, List.map_cons, List.map_nil]); rfl) ?_; (with_reducible refine (math_Max.calls (Value.float .f64 (FloatKind.f64.nearest x9_1)) (Value.float .f64 (FloatKind.f64.nearest x10_1)) t389 _ A15.out).mono ?_); rintro e w' ⟨rfl, ⟨nd, rfl⟩⟩; refine ⟨_, rfl, ?_⟩; have hffi23 := run_f2i (P := Tryz.prog) Tryz.underlying48 Tryz.underlying3 (x := t389) (of_decide_eq_true (by assumption)); have hffi24 := run_i2f (P := Tryz.prog) Tryz.underlying3 Tryz.underlying48; have hffi25 := run_i2f (P := Tryz.prog) Tryz.underlying3 Tryz.underlying48) | ((with_reducible refine gate_callee (f := 83) rfl ?_); refine goesL_ (some 77) rfl rfl Tryz.func83 (by kernel_rfl) rfl #[(Value.float .f64 (FloatKind.f64.nearest (wrap64 (x11_1 + t388)))), (Value.float .f64 (FloatKind.f64.nearest x12_1))] rfl (by (try simp only [List.map_toArray, List.map_cons, List.map_nil]); rfl) ?_; (with_reducible refine (math_Max.calls (Value.float .f64 (FloatKind.f64.nearest (wrap64 (x11_1 + t388)))) (Value.float .f64 (FloatKind.f64.nearest x12_1)) t390 _ A17.out).mono ?_); rintro e w' ⟨rfl, ⟨nd, rfl⟩⟩; refine ⟨_, rfl, ?_⟩; have hffi26 := run_f2i (P := Tryz.prog) Tryz.underlying48 Tryz.underlying3 (x := t390) (of_decide_eq_true (by assumption))))
     go_cut [93] (fun v93 wc => ∃ (kq : Nat) (x93_18 : Bool), v93 = .bool x93_18 ∧ Aside0 (p_DiffCleanupSemantic.j1 kq a0 l1 false x6_1 x7_1 x8_1 x9_1 x10_1 (wrap64 (x11_1 + t388)) x12_1 x93_18 = some r) ∧ Aside0 (kq ≤ k1) ∧ Aside0 (Kd.R k93 93 wc w0.heap.size (fun k_ => (P1_ k_ ∨ w.heap.size ≤ k_)) (.slice (some ad381) l1.length co5) l1) ∧ Aside0 (Kd.R (Kd.int .i64) 3 wc w0.heap.size (fun k_ => (P1_ k_ ∨ w.heap.size ≤ k_)) u6 x6_1) ∧ Aside0 (Kept w wc (fun k_ => P1_ k_)) ∧ Aside0 (Below w0.heap.size w0 wc))
     case first =>
      have H := HC19.out
      clear HC19
      replace H := Option.bind_eq_some_iff.mp H
      obtain ⟨t391, A270, H⟩ := H
      have A27 := Aside0.mk A270
      clear A270
      by_cases c28 : t391 > 0
      ·rw [if_pos c28] at H
       have c28b0 : decide (0 < t391) = true := decide_eq_true c28
       clear c28
       replace H := Option.bind_eq_some_iff.mp H
       obtain ⟨t392, A290, H⟩ := H
       have A29 := Aside0.mk A290
       clear A290
       by_cases c30 : t392 ≤ (f2i t389)
       ·rw [if_pos c30] at H
        have c30b0 := decide_eq_true c30
        clear c30
        replace H := Option.bind_eq_some_iff.mp H
        obtain ⟨t393, A310, H⟩ := H
        have A31 := Aside0.mk A310
        (try have E393 : Aside0 (t392 = t393) := ⟨Option.some.inj (A29.out.symm.trans A31.out)⟩)
        clear A310
        have H' := Aside0.mk H
        clear H
        go_wp2_with (first | ((with_reducible refine gate_callee (f := 88) rfl ?_); refine goesL_ (some 80) rfl rfl Tryz.func88 (by kernel_rfl) rfl #[.string x7_1] rfl (by (try simp only [List.map_toArray, List.map_cons, List.map_nil]); rfl) ?_; (with_reducible refine (utf8_RuneCountInString.calls x7_1 t391 _ A27.out).mono ?_); rintro e w32 ⟨rfl, hb⟩; refine ⟨_, rfl, ?_⟩; replace HO_1 := aS_ (Kd.R_below (Kd.R_st HO_1.out) hb); replace HO_6 := aS_ (Kd.R_below (Kd.R_st HO_6.out) hb); replace HK := aS_ (Kept.below (S := (fun k_ => P1_ k_)) (by repeat ((with_reducible first | exact HK.out | apply Kept.drewN))) hb); replace HB := aS_ (bt_ (bel_ HB.out) hb)) | (go_at_call 88; (with_reducible refine (utf8_RuneCountInString.calls x7_1 t392 _ A29.out).mono ?_); rintro e w33 ⟨rfl, hb⟩; replace HO_1 := aS_ (Kd.R_below (Kd.R_st HO_1.out) hb); replace HO_6 := aS_ (Kd.R_below (Kd.R_st HO_6.out) hb); replace HK := aS_ (Kept.below (S := (fun k_ => P1_ k_)) (by repeat ((with_reducible exact HK.out))) hb); replace HB := aS_ (bt_ (bel_ HB.out) hb)))
        go_meet
        case rel => exact ⟨_, (decide (t393 ≤ (f2i t390))), (by (rw [E393.out])), H', ⟨by have := HK1.out; omega⟩, ⟨Kd.R_st HO_1.out⟩, ⟨Kd.R_st HO_6.out⟩, ⟨by repeat ((with_reducible exact HK.out))⟩, ⟨bel_ HB.out⟩⟩
       ·rw [if_neg c30] at H
        have c30b0 := decide_eq_false c30
        clear c30
        have H' := Aside0.mk H
        clear H
        go_wp2_with (first | ((with_reducible refine gate_callee (f := 88) rfl ?_); refine goesL_ (some 80) rfl rfl Tryz.func88 (by kernel_rfl) rfl #[.string x7_1] rfl (by (try simp only [List.map_toArray, List.map_cons, List.map_nil]); rfl) ?_; (with_reducible refine (utf8_RuneCountInString.calls x7_1 t391 _ A27.out).mono ?_); rintro e w35 ⟨rfl, hb⟩; refine ⟨_, rfl, ?_⟩; replace HO_1 := aS_ (Kd.R_below (Kd.R_st HO_1.out) hb); replace HO_6 := aS_ (Kd.R_below (Kd.R_st HO_6.out) hb); replace HK := aS_ (Kept.below (S := (fun k_ => P1_ k_)) (by repeat ((with_reducible first | exact HK.out | apply Kept.drewN))) hb); replace HB := aS_ (bt_ (bel_ HB.out) hb)) | (go_at_call 88; (with_reducible refine (utf8_RuneCountInString.calls x7_1 t392 _ A29.out).mono ?_); rintro e w36 ⟨rfl, hb⟩; replace HO_1 := aS_ (Kd.R_below (Kd.R_st HO_1.out) hb); replace HO_6 := aS_ (Kd.R_below (Kd.R_st HO_6.out) hb); replace HK := aS_ (Kept.below (S := (fun k_ => P1_ k_)) (by repeat ((with_reducible exact HK.out))) hb); replace HB := aS_ (bt_ (bel_ HB.out) hb)))
        go_meet
        case rel => exact ⟨_, (false), (by rfl), H', ⟨by have := HK1.out; omega⟩, ⟨Kd.R_st HO_1.out⟩, ⟨Kd.R_st HO_6.out⟩, ⟨by repeat ((with_reducible exact HK.out))⟩, ⟨bel_ HB.out⟩⟩
      ·rw [if_neg c28] at H
       have c28b0 : decide (0 < t391) = false := decide_eq_false c28
       clear c28
       have H' := Aside0.mk H
       clear H
       go_wp2_with (((with_reducible refine gate_callee (f := 88) rfl ?_); refine goesL_ (some 80) rfl rfl Tryz.func88 (by kernel_rfl) rfl #[.string x7_1] rfl (by (try simp only [List.map_toArray, List.map_cons, List.map_nil]); rfl) ?_; (with_reducible refine (utf8_RuneCountInString.calls x7_1 t391 _ A27.out).mono ?_); rintro e w37 ⟨rfl, hb⟩; refine ⟨_, rfl, ?_⟩; replace HO_1 := aS_ (Kd.R_below (Kd.R_st HO_1.out) hb); replace HO_6 := aS_ (Kd.R_below (Kd.R_st HO_6.out) hb); replace HK := aS_ (Kept.below (S := (fun k_ => P1_ k_)) (by repeat ((with_reducible first | exact HK.out | apply Kept.drewN))) hb); replace HB := aS_ (bt_ (bel_ HB.out) hb)))
       go_meet
       case rel => exact ⟨_, (false), (by rfl), H', ⟨by have := HK1.out; omega⟩, ⟨Kd.R_st HO_1.out⟩, ⟨Kd.R_st HO_6.out⟩, ⟨by repeat ((with_reducible exact HK.out))⟩, ⟨bel_ HB.out⟩⟩
     case rest =>
      clear HC19
      try clear c8b0
      try clear c9b0
      try clear c10
      try clear c10b0
      try clear c10b1
      try clear c13b0
      try clear c13b1
      try clear c16b1
      try clear c18b1
      try clear hx381_0
      try clear hx381_1
      try clear hx386_0
      try clear hx386_1
      try clear hx387_0
      try clear hx387_1
      try clear p381
      try clear p386
      try clear p387
      try clear q381
      try clear q386
      try clear q387
      obtain ⟨kq, x93_18, rfl, HA, HJ18, HO_1, HO_6, HK, HB⟩ := hcut
      cases kq with
      | zero => exact absurd HA.out (by simp [p_DiffCleanupSemantic.j1])
      | succ kj18 =>
       have H := HA.out; clear HA
       simp only [p_DiffCleanupSemantic.j1] at H
       by_cases c38 : x93_18 = true
       ·subst c38
        rw [if_pos rfl] at H
        exact absurd H (by simp)
       ·replace c38 := Bool.eq_false_iff.mpr c38
        subst c38
        rw [if_neg (show ¬ (false = true) by decide)] at H
        have H' := Aside0.mk H
        clear H
        go_wp2
        go_roundg kj18
        case measure => have := HK1.out; have := HJ18.out; omega
        case rel => exact ⟨(x6_1), (x7_1), (wrap64 (x8_1 + 1)), (x9_1), (x10_1), ((wrap64 (x11_1 + t388))), (x12_1), (by rfl), (by rfl), (by rfl), (by rfl), (by rfl), (by rfl), (by rfl), (by rfl), H', ⟨by have := HK1.out; have := HJ18.out; omega⟩, ⟨Kd.R_st HO_1.out⟩, ⟨Kd.R_st HO_6.out⟩, ⟨by repeat ((with_reducible exact HK.out))⟩, ⟨bel_ HB.out⟩⟩
   ·rw [if_neg c8] at H
    have c8b0 := decide_eq_false c8
    clear c8
    rw [if_neg (show ¬ (false = true) by decide)] at H
    replace H := Option.bind_eq_some_iff.mp H
    obtain ⟨t394, A400, H⟩ := H
    have A40 := Aside0.mk A400
    clear A400
    have H' := Aside0.mk H
    clear H
    go_wp2_with (((with_reducible refine gate_callee (f := 63) rfl ?_); refine goesL_ (some 141) rfl rfl Tryz.func63 (by kernel_rfl) rfl #[.pointer (some ⟨a0, 0, none⟩), .slice Ao5 l1.length co5] rfl (by (try simp only [List.map_toArray, List.map_cons, List.map_nil]); rfl) ?_; (with_reducible refine (p_DiffCleanupSemanticLossless.calls k1 a0 (fun k_ => some k_ = (.slice Ao5 l1.length co5 : Value).ownBlock) (.slice Ao5 l1.length co5) l1 t394 w0 _ ?side1 ?side2 ?side3 A40.out).mono ?_); (case side1 => repeat ((with_reducible exact HB.out))); (case side2 => exact HD0.out); (case side3 => exact Kd.R_tight rfl HO_1.out); rintro e w41 ⟨v395, rfl, ho0, hb, hkp⟩; refine ⟨_, rfl, ?_⟩; replace HO_6 := aS_ (Kd.R_mono (ok' := fun k_ => (P1_ k_ ∨ w.heap.size ≤ k_)) (Kd.R_keptB ((Kd.R_apart' HO_6.out (Kd.R_typed HO_1.out) (by decide))) hkp (fun k_ hk_ hs_ => (hk_.2) hs_)) (fun k_ hk_ => hk_.1.1)); have HO396 := aS_ (Kd.R_mono (ok' := fun k_ => (P1_ k_ ∨ w.heap.size ≤ k_)) ho0 (fun k_ hk_ => Or.elim hk_ (fun hs_ => (HO_1.out.1 k_ (hs_).symm)) (fun hn_ => (.inr (Nat.le_trans (by exact HK.out.1) hn_))))); replace HK := aS_ (Kept.then_ (S := (fun k_ => P1_ k_)) (by repeat ((with_reducible exact HK.out))) hkp (fun k_ hs_ => (fun e_ => (HO_1.out.1 k_ e_.symm)) hs_)); replace HB := aS_ (hb); clear HO_1))
    go_loopg [8, 1] k1 (fun kq v8 v1 w' => ∃ (x8_2 : Int), v8 = .int .i64 x8_2 ∧ (v395 : Value) = v1 ∧ Aside0 (p_DiffCleanupSemantic.l1 kq t394 x8_2 = some r) ∧ Aside0 (kq ≤ k1) ∧ Aside0 (Kd.R k93 93 w' w0.heap.size (fun k_ => (P1_ k_ ∨ w.heap.size ≤ k_)) v395 t394) ∧ Aside0 (Kept w w' (fun k_ => P1_ k_)) ∧ Aside0 (Below w0.heap.size w0 w'))
    case atStart => exact ⟨(1), (by rfl), (by rfl), H', ⟨Nat.le_refl _⟩, ⟨Kd.R_st HO396.out⟩, ⟨by repeat ((with_reducible exact HK.out))⟩, ⟨bel_ HB.out⟩⟩
    case round =>
     clear H'
     try clear c8b0
     obtain ⟨x8_2, rfl, rfl, HA, HK2, HO_1, HK, HB⟩ := hrel
     cases gk with
     | zero => exact absurd HA.out (by simp [p_DiffCleanupSemantic.l1])
     | succ k2 =>
      have H := HA.out; clear HA
      simp only [p_DiffCleanupSemantic.l1] at H
      by_cases c42 : x8_2 < (t394.length : Int)
      ·rw [if_pos c42] at H
       have c42b0 := decide_eq_true c42
       clear c42
       have HC43 := Aside0.mk H
       clear H
       obtain ⟨Ao44, co44, eo44⟩ := Kd.R_slice HO_1.out
       subst eo44
       go_upto_region 42 with (fail)
       go_cut [160] (fun v160 wc => ∃ (kq : Nat) (x160_42 : Bool), v160 = .bool x160_42 ∧ Aside0 (p_DiffCleanupSemantic.j3 kq t394 x8_2 x160_42 = some r) ∧ Aside0 (kq ≤ k2) ∧ Aside0 (Kd.R k93 93 wc w0.heap.size (fun k_ => (P1_ k_ ∨ w.heap.size ≤ k_)) (.slice Ao44 t394.length co44) t394) ∧ Aside0 (Kept w wc (fun k_ => P1_ k_)) ∧ Aside0 (Below w0.heap.size w0 wc))
       case first =>
        have H := HC43.out
        clear HC43
        obtain ⟨ji45, hji45⟩ : ∃ j_ : Int, (wrap64 (x8_2 - 1)) = j_ := ⟨_, rfl⟩
        rw [hji45] at H
        have hji45w : (IntKind.i64.wrap (x8_2 - 1)) = ji45 := (i64_w _).trans hji45
        replace H := yes_ H; obtain ⟨c46, H⟩ := H
        have c46b0 := decide_eq_true c46
        clear c46
        replace H := yes_ H; obtain ⟨c47, H⟩ := H
        have c47b0 := decide_eq_true c47
        clear c47
        by_cases c48 : ((rd_T93 t394 (ji45)).f0) = (-1)
        ·rw [if_pos c48] at H
         have c48b0 := beq_iff_eq.mpr c48
         have c48b1 := bne_eq_false_iff_eq.mpr c48
         clear c48
         replace H := yes_ H; obtain ⟨c49, H⟩ := H
         have c49b0 := decide_eq_true c49
         clear c49
         have H' := Aside0.mk H
         clear H
         have p397 : 0 ≤ ((ji45) : Int) := of_decide_eq_true (by assumption)
         have q397 : (ji45) < (t394.length : Int) := of_decide_eq_true (by assumption)
         obtain ⟨ad397, e397, hx397_0, hx397_1⟩ := at_T93 (Kd.R_reads' HO_1.out).2.2 (ji45) p397 q397
         cases e397
         replace p397 := eq_true p397
         replace q397 := eq_true q397
         have p398 : 0 ≤ (x8_2 : Int) := of_decide_eq_true (by assumption)
         have q398 : x8_2 < (t394.length : Int) := of_decide_eq_true (by assumption)
         obtain ⟨ad398, e398, hx398_0, hx398_1⟩ := at_T93 (Kd.R_reads' HO_1.out).2.2 x8_2 p398 q398
         obtain rfl : ad397 = ad398 := (by injection e398)
         replace p398 := eq_true p398
         replace q398 := eq_true q398
         go_wp2
         go_meet
         case rel => exact ⟨_, ((((rd_T93 t394 x8_2).f0) == 1)), (by rfl), H', ⟨by have := HK1.out; have := HK2.out; omega⟩, ⟨Kd.R_st HO_1.out⟩, ⟨by repeat ((with_reducible exact HK.out))⟩, ⟨bel_ HB.out⟩⟩
        ·rw [if_neg c48] at H
         have c48b0 := beq_eq_false_iff_ne.mpr c48
         have c48b1 := bne_iff_ne.mpr c48
         have H' := Aside0.mk H
         clear H
         have p397 : 0 ≤ ((ji45) : Int) := of_decide_eq_true (by assumption)
         have q397 : (ji45) < (t394.length : Int) := of_decide_eq_true (by assumption)
         obtain ⟨ad397, e397, hx397_0, hx397_1⟩ := at_T93 (Kd.R_reads' HO_1.out).2.2 (ji45) p397 q397
         cases e397
         replace p397 := eq_true p397
         replace q397 := eq_true q397
         go_wp2
         go_meet
         case rel => exact ⟨_, (false), (by rfl), H', ⟨by have := HK1.out; have := HK2.out; omega⟩, ⟨Kd.R_st HO_1.out⟩, ⟨by repeat ((with_reducible exact HK.out))⟩, ⟨bel_ HB.out⟩⟩
       case rest =>
        clear HC43
        try clear c42b0
        obtain ⟨kq, x160_42, rfl, HA, HJ42, HO_1, HK, HB⟩ := hcut
        cases kq with
        | zero => exact absurd HA.out (by simp [p_DiffCleanupSemantic.j3])
        | succ kj42 =>
         have H := HA.out; clear HA
         simp only [p_DiffCleanupSemantic.j3] at H
         by_cases c50 : x160_42 = true
         ·subst c50
          rw [if_pos rfl] at H
          exact absurd H (by simp)
         ·replace c50 := Bool.eq_false_iff.mpr c50
          subst c50
          rw [if_neg (show ¬ (false = true) by decide)] at H
          have H' := Aside0.mk H
          clear H
          go_wp2
          go_roundg kj42
          case measure => have := HK1.out; have := HK2.out; have := HJ42.out; omega
          case rel => exact ⟨(wrap64 (x8_2 + 1)), (by rfl), (by rfl), H', ⟨by have := HK1.out; have := HK2.out; have := HJ42.out; omega⟩, ⟨Kd.R_st HO_1.out⟩, ⟨by repeat ((with_reducible exact HK.out))⟩, ⟨bel_ HB.out⟩⟩
      ·rw [if_neg c42] at H
       have c42b0 := decide_eq_false c42
       clear c42
       obtain rfl := Option.some.inj H
       obtain ⟨Ao51, co51, eo51⟩ := Kd.R_slice HO_1.out
       subst eo51
       go_wp2
       go_ret
       exact ⟨_, by rfl, Kd.R_st HO_1.out, bel_ HB.out, by repeat ((with_reducible exact HK.out))⟩
def p_DiffCleanupEfficiency.l0 : Nat → List (S93) → Bool → ByteArray → Int → Bool → Bool → Bool → Bool → Option ((List (S93)))
 | 0, _, _, _, _, _, _, _, _ => none
 | k + 1, x1, x5, x7, x8, x9, x10, x11, x12 => if x8 < (x1.length : Int) then (if 0 ≤ x8 then (if ((rd_T93 x1 x8).f0) = 0 then (if (((rd_T93 x1 x8).f1).size : Int) < 4 then (if x11 = true then (p_DiffCleanupEfficiency.l0 k x1 x5 ((rd_T93 x1 x8).f1) (wrap64 (x8 + 1)) x11 x12 false false) else (if x12 = true then (p_DiffCleanupEfficiency.l0 k x1 x5 ((rd_T93 x1 x8).f1) (wrap64 (x8 + 1)) x11 x12 false false) else (p_DiffCleanupEfficiency.l0 k x1 x5 (⟨#[]⟩ : ByteArray) (wrap64 (x8 + 1)) x9 x10 false false))) else (p_DiffCleanupEfficiency.l0 k x1 x5 (⟨#[]⟩ : ByteArray) (wrap64 (x8 + 1)) x9 x10 false false)) else (if ((rd_T93 x1 x8).f0) = (-1) then (none) else (if x9 = true then (none) else (if x10 = true then (none) else (if x12 = true then (none) else (if (x7.size : Int) > 0 then (none) else (p_DiffCleanupEfficiency.l0 k x1 x5 x7 (wrap64 (x8 + 1)) x9 x10 true x12))))))) else (none)) else (if x5 = true then (none) else (some x1))
def p_DiffCleanupEfficiency.f (k : Nat) (a0 : Nat) (l1 : List (S93)) : Option ((List (S93))) := p_DiffCleanupEfficiency.l0 k l1 false (⟨#[]⟩ : ByteArray) 0 false false false false
theorem p_DiffCleanupEfficiency.calls (k : Nat) (a0 : Nat) (P1_ : Nat → Prop) (u9000_ : Value) (l1 : List (S93)) (r : List (S93)) (w0 w : World) (hB : Below w0.heap.size w0 w) (hd0 : DmpAt w0 a0) (ho1 : Kd.R k93 93 w w0.heap.size P1_ u9000_ l1) (h : p_DiffCleanupEfficiency.f k a0 l1 = some r) :
  Calls Tryz.prog 66 #[.pointer (some ⟨a0, 0, none⟩), u9000_] w fun e w' => ∃ v0_ : Value, e = .returned (v0_) ∧ Kd.R k93 93 w' w0.heap.size (fun k_ => (P1_ k_ ∨ w.heap.size ≤ k_)) v0_ r ∧ Below w0.heap.size w0 w' ∧ Kept w w' (fun k_ => P1_ k_) := by
 have hu144 := Tryz.underlying144
 have HD0 := Aside0.mk hd0
 clear hd0
 have HO1 := aS_ (show Kd.R k93 93 w w0.heap.size (fun k_ => (P1_ k_ ∨ w.heap.size ≤ k_)) u9000_ l1 from Kd.R_mono ho1 (fun k_ hk => (.inl hk)))
 have HK := aS_ (Kept.refl w (fun k_ => P1_ k_))
 have HW0 := Aside0.mk hB.size
 have HB := Aside0.mk hB
 clear hB
 have H : (p_DiffCleanupEfficiency.l0 k l1 false (⟨#[]⟩ : ByteArray) 0 false false false false) = some r := h
 clear h
 have H' := Aside0.mk H
 clear H
 go_enter Tryz.func66, Tryz.ntmps66
 go_wp2
 go_loopg [7, 8, 9, 10, 11, 12, 6, 1, 5] k (fun kq v7 v8 v9 v10 v11 v12 v6 v1 v5 w' => ∃ (x7_1 : ByteArray) (x8_1 : Int) (x9_1 : Bool) (x10_1 : Bool) (x11_1 : Bool) (x12_1 : Bool) (pp6_1 : Option Addr), v7 = .string x7_1 ∧ v8 = .int .i64 x8_1 ∧ v9 = .bool x9_1 ∧ v10 = .bool x10_1 ∧ v11 = .bool x11_1 ∧ v12 = .bool x12_1 ∧ v6 = .pointer pp6_1 ∧ (u9000_ : Value) = v1 ∧ (.bool false : Value) = v5 ∧ Aside0 (p_DiffCleanupEfficiency.l0 kq l1 false x7_1 x8_1 x9_1 x10_1 x11_1 x12_1 = some r) ∧ Aside0 (kq ≤ k) ∧ Aside0 (Kd.R k93 93 w' w0.heap.size (fun k_ => (P1_ k_ ∨ w.heap.size ≤ k_)) u9000_ l1) ∧ Aside0 (Kept w w' (fun k_ => P1_ k_)) ∧ Aside0 (Below w0.heap.size w0 w'))
 case atStart => exact ⟨((⟨#[]⟩ : ByteArray)), (0), (false), (false), (false), (false), (none), (by rfl), (by rfl), (by rfl), (by rfl), (by rfl), (by rfl), (by rfl), (by rfl), (by rfl), H', ⟨Nat.le_refl _⟩, ⟨Kd.R_st HO1.out⟩, ⟨by repeat ((with_reducible exact HK.out))⟩, ⟨bel_ HB.out⟩⟩
 case round =>
  clear H'
  obtain ⟨x7_1, x8_1, x9_1, x10_1, x11_1, x12_1, pp6_1, rfl, rfl, rfl, rfl, rfl, rfl, rfl, rfl, rfl, HA, HK1, HO_1, HK, HB⟩ := hrel
  cases gk with
  | zero => exact absurd HA.out (by simp [p_DiffCleanupEfficiency.l0])
  | succ k1 =>
   have H := HA.out; clear HA
   simp only [p_DiffCleanupEfficiency.l0] at H
   by_cases c3 : x8_1 < (l1.length : Int)
   ·rw [if_pos c3] at H
    have c3b0 := decide_eq_true c3
    clear c3
    replace H := yes_ H; obtain ⟨c4, H⟩ := H
    have c4b0 := decide_eq_true c4
    clear c4
    by_cases c5 : ((rd_T93 l1 x8_1).f0) = 0
    ·rw [if_pos c5] at H
     have c5b0 := beq_iff_eq.mpr c5
     have c5b1 := bne_eq_false_iff_eq.mpr c5
     clear c5
     by_cases c6 : (((rd_T93 l1 x8_1).f1).size : Int) < 4
     ·rw [if_pos c6] at H
      have c6b0 := decide_eq_true c6
      have c6b1 : decide (((rd_T93 l1 x8_1).f1).size < 4) = true := decide_eq_true (by omega)
      clear c6
      by_cases c7 : x11_1 = true
      ·subst c7
       rw [if_pos rfl] at H
       have H' := Aside0.mk H
       clear H
       obtain ⟨Ao8, co8, eo8⟩ := Kd.R_slice HO_1.out
       subst eo8
       have p600 : 0 ≤ (x8_1 : Int) := of_decide_eq_true (by assumption)
       have q600 : x8_1 < (l1.length : Int) := of_decide_eq_true (by assumption)
       obtain ⟨ad600, e600, hx600_0, hx600_1⟩ := at_T93 (Kd.R_reads' HO_1.out).2.2 x8_1 p600 q600
       cases e600
       replace p600 := eq_true p600
       replace q600 := eq_true q600
       have p601 : 0 ≤ (x8_1 : Int) := of_decide_eq_true (by assumption)
       have q601 : x8_1 < (l1.length : Int) := of_decide_eq_true (by assumption)
       obtain ⟨ad601, e601, hx601_0, hx601_1⟩ := at_T93 (Kd.R_reads' HO_1.out).2.2 x8_1 p601 q601
       obtain rfl : ad600 = ad601 := (by injection e601)
       replace p601 := eq_true p601
       replace q601 := eq_true q601
       have hdm9 := dmp_cell1 (dmp_below HD0.out HB.out)
       go_wp2_with (fail)
       repeat (go_quiet (fail); try go_wp2_with (((with_reducible refine gate_dst (N := 45) rfl ?_); (try (refine gate_guard (by rfl) ?_; dsimp only)); refine box_event ?hg (N := 45) ?hd (cs := #[.int .i64 x8_1, .pointer pp6_1]) (t := 144) ?hr ?_; (case hd => rfl); (case hg => rfl); (case hr => (go_simp; done)); intro gb602 hg w10 hbox hb; have n0_ := aS_ (Kd.R_below (Kd.R_st HO_1.out) hb); have n1_ := aS_ (Kept.below (S := (fun k_ => P1_ k_)) (by repeat ((with_reducible first | exact HK.out | apply Kept.drewN))) hb); have n2_ := aS_ (bt_ (bel_ HB.out) hb); have n3_ := aS_ (hbox); have n4_ := aS_ ((by rw [hg]; exact (by exact HK.out.1) : w.heap.size ≤ gb602)); have n5_ := aS_ ((by rw [hg]; exact (bz_ (bel_ HB.out)) : w0.heap.size ≤ gb602)); clear HO_1; clear HK; clear HB; have HO_1 := n0_; have HK := n1_; have HB := n2_; have BK602 := n3_; have GW602 := n4_; have GE602 := n5_; clear n0_ n1_ n2_ n3_ n4_ n5_; clear hb hbox hg; have p603 : 0 ≤ (x8_1 : Int) := of_decide_eq_true (by assumption); have q603 : x8_1 < (l1.length : Int) := of_decide_eq_true (by assumption); obtain ⟨ad603, e603, hx603_0, hx603_1⟩ := at_T93 (Kd.R_reads' HO_1.out).2.2 x8_1 p603 q603; obtain rfl : ad600 = ad603 := (by injection e603); replace p603 := eq_true p603; replace q603 := eq_true q603)))
       go_roundg k1
       case measure => have := HK1.out; omega
       case rel => exact ⟨((rd_T93 l1 x8_1).f1), (wrap64 (x8_1 + 1)), (true), (x12_1), (false), (false), ((some ⟨gb602, 0, none⟩)), (by rfl), (by rfl), (by rfl), (by rfl), (by rfl), (by rfl), (by rfl), (by rfl), (by rfl), H', ⟨by have := HK1.out; omega⟩, ⟨Kd.R_st HO_1.out⟩, ⟨by repeat ((with_reducible exact HK.out))⟩, ⟨by with_reducible repeat exact HB.out⟩⟩
      ·replace c7 := Bool.eq_false_iff.mpr c7
       subst c7
       rw [if_neg (show ¬ (false = true) by decide)] at H
       by_cases c11 : x12_1 = true
       ·subst c11
        rw [if_pos rfl] at H
        have H' := Aside0.mk H
        clear H
        obtain ⟨Ao12, co12, eo12⟩ := Kd.R_slice HO_1.out
        subst eo12
        have p600 : 0 ≤ (x8_1 : Int) := of_decide_eq_true (by assumption)
        have q600 : x8_1 < (l1.length : Int) := of_decide_eq_true (by assumption)
        obtain ⟨ad600, e600, hx600_0, hx600_1⟩ := at_T93 (Kd.R_reads' HO_1.out).2.2 x8_1 p600 q600
        cases e600
        replace p600 := eq_true p600
        replace q600 := eq_true q600
        have p601 : 0 ≤ (x8_1 : Int) := of_decide_eq_true (by assumption)
        have q601 : x8_1 < (l1.length : Int) := of_decide_eq_true (by assumption)
        obtain ⟨ad601, e601, hx601_0, hx601_1⟩ := at_T93 (Kd.R_reads' HO_1.out).2.2 x8_1 p601 q601
        obtain rfl : ad600 = ad601 := (by injection e601)
        replace p601 := eq_true p601
        replace q601 := eq_true q601
        have hdm13 := dmp_cell1 (dmp_below HD0.out HB.out)
        go_wp2_with (fail)
        repeat (go_quiet (fail); try go_wp2_with (((with_reducible refine gate_dst (N := 45) rfl ?_); (try (refine gate_guard (by rfl) ?_; dsimp only)); refine box_event ?hg (N := 45) ?hd (cs := #[.int .i64 x8_1, .pointer pp6_1]) (t := 144) ?hr ?_; (case hd => rfl); (case hg => rfl); (case hr => (go_simp; done)); intro gb604 hg w14 hbox hb; have n0_ := aS_ (Kd.R_below (Kd.R_st HO_1.out) hb); have n1_ := aS_ (Kept.below (S := (fun k_ => P1_ k_)) (by repeat ((with_reducible first | exact HK.out | apply Kept.drewN))) hb); have n2_ := aS_ (bt_ (bel_ HB.out) hb); have n3_ := aS_ (hbox); have n4_ := aS_ ((by rw [hg]; exact (by exact HK.out.1) : w.heap.size ≤ gb604)); have n5_ := aS_ ((by rw [hg]; exact (bz_ (bel_ HB.out)) : w0.heap.size ≤ gb604)); clear HO_1; clear HK; clear HB; have HO_1 := n0_; have HK := n1_; have HB := n2_; have BK604 := n3_; have GW604 := n4_; have GE604 := n5_; clear n0_ n1_ n2_ n3_ n4_ n5_; clear hb hbox hg; have p605 : 0 ≤ (x8_1 : Int) := of_decide_eq_true (by assumption); have q605 : x8_1 < (l1.length : Int) := of_decide_eq_true (by assumption); obtain ⟨ad605, e605, hx605_0, hx605_1⟩ := at_T93 (Kd.R_reads' HO_1.out).2.2 x8_1 p605 q605; obtain rfl : ad600 = ad605 := (by injection e605); replace p605 := eq_true p605; replace q605 := eq_true q605)))
        go_roundg k1
        case measure => have := HK1.out; omega
        case rel => exact ⟨((rd_T93 l1 x8_1).f1), (wrap64 (x8_1 + 1)), (false), (true), (false), (false), ((some ⟨gb604, 0, none⟩)), (by rfl), (by rfl), (by rfl), (by rfl), (by rfl), (by rfl), (by rfl), (by rfl), (by rfl), H', ⟨by have := HK1.out; omega⟩, ⟨Kd.R_st HO_1.out⟩, ⟨by repeat ((with_reducible exact HK.out))⟩, ⟨by with_reducible repeat exact HB.out⟩⟩
       ·replace c11 := Bool.eq_false_iff.mpr c11
        subst c11
        rw [if_neg (show ¬ (false = true) by decide)] at H
        have H' := Aside0.mk H
        clear H
        obtain ⟨Ao15, co15, eo15⟩ := Kd.R_slice HO_1.out
        subst eo15
        have p600 : 0 ≤ (x8_1 : Int) := of_decide_eq_true (by assumption)
        have q600 : x8_1 < (l1.length : Int) := of_decide_eq_true (by assumption)
        obtain ⟨ad600, e600, hx600_0, hx600_1⟩ := at_T93 (Kd.R_reads' HO_1.out).2.2 x8_1 p600 q600
        cases e600
        replace p600 := eq_true p600
        replace q600 := eq_true q600
        have p601 : 0 ≤ (x8_1 : Int) := of_decide_eq_true (by assumption)
        have q601 : x8_1 < (l1.length : Int) := of_decide_eq_true (by assumption)
        obtain ⟨ad601, e601, hx601_0, hx601_1⟩ := at_T93 (Kd.R_reads' HO_1.out).2.2 x8_1 p601 q601
        obtain rfl : ad600 = ad601 := (by injection e601)
        replace p601 := eq_true p601
        replace q601 := eq_true q601
        have hdm16 := dmp_cell1 (dmp_below HD0.out HB.out)
        go_wp2
        repeat (go_quiet (fail); try go_wp2)
        go_roundg k1
        case measure => have := HK1.out; omega
        case rel => exact ⟨((⟨#[]⟩ : ByteArray)), (wrap64 (x8_1 + 1)), (x9_1), (x10_1), (false), (false), (none), (by rfl), (by rfl), (by rfl), (by rfl), (by rfl), (by rfl), (by rfl), (by rfl), (by rfl), H', ⟨by have := HK1.out; omega⟩, ⟨Kd.R_st HO_1.out⟩, ⟨by repeat ((with_reducible first | exact HK.out | apply Kept.drewN))⟩, ⟨bel_ HB.out⟩⟩
     ·rw [if_neg c6] at H
      have c6b0 := decide_eq_false c6
      have c6b1 : decide (((rd_T93 l1 x8_1).f1).size < 4) = false := decide_eq_false (by omega)
      clear c6
      have H' := Aside0.mk H
      clear H
      obtain ⟨Ao17, co17, eo17⟩ := Kd.R_slice HO_1.out
      subst eo17
      have p600 : 0 ≤ (x8_1 : Int) := of_decide_eq_true (by assumption)
      have q600 : x8_1 < (l1.length : Int) := of_decide_eq_true (by assumption)
      obtain ⟨ad600, e600, hx600_0, hx600_1⟩ := at_T93 (Kd.R_reads' HO_1.out).2.2 x8_1 p600 q600
      cases e600
      replace p600 := eq_true p600
      replace q600 := eq_true q600
      have p601 : 0 ≤ (x8_1 : Int) := of_decide_eq_true (by assumption)
      have q601 : x8_1 < (l1.length : Int) := of_decide_eq_true (by assumption)
      obtain ⟨ad601, e601, hx601_0, hx601_1⟩ := at_T93 (Kd.R_reads' HO_1.out).2.2 x8_1 p601 q601
      obtain rfl : ad600 = ad601 := (by injection e601)
      replace p601 := eq_true p601
      replace q601 := eq_true q601
      have hdm18 := dmp_cell1 (dmp_below HD0.out HB.out)
      go_wp2
      repeat (go_quiet (fail); try go_wp2)
      go_roundg k1
      case measure => have := HK1.out; omega
      case rel => exact ⟨((⟨#[]⟩ : ByteArray)), (wrap64 (x8_1 + 1)), (x9_1), (x10_1), (false), (false), (none), (by rfl), (by rfl), (by rfl), (by rfl), (by rfl), (by rfl), (by rfl), (by rfl), (by rfl), H', ⟨by have := HK1.out; omega⟩, ⟨Kd.R_st HO_1.out⟩, ⟨by repeat ((with_reducible first | exact HK.out | apply Kept.drewN))⟩, ⟨bel_ HB.out⟩⟩
    ·rw [if_neg c5] at H
     have c5b0 := beq_eq_false_iff_ne.mpr c5
     have c5b1 := bne_iff_ne.mpr c5
     by_cases c19 : ((rd_T93 l1 x8_1).f0) = (-1)
     ·rw [if_pos c19] at H
      exact absurd H (by simp)
     ·rw [if_neg c19] at H
      have c19b0 := beq_eq_false_iff_ne.mpr c19
      have c19b1 := bne_iff_ne.mpr c19
      by_cases c20 : x9_1 = true
      ·subst c20
       rw [if_pos rfl] at H
       exact absurd H (by simp)
      ·replace c20 := Bool.eq_false_iff.mpr c20
       subst c20
       rw [if_neg (show ¬ (false = true) by decide)] at H
       by_cases c21 : x10_1 = true
       ·subst c21
        rw [if_pos rfl] at H
        exact absurd H (by simp)
       ·replace c21 := Bool.eq_false_iff.mpr c21
        subst c21
        rw [if_neg (show ¬ (false = true) by decide)] at H
        by_cases c22 : x12_1 = true
        ·subst c22
         rw [if_pos rfl] at H
         exact absurd H (by simp)
        ·replace c22 := Bool.eq_false_iff.mpr c22
         subst c22
         rw [if_neg (show ¬ (false = true) by decide)] at H
         by_cases c23 : (x7_1.size : Int) > 0
         ·rw [if_pos c23] at H
          exact absurd H (by simp)
         ·rw [if_neg c23] at H
          have c23b0 : decide (0 < (x7_1.size : Int)) = false := decide_eq_false c23
          have c23b1 : decide (0 < x7_1.size) = false := decide_eq_false (by omega)
          clear c23
          have H' := Aside0.mk H
          clear H
          obtain ⟨Ao24, co24, eo24⟩ := Kd.R_slice HO_1.out
          subst eo24
          have p600 : 0 ≤ (x8_1 : Int) := of_decide_eq_true (by assumption)
          have q600 : x8_1 < (l1.length : Int) := of_decide_eq_true (by assumption)
          obtain ⟨ad600, e600, hx600_0, hx600_1⟩ := at_T93 (Kd.R_reads' HO_1.out).2.2 x8_1 p600 q600
          cases e600
          replace p600 := eq_true p600
          replace q600 := eq_true q600
          have p606 : 0 ≤ (x8_1 : Int) := of_decide_eq_true (by assumption)
          have q606 : x8_1 < (l1.length : Int) := of_decide_eq_true (by assumption)
          obtain ⟨ad606, e606, hx606_0, hx606_1⟩ := at_T93 (Kd.R_reads' HO_1.out).2.2 x8_1 p606 q606
          obtain rfl : ad600 = ad606 := (by injection e606)
          replace p606 := eq_true p606
          replace q606 := eq_true q606
          go_wp2
          go_roundg k1
          case measure => have := HK1.out; omega
          case rel => exact ⟨(x7_1), (wrap64 (x8_1 + 1)), (false), (false), (true), (false), (pp6_1), (by rfl), (by rfl), (by rfl), (by rfl), (by rfl), (by rfl), (by rfl), (by rfl), (by rfl), H', ⟨by have := HK1.out; omega⟩, ⟨Kd.R_st HO_1.out⟩, ⟨by repeat ((with_reducible exact HK.out))⟩, ⟨bel_ HB.out⟩⟩
   ·rw [if_neg c3] at H
    have c3b0 := decide_eq_false c3
    clear c3
    rw [if_neg (show ¬ (false = true) by decide)] at H
    obtain rfl := Option.some.inj H
    obtain ⟨Ao26, co26, eo26⟩ := Kd.R_slice HO_1.out
    subst eo26
    go_wp2
    go_ret
    exact ⟨_, by rfl, Kd.R_st HO_1.out, bel_ HB.out, by repeat ((with_reducible exact HK.out))⟩
def q_min.f (a0 : Int) (a1 : Int) : Option (Int) := if a0 < a1 then (some a0) else (some a1)
theorem q_min.calls (a0 : Int) (a1 : Int) (r : Int) (w : World) (h : q_min.f a0 a1 = some r) :
  Calls Tryz.prog 81 #[.int .i64 a0, .int .i64 a1] w fun e w' => e = .returned (.int .i64 r) ∧ Drawn0 w w' := by
 have H : (if a0 < a1 then (some a0) else (some a1)) = some r := h
 clear h
 by_cases c3 : a0 < a1
 ·rw [if_pos c3] at H
  have c3b0 := decide_eq_true c3
  clear c3
  obtain rfl := Option.some.inj H
  go_enter Tryz.func81, Tryz.ntmps81
  go_wp2
  go_ret
  exact ⟨by rfl, by repeat (exact Drawn0.refl _)⟩
 ·rw [if_neg c3] at H
  have c3b0 := decide_eq_false c3
  clear c3
  obtain rfl := Option.some.inj H
  go_enter Tryz.func81, Tryz.ntmps81
  go_wp2
  go_ret
  exact ⟨by rfl, by repeat (exact Drawn0.refl _)⟩
def q_max.f (a0 : Int) (a1 : Int) : Option (Int) := if a0 > a1 then (some a0) else (some a1)
theorem q_max.calls (a0 : Int) (a1 : Int) (r : Int) (w : World) (h : q_max.f a0 a1 = some r) :
  Calls Tryz.prog 82 #[.int .i64 a0, .int .i64 a1] w fun e w' => e = .returned (.int .i64 r) ∧ Drawn0 w w' := by
 have H : (if a0 > a1 then (some a0) else (some a1)) = some r := h
 clear h
 by_cases c3 : a0 > a1
 ·rw [if_pos c3] at H
  have c3b0 : decide (a1 < a0) = true := decide_eq_true c3
  clear c3
  obtain rfl := Option.some.inj H
  go_enter Tryz.func82, Tryz.ntmps82
  go_wp2
  go_ret
  exact ⟨by rfl, by repeat (exact Drawn0.refl _)⟩
 ·rw [if_neg c3] at H
  have c3b0 : decide (a1 < a0) = false := decide_eq_false c3
  clear c3
  obtain rfl := Option.some.inj H
  go_enter Tryz.func82, Tryz.ntmps82
  go_wp2
  go_ret
  exact ⟨by rfl, by repeat (exact Drawn0.refl _)⟩
def q_zzLastIndex.l0 : Nat → ByteArray → ByteArray → Int → Option (Int)
 | 0, _, _, _ => none
 | k + 1, x0, x1, x5 => if x5 ≥ 0 then (if 0 ≤ x5 then (if x5 ≤ (wrap64 (x5 + (x1.size : Int))) then (if (wrap64 (x5 + (x1.size : Int))) ≤ (x0.size : Int) then (if (x0.extract (x5 : Int).toNat ((wrap64 (x5 + (x1.size : Int))) : Int).toNat).toList = x1.toList then (some x5) else (q_zzLastIndex.l0 k x0 x1 (wrap64 (x5 - 1)))) else (none)) else (none)) else (none)) else (some (-1))
def q_zzLastIndex.f (k : Nat) (a0 : ByteArray) (a1 : ByteArray) : Option (Int) := q_zzLastIndex.l0 k a0 a1 (wrap64 ((a0.size : Int) - (a1.size : Int)))
theorem q_zzLastIndex.calls (k : Nat) (a0 : ByteArray) (a1 : ByteArray) (r : Int) (w : World) (h : q_zzLastIndex.f k a0 a1 = some r) :
  Calls Tryz.prog 127 #[.string a0, .string a1] w fun e w' => e = .returned (.int .i64 r) ∧ Drawn0 w w' := by
 have H : (q_zzLastIndex.l0 k a0 a1 (wrap64 ((a0.size : Int) - (a1.size : Int)))) = some r := h
 clear h
 have H' := Aside0.mk H
 clear H
 go_enter Tryz.func127, Tryz.ntmps127
 go_wp2
 go_loopg [5] k (fun kq v5 w' => ∃ (x5_1 : Int), v5 = .int .i64 x5_1 ∧ Aside0 (q_zzLastIndex.l0 kq a0 a1 x5_1 = some r) ∧ Aside0 (kq ≤ k) ∧ Drawn0 w w')
 case atStart => exact ⟨(wrap64 ((a0.size : Int) - (a1.size : Int))), (by rfl), H', ⟨Nat.le_refl _⟩, by repeat (exact Drawn0.refl _)⟩
 case round =>
  clear H'
  obtain ⟨x5_1, rfl, HA, HK1, ⟨m1, rfl⟩⟩ := hrel
  cases gk with
  | zero => exact absurd HA.out (by simp [q_zzLastIndex.l0])
  | succ k1 =>
   have H := HA.out; clear HA
   simp only [q_zzLastIndex.l0] at H
   by_cases c3 : x5_1 ≥ 0
   ·rw [if_pos c3] at H
    have c3b0 : decide (0 ≤ x5_1) = true := decide_eq_true c3
    clear c3
    replace H := yes_ H; obtain ⟨c4, H⟩ := H
    have c4b0 := eq_true c4
    have c4b1 := decide_eq_true c4
    clear c4
    replace H := yes_ H; obtain ⟨c5, H⟩ := H
    have c5b0 := eq_true c5
    have c5b1 := decide_eq_true c5
    replace H := yes_ H; obtain ⟨c6, H⟩ := H
    have c6b0 := eq_true c6
    have c6b1 := decide_eq_true c6
    by_cases c7 : (a0.extract (x5_1 : Int).toNat ((wrap64 (x5_1 + (a1.size : Int))) : Int).toNat).toList = a1.toList
    ·rw [if_pos c7] at H
     have c7b0 := beq_iff_eq.mpr c7
     have c7b1 := bne_eq_false_iff_eq.mpr c7
     clear c7
     obtain rfl := Option.some.inj H
     go_wp2
     go_ret
     exact ⟨by rfl, by repeat (first | exact Drawn0.refl _ | apply Drawn0.step)⟩
    ·rw [if_neg c7] at H
     have c7b0 := beq_eq_false_iff_ne.mpr c7
     have c7b1 := bne_iff_ne.mpr c7
     have H' := Aside0.mk H
     clear H
     go_wp2
     go_roundg k1
     case measure => have := HK1.out; omega
     case rel => exact ⟨(wrap64 (x5_1 - 1)), (by rfl), H', ⟨by have := HK1.out; omega⟩, by repeat (first | exact Drawn0.refl _ | apply Drawn0.step)⟩
   ·rw [if_neg c3] at H
    have c3b0 : decide (0 ≤ x5_1) = false := decide_eq_false c3
    clear c3
    obtain rfl := Option.some.inj H
    go_wp2
    go_ret
    exact ⟨by rfl, by repeat (first | exact Drawn0.refl _ | apply Drawn0.step)⟩
end Go.Proofs.YtgogjghfehcpoaaGreatDoor.QT
