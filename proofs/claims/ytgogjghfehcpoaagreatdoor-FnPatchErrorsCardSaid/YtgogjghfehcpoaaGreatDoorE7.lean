/- FnPatchErrors: the statement, at every input; its condition: the listed variables read as the row lists them. -/
import Derived.Test.YtgogjghfehcpoaaGreatDoorE6
import Derived.Test.YtgogjghfehcpoaaGreatDoorRows
import Derived.Test.YtgogjghfehcpoaaGreatDoorTie
import Derived.Test.YtgogjghfehcpoaaGreatDoorCards
import Derived.Test.YtgogjghfehcpoaaGreatDoorProg
import Derived.Deep.Slices
import Derived.Deep.Fields
import Derived.ChangeSame
import Derived.ProofKit
import Derived.OpenShut
import Derived.LaidMore
import Derived.Lay
import Derived.SevenTiedAt
import Derived.Stop.Joined
import Derived.ShutString
import Derived.Carry
import Derived.SizedLaws
set_option maxHeartbeats 8000000
set_option maxRecDepth 100000
namespace Go.Proofs.YtgogjghfehcpoaaGreatDoor.QT
set_option linter.unusedVariables false
set_option linter.unusedSimpArgs false
open Go.RowKit Go.Proofs.YtgogjghfehcpoaaGreatDoorW.PrintWords Go.Proofs.YtgogjghfehcpoaaGreatDoorW.PrintLast Go.Proofs.YtgogjghfehcpoaaGreatDoorW.PrintMore
theorem begins_true (s t : ByteArray) (w : World) (h1 : t.size ≤ s.size) (h2 : (s.extract 0 t.size).toList = t.toList) :
  Calls Tryz.prog 10 #[.string s, .string t] w fun e w' => e = .returned (.bool true) ∧ w' = w := by
 have d1 : decide ((t.size : Int) ≤ (s.size : Int)) = true := decide_eq_true (by omega)
 have d2 : ((t.size : Int) ≤ (s.size : Int)) = True := eq_true (by omega)
 have d3 : (0 ≤ (t.size : Int)) = True := eq_true (by omega)
 have d4 : ((s.extract 0 t.size).toList == t.toList) = true := beq_iff_eq.mpr h2
 have d5 : (t.size ≤ s.size) = True := eq_true h1
 go_enter Tryz.func10, Tryz.ntmps10
 go_wp2
 go_ret
 exact ⟨rfl, rfl⟩
theorem begins_B (h m : Bs) (w : World) : Calls Tryz.prog 10 #[.string (B (h ++ m)), .string (B h)] w fun e w' => e = .returned (.bool true) ∧ w' = w :=
 begins_true _ _ w (by rw [B_size, B_size, List.length_append]; omega) (by rw [B_size, B_extract]; simp)
def wordB (c : UInt8) : Bool := ((decide (97 ≤ (c.toNat : Int)) && decide ((c.toNat : Int) ≤ 122)) || (decide (65 ≤ (c.toNat : Int)) && decide ((c.toNat : Int) ≤ 90))) || (decide (48 ≤ (c.toNat : Int)) && decide ((c.toNat : Int) ≤ 57))
def wordAt (s : ByteArray) (i : Nat) : Bool := (decide (0 < (s.size : Int)) && decide ((s.size : Int) ≤ 30)) && (s.data.toList.take i).all wordB
theorem wordAt_succ (s : ByteArray) (i : Nat) (hi : i < s.data.toList.length) : wordAt s (i + 1) = (wordAt s i && wordB s.data.toList[i]) := by
 unfold wordAt
 rw [List.take_succ_eq_append_getElem hi, List.all_append]
 simp [Bool.and_assoc]
def wordZ (z : Int) : Bool := ((decide (97 ≤ z) && decide (z ≤ 122)) || (decide (65 ≤ z) && decide (z ≤ 90))) || (decide (48 ≤ z) && decide (z ≤ 57))
theorem wordAt_next (s : ByteArray) (x : Int) (h0 : 0 ≤ x) (h1 : x < (s.size : Int)) (hs : s.size ≤ 2147483647) : wordAt s (wrap64 (x + 1)).toNat = (wordAt s x.toNat && wordZ (bt s x)) := by
 have hsz := size_data s
 obtain ⟨i, rfl⟩ : ∃ i : Nat, x = i := ⟨x.toNat, by omega⟩
 have hi : i < s.data.toList.length := by omega
 rw [w64s i (by omega), Int.toNat_natCast, Int.toNat_natCast, wordAt_succ s i hi, bt_nat s i hi]
 rfl
def h20 : Bs := [73, 110, 118, 97, 108, 105, 100, 32, 112, 97, 116, 99, 104, 32, 115, 116, 114, 105, 110, 103]
def h18 : Bs := [73, 110, 118, 97, 108, 105, 100, 32, 112, 97, 116, 99, 104, 32, 109, 111, 100, 101]
theorem fits5_take {l : List S33} (h : fits5 l = true) (m : Nat) : fits5 (l.take m) = true := by
 simp only [fits5, Bool.and_eq_true, decide_eq_true_eq, List.all_eq_true] at h ⊢
 exact ⟨by rw [List.length_take]; omega, fun p hp => h.2 p (List.mem_of_mem_take hp)⟩
theorem fits5_drop {l : List S33} (h : fits5 l = true) (m : Nat) : fits5 (l.drop m) = true := by
 simp only [fits5, Bool.and_eq_true, decide_eq_true_eq, List.all_eq_true] at h ⊢
 exact ⟨by rw [List.length_drop]; omega, fun p hp => h.2 p (List.mem_of_mem_drop hp)⟩
theorem word_is {c : UInt8} (h : wordB c = true) : isWord c := by
 simp only [wordB, Bool.or_eq_true, Bool.and_eq_true, decide_eq_true_eq] at h
 unfold isWord
 omega
theorem factsE (l : List S33) (s : ByteArray) (hf : fits5 l = true) (hok : okPatches l = true) (hz : 0 < s.size ∧ s.size ≤ 30) (hw : wordAt s s.size = true) (m : Nat) (hm : m < l.length) :
  ∃ (T0 T1 T2 : ByteArray) (k0 k1 k2 k3 k4 : Nat) (m1 m2 : Bs) (bs : List S33), laws_patchText.f k0 l false = some T0 ∧ laws_patchText.f k1 (l.take (m + 1)) false = some T1 ∧ laws_patchText.f k2 (l.drop (m + 1)) false = some T2 ∧
   pread.f k3 ((s ++ (⟨#[10]⟩ : ByteArray)) ++ T0) = some ([], B (h20 ++ m1)) ∧ pread.f k4 (((T1 ++ s) ++ (⟨#[10]⟩ : ByteArray)) ++ T2) = some (bs, B (h18 ++ m2)) ∧ T0.size ≤ 100000 ∧ T1.size ≤ 100000 ∧ T2.size ≤ 100000 := by
 simp only [okPatches, Bool.and_eq_true, decide_eq_true_eq, List.all_eq_true] at hok
 obtain ⟨hp, hl8⟩ := hok
 have hsz := size_data s
 have hall : ∀ c ∈ s.data.toList, isWord c := by
  unfold wordAt at hw
  rw [hsz, List.take_length] at hw
  simp only [Bool.and_eq_true, List.all_eq_true] at hw
  exact fun c hc => word_is (hw.2 c hc)
 have hsB := (B_of s).symm
 generalize s.data.toList = sl at hall hsB hsz
 subst hsB
 obtain ⟨w0, w, rfl⟩ : ∃ w0 w, sl = w0 :: w := by
  cases sl with
  | nil => rw [B_size] at hz; simp at hz
  | cons a b => exact ⟨a, b, rfl⟩
 have hwl : w.length ≤ 100 := by simp only [List.length_cons] at hsz; omega
 have hpt : ∀ p ∈ (l.take (m + 1)).map toP, okPiece p = true := fun p h => by
  obtain ⟨q, hq, rfl⟩ := List.mem_map.1 h
  exact hp _ (List.mem_map.2 ⟨q, List.mem_of_mem_take hq, rfl⟩)
 have hpd : ∀ p ∈ (l.drop (m + 1)).map toP, okPiece p = true := fun p h => by
  obtain ⟨q, hq, rfl⟩ := List.mem_map.1 h
  exact hp _ (List.mem_map.2 ⟨q, List.mem_of_mem_drop hq, rfl⟩)
 obtain ⟨k0, e0⟩ := (ev_patchText l false hf hp hl8).at
 obtain ⟨k1, e1⟩ := (ev_patchText (l.take (m + 1)) false (fits5_take hf _) hpt (by rw [List.length_take]; omega)).at
 obtain ⟨k2, e2⟩ := (ev_patchText (l.drop (m + 1)) false (fits5_drop hf _) hpd (by rw [List.length_drop]; omega)).at
 have t0 := (allLines_len _ hp).2.2
 have t1 := (allLines_len _ hpt).2.2
 have t2 := (allLines_len _ hpd).2.2
 simp only [List.length_map, List.length_take, List.length_drop] at t0 t1 t2
 obtain ⟨k3, e3⟩ := (read_word w0 w (textL false (l.map toP)) hall hwl (by omega)).at
 obtain ⟨ps, q, epq⟩ : ∃ ps q, (l.take (m + 1)).map toP = ps ++ [q] := by
  have hne : (l.take (m + 1)).map toP ≠ [] := by
   intro h0
   have := congrArg List.length h0
   simp only [List.length_map, List.length_take, List.length_nil] at this
   omega
  exact ⟨_, _, (List.dropLast_concat_getLast hne).symm⟩
 obtain ⟨bs, m2, e4⟩ := read_mode ps q ((l.drop (m + 1)).map toP) w0 w (fun p h => by
  rcases List.mem_append.1 h with h | h
  ·exact hpt p (epq ▸ h)
  ·exact hpd p h) (by
  rw [← epq]
  simp only [List.length_append, List.length_map, List.length_take, List.length_drop]
  omega) hall hwl
 obtain ⟨k4, e4⟩ := e4.at
 refine ⟨_, _, _, k0, k1, k2, k3, k4, [58, 32] ++ (w0 :: w), [32, 39] ++ m2, bs, e0, e1, e2, ?_, ?_, ?_, ?_, ?_⟩
 ·rw [show (⟨#[10]⟩ : ByteArray) = B [10] from rfl, B_append, B_append]
  rw [show ((w0 :: w) ++ [10]) ++ textL false (l.map toP) = (w0 :: w) ++ 10 :: textL false (l.map toP) by simp]
  exact e3
 ·rw [show (⟨#[10]⟩ : ByteArray) = B [10] from rfl, B_append, B_append, B_append, epq]
  rw [show ((textL false (ps ++ [q]) ++ (w0 :: w)) ++ [10]) ++ textL false ((l.drop (m + 1)).map toP) = (textL false (ps ++ [q]) ++ (w0 :: w)) ++ 10 :: textL false ((l.drop (m + 1)).map toP) by simp]
  exact e4
 ·rw [B_size]; omega
 ·rw [B_size]; omega
 ·rw [B_size]; omega
def lwe.T16 : Bool × List (List Nat × List Nat) := (true, [([], []), ([], []), ([1], [1]), ([0, 2], [0, 2]), ([3], [3]), ([], []), ([4, 5], [4, 5]), ([6], [6]), ([], []), ([], []), ([9], [9]), ([8, 10], [8, 10]), ([11, 4], [11]), ([7, 12], [7, 12]), ([13, 12, 0, 1, 2, 3, 4, 5, 6, 7, 8, 9, 10, 11, 12, 13], [13])])
def lwe.B16 : List Nat := [0, 0, 2, 7, 15, 0, 63, 127, 0, 0, 512, 1792, 3871, 8191, 16383]
theorem lwe.tab16 : rtab .any (opsOf Tryz.f3 16) = lwe.T16 := by kernel_rfl
theorem lwe.bits16 : waitsOk lwe.T16.2 lwe.B16 = true := by kernel_rfl
theorem lawE (A : Option Addr) (c : Nat) (l : List S33) (s : ByteArray) (n : Int) (hn0 : 0 ≤ n) (hn1 : n < 256) (w : World) (hr : Kd.C k33 w A l.length l) (hc : l.length ≤ c) :
  Calls Tryz.prog 3 #[.slice A l.length c, .string s, .int .u8 n] w fun e w' => e = .returned (.bool true) ∧ Below w.heap.size w w' := by
 have HR := Aside0.mk hr
 have HC := Aside0.mk hc
 have HN := aS_ (And.intro hn0 hn1)
 clear hr hc hn0 hn1
 obtain ⟨k5, h5⟩ := (ev_fits5 l).at
 have H5 := Aside0.mk h5
 clear h5
 cases hf0 : fits5 l with
 | false =>
  rw [hf0] at H5
  go_enter Tryz.func3, Tryz.ntmps3
  go_wp2_with (first | (go_at_call 5; refine (laws_zzFits5.calls k5 A c l false w HR.out HC.out H5.out).mono ?_; rintro e w1 ⟨rfl, hb1⟩))
  go_ret
  exact ⟨rfl, hb1⟩
 | true =>
  rw [hf0] at H5
  have HF := Aside0.mk hf0
  clear hf0
  by_cases hs : (s.size : Int) > 2147483647
  ·have hs1 : decide ((2147483647 : Int) < (s.size : Int)) = true := decide_eq_true hs
   have hs2 : decide (2147483647 < s.size) = true := decide_eq_true (by omega)
   go_enter Tryz.func3, Tryz.ntmps3
   go_wp2_with (first | (go_at_call 5; refine (laws_zzFits5.calls k5 A c l true w HR.out HC.out H5.out).mono ?_; rintro e w1 ⟨rfl, hb1⟩))
   go_ret
   exact ⟨rfl, hb1⟩
  ·have hs1 : decide ((2147483647 : Int) < (s.size : Int)) = false := decide_eq_false (by omega)
   have hs2 : decide (2147483647 < s.size) = false := decide_eq_false (by omega)
   have HS := aS_ (show s.size ≤ 2147483647 by omega)
   clear hs
   obtain ⟨k6, h6⟩ := (ev_arePatches l HF.out).at
   have H6 := Aside0.mk h6
   clear h6
   cases hw0 : wordAt s 0 with
   | false =>
    have HW := Aside0.mk hw0
    clear hw0
    have hwf : ∀ i, wordAt s i = false := fun i => by
     have h_ := HW.out
     unfold wordAt at h_ ⊢
     rw [List.take_zero, List.all_nil, Bool.and_true] at h_
     rw [h_, Bool.false_and]
    go_enter Tryz.func3, Tryz.ntmps3
    by_cases hz : 0 < s.size
    ·have z0 : decide (0 < (s.size : Int)) = true := decide_eq_true (by omega)
     have z1 := decide_eq_true hz
     have hz30 : ¬ (s.size : Int) ≤ 30 := fun h_ => by
      have h1_ := HW.out
      unfold wordAt at h1_
      rw [z0, decide_eq_true h_] at h1_
      simp at h1_
     have z2 : decide ((s.size : Int) ≤ 30) = false := decide_eq_false hz30
     have z3 : decide (s.size ≤ 30) = false := decide_eq_false (by omega)
     go_wp2_with (first | (go_at_call 5; refine (laws_zzFits5.calls k5 A c l true w HR.out HC.out H5.out).mono ?_; rintro e w1 ⟨rfl, hb1⟩))
     have HB := Aside0.mk hb1
     clear hb1
     go_loopg [7, 32] (s.size + 1) (fun kq v7 v32 w' => ∃ x : Int, v7 = .bool false ∧ v32 = .int .i64 x ∧ Aside0 (0 ≤ x ∧ x ≤ (s.size : Int) ∧ x + (kq : Int) = (s.size : Int) + 1) ∧ Aside0 (Below w.heap.size w w'))
     case atStart => exact ⟨0, rfl, rfl, ⟨⟨by omega, by omega, by omega⟩⟩, HB⟩
     case round =>
      clear HB
      obtain ⟨x, rfl, rfl, HX, HB⟩ := hrel
      cases gk with
      | zero => have := HX.out; exact absurd this.2.2 (by omega)
      | succ k1 =>
       by_cases cx : x < (s.size : Int)
       ·have cb0 : decide (x < (s.size : Int)) = true := decide_eq_true cx
        have p1 : (0 ≤ x) = True := eq_true HX.out.1
        have q1 : (x < (s.size : Int)) = True := eq_true cx
        have hx1 := bt_at s x
        go_wp2
        go_roundg k1
        case measure => omega
        case rel => exact ⟨wrap64 (x + 1), rfl, rfl, ⟨by have h_ := HX.out; have hs_ := HS.out; unfold wrap64; omega⟩, HB⟩
       ·have cb0 : decide (x < (s.size : Int)) = false := decide_eq_false cx
        cases hok : okPatches l with
        | false =>
         rw [hok] at H6
         go_wp2_with (first | (go_at_call 6; refine (laws_arePatches.calls k6 A c l false _ (Kd.C_below HR.out HB.out) HC.out H6.out).mono ?_; rintro e w6 ⟨rfl, hb6⟩; have HB6 := aS_ (bt_ HB.out hb6); clear hb6) | (go_at_call 7; refine (awake_calls _).mono ?_; rintro e w7 ⟨rfl, hb7⟩))
         go_ret
         exact ⟨rfl, bt_ HB6.out hb7⟩
        | true =>
         rw [hok] at H6
         by_cases hl : (l.length : Int) = 0
         ·have hl1 : ((l.length : Int) == 0) = true := beq_iff_eq.mpr hl
          go_wp2_with (first | (go_at_call 6; refine (laws_arePatches.calls k6 A c l true _ (Kd.C_below HR.out HB.out) HC.out H6.out).mono ?_; rintro e w6 ⟨rfl, hb6⟩; have HB6 := aS_ (bt_ HB.out hb6); clear hb6) | (go_at_call 7; refine (awake_calls _).mono ?_; rintro e w7 ⟨rfl, hb7⟩))
          go_ret
          exact ⟨rfl, bt_ HB6.out hb7⟩
         ·have hl1 : ((l.length : Int) == 0) = false := beq_eq_false_iff_ne.mpr hl
          go_wp2_with (first | (go_at_call 6; refine (laws_arePatches.calls k6 A c l true _ (Kd.C_below HR.out HB.out) HC.out H6.out).mono ?_; rintro e w6 ⟨rfl, hb6⟩; have HB6 := aS_ (bt_ HB.out hb6); clear hb6) | (go_at_call 7; refine (awake_calls _).mono ?_; rintro e w7 ⟨rfl, hb7⟩))
          go_ret
          exact ⟨rfl, bt_ HB6.out hb7⟩
    ·have z0 : decide (0 < (s.size : Int)) = false := decide_eq_false (by omega)
     have z1 := decide_eq_false hz
     go_wp2_with (first | (go_at_call 5; refine (laws_zzFits5.calls k5 A c l true w HR.out HC.out H5.out).mono ?_; rintro e w1 ⟨rfl, hb1⟩))
     have HB := Aside0.mk hb1
     clear hb1
     go_loopg [7, 32] (s.size + 1) (fun kq v7 v32 w' => ∃ x : Int, v7 = .bool false ∧ v32 = .int .i64 x ∧ Aside0 (0 ≤ x ∧ x ≤ (s.size : Int) ∧ x + (kq : Int) = (s.size : Int) + 1) ∧ Aside0 (Below w.heap.size w w'))
     case atStart => exact ⟨0, rfl, rfl, ⟨⟨by omega, by omega, by omega⟩⟩, HB⟩
     case round =>
      clear HB
      obtain ⟨x, rfl, rfl, HX, HB⟩ := hrel
      cases gk with
      | zero => have := HX.out; exact absurd this.2.2 (by omega)
      | succ k1 =>
       by_cases cx : x < (s.size : Int)
       ·have cb0 : decide (x < (s.size : Int)) = true := decide_eq_true cx
        have p1 : (0 ≤ x) = True := eq_true HX.out.1
        have q1 : (x < (s.size : Int)) = True := eq_true cx
        have hx1 := bt_at s x
        go_wp2
        go_roundg k1
        case measure => omega
        case rel => exact ⟨wrap64 (x + 1), rfl, rfl, ⟨by have h_ := HX.out; have hs_ := HS.out; unfold wrap64; omega⟩, HB⟩
       ·have cb0 : decide (x < (s.size : Int)) = false := decide_eq_false cx
        cases hok : okPatches l with
        | false =>
         rw [hok] at H6
         go_wp2_with (first | (go_at_call 6; refine (laws_arePatches.calls k6 A c l false _ (Kd.C_below HR.out HB.out) HC.out H6.out).mono ?_; rintro e w6 ⟨rfl, hb6⟩; have HB6 := aS_ (bt_ HB.out hb6); clear hb6) | (go_at_call 7; refine (awake_calls _).mono ?_; rintro e w7 ⟨rfl, hb7⟩))
         go_ret
         exact ⟨rfl, bt_ HB6.out hb7⟩
        | true =>
         rw [hok] at H6
         by_cases hl : (l.length : Int) = 0
         ·have hl1 : ((l.length : Int) == 0) = true := beq_iff_eq.mpr hl
          go_wp2_with (first | (go_at_call 6; refine (laws_arePatches.calls k6 A c l true _ (Kd.C_below HR.out HB.out) HC.out H6.out).mono ?_; rintro e w6 ⟨rfl, hb6⟩; have HB6 := aS_ (bt_ HB.out hb6); clear hb6) | (go_at_call 7; refine (awake_calls _).mono ?_; rintro e w7 ⟨rfl, hb7⟩))
          go_ret
          exact ⟨rfl, bt_ HB6.out hb7⟩
         ·have hl1 : ((l.length : Int) == 0) = false := beq_eq_false_iff_ne.mpr hl
          go_wp2_with (first | (go_at_call 6; refine (laws_arePatches.calls k6 A c l true _ (Kd.C_below HR.out HB.out) HC.out H6.out).mono ?_; rintro e w6 ⟨rfl, hb6⟩; have HB6 := aS_ (bt_ HB.out hb6); clear hb6) | (go_at_call 7; refine (awake_calls _).mono ?_; rintro e w7 ⟨rfl, hb7⟩))
          go_ret
          exact ⟨rfl, bt_ HB6.out hb7⟩
   | true =>
    have HW := Aside0.mk hw0
    clear hw0
    have hzz : 0 < s.size ∧ s.size ≤ 30 := by
     have h1_ := HW.out
     unfold wordAt at h1_
     simp only [Bool.and_eq_true, decide_eq_true_eq] at h1_
     omega
    have z0 : decide (0 < (s.size : Int)) = true := decide_eq_true (by omega)
    have z1 : decide (0 < s.size) = true := decide_eq_true hzz.1
    have z2 : decide ((s.size : Int) ≤ 30) = true := decide_eq_true (by omega)
    have z3 : decide (s.size ≤ 30) = true := decide_eq_true hzz.2
    have HZ := Aside0.mk hzz
    clear hzz
    go_enter Tryz.func3, Tryz.ntmps3
    go_wp2_with (first | (go_at_call 5; refine (laws_zzFits5.calls k5 A c l true w HR.out HC.out H5.out).mono ?_; rintro e w1 ⟨rfl, hb1⟩))
    have HB := Aside0.mk hb1
    clear hb1
    go_loopg [7, 32] (s.size + 1) (fun kq v7 v32 w' => ∃ x : Int, v7 = .bool (wordAt s x.toNat) ∧ v32 = .int .i64 x ∧ Aside0 (0 ≤ x ∧ x ≤ (s.size : Int) ∧ x + (kq : Int) = (s.size : Int) + 1) ∧ Aside0 (Below w.heap.size w w'))
    case atStart => exact ⟨0, by rw [show wordAt s (0 : Int).toNat = true from HW.out], rfl, ⟨⟨by omega, by omega, by omega⟩⟩, HB⟩
    case round =>
     clear z0 z1 z2 z3
     clear HB
     obtain ⟨x, rfl, rfl, HX, HB⟩ := hrel
     cases gk with
     | zero => have := HX.out; exact absurd this.2.2 (by omega)
     | succ k1 =>
      by_cases cx : x < (s.size : Int)
      ·have cb0 : decide (x < (s.size : Int)) = true := decide_eq_true cx
       have p1 : (0 ≤ x) = True := eq_true HX.out.1
       have q1 : (x < (s.size : Int)) = True := eq_true cx
       have hx1 := bt_at s x
       have HNX := aS_ (wordAt_next s x HX.out.1 cx HS.out)
       have HM := aS_ (show 0 ≤ wrap64 (x + 1) ∧ wrap64 (x + 1) ≤ (s.size : Int) ∧ wrap64 (x + 1) + (k1 : Int) = (s.size : Int) + 1 by have h_ := HX.out; have hs_ := HS.out; unfold wrap64; omega)
       cases hwx : wordAt s x.toNat with
       | false =>
        rw [hwx] at HNX
        go_wp2
        go_roundg k1
        case measure => omega
        case rel => exact ⟨wrap64 (x + 1), by rw [HNX.out, Bool.false_and], rfl, HM, HB⟩
       | true =>
        rw [hwx, Bool.true_and] at HNX
        generalize bt s x = z at hx1 HNX
        cases a0 : decide (97 ≤ z) with
        | true =>
         cases b0 : decide (z ≤ 122) with
         | true =>
          go_wp2
          go_roundg k1
          case measure => omega
          case rel => exact ⟨wrap64 (x + 1), by rw [HNX.out]; simp [wordZ, a0, b0], rfl, HM, HB⟩
         | false =>
          cases a1 : decide (65 ≤ z) with
          | true =>
           cases b1 : decide (z ≤ 90) with
           | true =>
            go_wp2
            go_roundg k1
            case measure => omega
            case rel => exact ⟨wrap64 (x + 1), by rw [HNX.out]; simp [wordZ, a0, b0, a1, b1], rfl, HM, HB⟩
           | false =>
            cases a2 : decide (48 ≤ z) with
            | true =>
             cases b2 : decide (z ≤ 57) with
             | true =>
              go_wp2
              go_roundg k1
              case measure => omega
              case rel => exact ⟨wrap64 (x + 1), by rw [HNX.out]; simp [wordZ, a0, b0, a1, b1, a2, b2], rfl, HM, HB⟩
             | false =>
              go_wp2
              go_roundg k1
              case measure => omega
              case rel => exact ⟨wrap64 (x + 1), by rw [HNX.out]; simp [wordZ, a0, b0, a1, b1, a2, b2], rfl, HM, HB⟩
            | false =>
             go_wp2
             go_roundg k1
             case measure => omega
             case rel => exact ⟨wrap64 (x + 1), by rw [HNX.out]; simp [wordZ, a0, b0, a1, b1, a2], rfl, HM, HB⟩
          | false =>
           cases a2 : decide (48 ≤ z) with
           | true =>
            cases b2 : decide (z ≤ 57) with
            | true =>
             go_wp2
             go_roundg k1
             case measure => omega
             case rel => exact ⟨wrap64 (x + 1), by rw [HNX.out]; simp [wordZ, a0, b0, a1, a2, b2], rfl, HM, HB⟩
            | false =>
             go_wp2
             go_roundg k1
             case measure => omega
             case rel => exact ⟨wrap64 (x + 1), by rw [HNX.out]; simp [wordZ, a0, b0, a1, a2, b2], rfl, HM, HB⟩
           | false =>
            go_wp2
            go_roundg k1
            case measure => omega
            case rel => exact ⟨wrap64 (x + 1), by rw [HNX.out]; simp [wordZ, a0, b0, a1, a2], rfl, HM, HB⟩
        | false =>
         cases a1 : decide (65 ≤ z) with
         | true =>
          cases b1 : decide (z ≤ 90) with
          | true =>
           go_wp2
           go_roundg k1
           case measure => omega
           case rel => exact ⟨wrap64 (x + 1), by rw [HNX.out]; simp [wordZ, a0, a1, b1], rfl, HM, HB⟩
          | false =>
           cases a2 : decide (48 ≤ z) with
           | true =>
            cases b2 : decide (z ≤ 57) with
            | true =>
             go_wp2
             go_roundg k1
             case measure => omega
             case rel => exact ⟨wrap64 (x + 1), by rw [HNX.out]; simp [wordZ, a0, a1, b1, a2, b2], rfl, HM, HB⟩
            | false =>
             go_wp2
             go_roundg k1
             case measure => omega
             case rel => exact ⟨wrap64 (x + 1), by rw [HNX.out]; simp [wordZ, a0, a1, b1, a2, b2], rfl, HM, HB⟩
           | false =>
            go_wp2
            go_roundg k1
            case measure => omega
            case rel => exact ⟨wrap64 (x + 1), by rw [HNX.out]; simp [wordZ, a0, a1, b1, a2], rfl, HM, HB⟩
         | false =>
          cases a2 : decide (48 ≤ z) with
          | true =>
           cases b2 : decide (z ≤ 57) with
           | true =>
            go_wp2
            go_roundg k1
            case measure => omega
            case rel => exact ⟨wrap64 (x + 1), by rw [HNX.out]; simp [wordZ, a0, a1, a2, b2], rfl, HM, HB⟩
           | false =>
            go_wp2
            go_roundg k1
            case measure => omega
            case rel => exact ⟨wrap64 (x + 1), by rw [HNX.out]; simp [wordZ, a0, a1, a2, b2], rfl, HM, HB⟩
          | false =>
           go_wp2
           go_roundg k1
           case measure => omega
           case rel => exact ⟨wrap64 (x + 1), by rw [HNX.out]; simp [wordZ, a0, a1, a2], rfl, HM, HB⟩
      ·have cb0 : decide (x < (s.size : Int)) = false := decide_eq_false cx
       have hxe : x = (s.size : Int) := by have := HX.out; omega
       subst hxe
       cases hwx : wordAt s (s.size : Int).toNat with
       | false =>
        cases hok : okPatches l with
        | false =>
         rw [hok] at H6
         go_wp2_with (first | (go_at_call 6; refine (laws_arePatches.calls k6 A c l false _ (Kd.C_below HR.out HB.out) HC.out H6.out).mono ?_; rintro e w6 ⟨rfl, hb6⟩; have HB6 := aS_ (bt_ HB.out hb6); clear hb6) | (go_at_call 7; refine (awake_calls _).mono ?_; rintro e w7 ⟨rfl, hb7⟩))
         go_ret
         exact ⟨rfl, bt_ HB6.out hb7⟩
        | true =>
         rw [hok] at H6
         by_cases hl : (l.length : Int) = 0
         ·have hl1 : ((l.length : Int) == 0) = true := beq_iff_eq.mpr hl
          go_wp2_with (first | (go_at_call 6; refine (laws_arePatches.calls k6 A c l true _ (Kd.C_below HR.out HB.out) HC.out H6.out).mono ?_; rintro e w6 ⟨rfl, hb6⟩; have HB6 := aS_ (bt_ HB.out hb6); clear hb6) | (go_at_call 7; refine (awake_calls _).mono ?_; rintro e w7 ⟨rfl, hb7⟩))
          go_ret
          exact ⟨rfl, bt_ HB6.out hb7⟩
         ·have hl1 : ((l.length : Int) == 0) = false := beq_eq_false_iff_ne.mpr hl
          go_wp2_with (first | (go_at_call 6; refine (laws_arePatches.calls k6 A c l true _ (Kd.C_below HR.out HB.out) HC.out H6.out).mono ?_; rintro e w6 ⟨rfl, hb6⟩; have HB6 := aS_ (bt_ HB.out hb6); clear hb6) | (go_at_call 7; refine (awake_calls _).mono ?_; rintro e w7 ⟨rfl, hb7⟩))
          go_ret
          exact ⟨rfl, bt_ HB6.out hb7⟩
       | true =>
        cases hok : okPatches l with
        | false =>
         rw [hok] at H6
         go_wp2_with (first | (go_at_call 6; refine (laws_arePatches.calls k6 A c l false _ (Kd.C_below HR.out HB.out) HC.out H6.out).mono ?_; rintro e w6 ⟨rfl, hb6⟩; have HB6 := aS_ (bt_ HB.out hb6); clear hb6) | (go_at_call 7; refine (awake_calls _).mono ?_; rintro e w7 ⟨rfl, hb7⟩))
         go_ret
         exact ⟨rfl, bt_ HB6.out hb7⟩
        | true =>
         rw [hok] at H6
         by_cases hl : (l.length : Int) = 0
         ·have hl1 : ((l.length : Int) == 0) = true := beq_iff_eq.mpr hl
          go_wp2_with (first | (go_at_call 6; refine (laws_arePatches.calls k6 A c l true _ (Kd.C_below HR.out HB.out) HC.out H6.out).mono ?_; rintro e w6 ⟨rfl, hb6⟩; have HB6 := aS_ (bt_ HB.out hb6); clear hb6) | (go_at_call 7; refine (awake_calls _).mono ?_; rintro e w7 ⟨rfl, hb7⟩))
          go_ret
          exact ⟨rfl, bt_ HB6.out hb7⟩
         ·have hl1 : ((l.length : Int) == 0) = false := beq_eq_false_iff_ne.mpr hl
          have hl2 : 0 < l.length := by omega
          obtain ⟨m, hm, htm⟩ : ∃ m : Nat, m < l.length ∧ (wrap64 n).tmod (l.length : Int) = (m : Int) := by
           have h0 := HN.out.1
           have h1 := HN.out.2
           rw [show wrap64 n = n by unfold wrap64; omega]
           refine ⟨n.toNat % l.length, Nat.mod_lt _ hl2, ?_⟩
           rw [Int.tmod_eq_emod_of_nonneg h0]
           conv => lhs; rw [show n = (n.toNat : Int) by omega]
           exact (Int.natCast_emod _ _).symm
          obtain ⟨T0, T1, T2, k0, k1, k2, k3, k4, m1, m2, bs, e0, e1, e2, e3, e4, t0, t1, t2⟩ := factsE l s HF.out hok HZ.out hwx m hm
          have E0 := Aside0.mk e0
          have E1 := Aside0.mk e1
          have E2 := Aside0.mk e2
          have E3 := Aside0.mk e3
          have E4 := Aside0.mk e4
          clear e0 e1 e2 e3 e4
          have hz30 := HZ.out
          have s1 : (9223372036854775807 < s.size + 1) = False := eq_false (by omega)
          have s2 : (9223372036854775807 < s.size + 1 + T0.size) = False := eq_false (by omega)
          have s3 : (9223372036854775807 < T1.size + s.size) = False := eq_false (by omega)
          have s4 : (9223372036854775807 < T1.size + s.size + 1) = False := eq_false (by omega)
          have s5 : (9223372036854775807 < T1.size + s.size + 1 + T2.size) = False := eq_false (by omega)
          clear hz30 t0 t1 t2
          go_wp2_with (first | (go_at_call 6; refine (laws_arePatches.calls k6 A c l true _ (Kd.C_below HR.out HB.out) HC.out H6.out).mono ?_; rintro e w6 ⟨rfl, hb6⟩; have HB6 := aS_ (bt_ HB.out hb6); clear hb6) | (go_at_call 7; refine (awake_calls _).mono ?_; rintro e w7 ⟨rfl, hb7⟩) | (go_at_call 9; refine (laws_patchText.calls k0 A c l false T0 _ (Kd.C_below HR.out HB6.out) HC.out E0.out).mono ?_; rintro e w9 ⟨rfl, hb9⟩; have HB9 := aS_ (bt_ HB6.out hb9); clear hb9) | (go_at_call 8; refine (pread.calls k3 _ [] _ _ E3.out).mono ?_; rintro e w8 ⟨v8, rfl, hs8, hb8⟩; obtain ⟨A8, c8, e8⟩ := Kd.S_slice hs8; subst e8; have HB8 := aS_ (bt_ HB9.out hb8); clear hb8 hs8) | (go_at_call 10; refine (begins_B h20 m1 _).mono ?_; rintro e w10 ⟨rfl, rfl⟩))
          have hPT : ∀ W : World, Below w.heap.size w W → Calls Tryz.prog 9 #[.slice A (m + 1) c, .bool false] W fun e w' => e = .returned (.string T1) ∧ Below W.heap.size W w' := fun W hb => by
           have hlt : (l.take (m + 1)).length = m + 1 := by rw [List.length_take]; omega
           have := laws_patchText.calls k1 A c (l.take (m + 1)) false T1 W (Kd.C_take (Kd.C_below HR.out hb) (by omega)) (by have := HC.out; omega) E1.out
           rw [hlt] at this
           exact this
          have hPD : ∀ W : World, Below w.heap.size w W → Calls Tryz.prog 9 #[.slice (if c = m + 1 then A else A.map (·.add ((m + 1) * 5))) (l.length - (m + 1)) (c - (m + 1)), .bool false] W fun e w' => e = .returned (.string T2) ∧ Below W.heap.size W w' := fun W hb => by
           have hlt : (l.drop (m + 1)).length = l.length - (m + 1) := by rw [List.length_drop]
           have := laws_patchText.calls k2 _ (c - (m + 1)) (l.drop (m + 1)) false T2 W (Kd.C_drop (Kd.C_below HR.out hb) (by omega) HC.out) (by have := HC.out; omega) E2.out
           rw [hlt] at this
           exact this
          have hwm : wrap64 ((m : Int) + 1) = ((m + 1 : Nat) : Int) := w64s m (by have := HF.out; simp only [fits5, Bool.and_eq_true, decide_eq_true_eq] at this; omega)
          have HPT := Aside0.mk hPT
          have HPD := Aside0.mk hPD
          clear hPT hPD
          have hmc : m + 1 ≤ c := by have := HC.out; omega
          have b1 : (0 ≤ ((m + 1 : Nat) : Int)) = True := eq_true (by omega)
          have b2 : (((m + 1 : Nat) : Int) ≤ (c : Int)) = True := eq_true (by omega)
          have b3 : (m + 1 ≤ c) = True := eq_true hmc
          have b4 : (m + 1 ≤ l.length) = True := eq_true (by omega)
          have b5 : (((m + 1 : Nat) : Int) ≤ (l.length : Int)) = True := eq_true (by omega)
          have b6 : (0 ≤ (m : Int) + 1) = True := eq_true (by omega)
          have b7 : ((m : Int) + 1 ≤ (c : Int)) = True := eq_true (by omega)
          have b8 : ((m : Int) + 1 ≤ (l.length : Int)) = True := eq_true (by omega)
          have HB10 := aS_ (bD_ HB8.out)
          refine sA_ (fun w' => True) [] lwe.tab16 lwe.bits16 trivial (fun hHeld HT_ HW_ => ?_)
          refine pA_ 0 (h:=pA_ 1 (h:=pA_ 2 (h:=pA_ 3 (h:=pA_ 5 (h:=pA_ 8 (h:=pA_ 9 (h:=pA_ 10 (h:=pA_ 11 (h:=?_)))))))))
          refine oA_ 4 (some 103) (h:=fun K hK => ?_)
          refine goes_ Tryz.func9 (by kernel_rfl) rfl #[.slice A (m + 1) c, .bool false] (by rfl) rfl rfl (by (try simp only [List.map_toArray, List.map_cons, List.map_nil]); first | done | rfl | (simp only [List.length_drop, List.length_take]; rfl)) ?_
          with_reducible refine (HPT.out _ HB10.out).mono ?_
          rintro e w11 ⟨rfl, hb11⟩
          have HB11 := aS_ (bt_ HB10.out hb11)
          clear hb11
          refine ⟨_, rfl, ?_⟩
          refine hK.out _ _ trivial (fun hHeld => ?_)
          clear hK K
          refine nA_ (h:=?_)
          refine pA_ 6 (h:=pA_ 7 (h:=?_))
          refine oA_ 12 (some 111) (h:=fun K hK => ?_)
          refine goes_ Tryz.func9 (by kernel_rfl) rfl #[.slice (if c = m + 1 then A else A.map (·.add ((m + 1) * 5))) (l.length - (m + 1)) (c - (m + 1)), .bool false] (by rfl) rfl rfl (by (try simp only [List.map_toArray, List.map_cons, List.map_nil]); first | done | rfl | (simp only [List.length_drop, List.length_take]; rfl)) ?_
          with_reducible refine (HPD.out _ HB11.out).mono ?_
          rintro e w12 ⟨rfl, hb12⟩
          have HB12 := aS_ (bt_ HB11.out hb12)
          clear hb12
          refine ⟨_, rfl, ?_⟩
          refine hK.out _ _ trivial (fun hHeld => ?_)
          clear hK K
          refine nA_ (h:=?_)
          refine pA_ 13 (h:=pA_ 14 (h:=?_))
          refine done_ (done_of HT_.out (by kernel_rfl)) ?_
          go_wp2_with (first | (go_at_call 8; refine (pread.calls k4 _ bs _ _ E4.out).mono ?_; rintro e w18 ⟨v18, rfl, hs18, hb18⟩; have HB18 := aS_ (bt_ HB12.out hb18); clear hb18 hs18) | (go_at_call 10; refine (begins_B h18 m2 _).mono ?_; rintro e w10 ⟨rfl, rfl⟩) | (go_at_call 7; refine (awake_calls _).mono ?_; rintro e w7 ⟨rfl, hb7⟩))
          all_goals
           go_ret
           exact ⟨rfl, bt_ HB18.out hb7⟩
open Go.RowKit Go.Proofs.YtgogjghfehcpoaaGreatDoorW.PrintWords Go.Proofs.YtgogjghfehcpoaaGreatDoorW.PrintLast Go.Proofs.YtgogjghfehcpoaaGreatDoorW.PrintMore Go.ChangeShapes Go.WideShapes Go.Deep
section
variable {H : Type} {enc : TypeId × Value → H} {W : World} {fuel : Nat}
theorem open_kd {α : Type} (d : Kd α) {t e : TypeId} (ht : Tryz.prog.underlying t = some (.slice e)) (hC : Tryz.prog.cellsOf e = d.sz)
  (hel : ∀ (n : Nat) (cs : List Value) (x : DataW H × List MemPlace), cs.length = d.sz → DataW.trod enc Tryz.prog W 0 (fun _ => true) true n e cs = some x → ∃ y, d.K W y cs)
  {cs : List Value} {x : DataW H × List MemPlace} (h : DataW.trod enc Tryz.prog W 0 (fun _ => true) true fuel t cs = some x) : ∃ (A : Option Addr) (c : Nat) (l : List α), cs = [.slice A l.length c] ∧ l.length ≤ c ∧ Kd.C d W A l.length l := by
 rcases open_slice ht h with ⟨rfl, _⟩ | ⟨a, len, cap, m, n, D, Pl, rfl, hb, hl, hm, hmm, hx, hi⟩
 ·exact ⟨none, 0, [], rfl, Nat.le_refl _, rfl, Nat.zero_le _, fun h0 => absurd h0 (by simp)⟩
 ·have hm2 : m = cap := by simpa using hmm
  have key : ∀ i, ∃ y : Option α, i < len → ∃ z, y = some z ∧ ∃ cs', cs'.length = d.sz ∧ d.K W z cs' ∧ ∀ j, j < d.sz → W.cell? (a.add (i * d.sz + j)) = cs'[j]? := by
   intro i
   by_cases hil : i < len
   ·obtain ⟨cs', hc, ht'⟩ := hi i (by omega)
    rw [hC] at hc
    obtain ⟨_, hcl, hat⟩ := World.cells?_some hc
    obtain ⟨y, hy⟩ := hel _ _ _ hcl ht'
    refine ⟨some y, fun _ => ⟨y, rfl, cs', hcl, hy, fun j hj => ?_⟩⟩
    rw [← hat j hj, Go.Deep.add_add]
   ·exact ⟨none, fun h_ => absurd h_ hil⟩
  let f : Nat → Option α := fun i => Classical.choose (key i)
  have hf : ∀ i, i < len → ∃ z, f i = some z ∧ ∃ cs', cs'.length = d.sz ∧ d.K W z cs' ∧ ∀ j, j < d.sz → W.cell? (a.add (i * d.sz + j)) = cs'[j]? := fun i => Classical.choose_spec (key i)
  let l : List α := (List.range len).filterMap f
  have hl2 : ∀ n, n ≤ len → ((List.range n).filterMap f).length = n ∧ ∀ j, j < n → ((List.range n).filterMap f)[j]? = f j := by
   intro n
   induction n with
   | zero => intro _; exact ⟨rfl, fun j hj => by omega⟩
   | succ n ih =>
    intro hn
    obtain ⟨h1, h2⟩ := ih (by omega)
    obtain ⟨z, hz, _⟩ := hf n (by omega)
    have e1 : (List.range (n + 1)).filterMap f = (List.range n).filterMap f ++ [z] := by
     rw [List.range_succ, List.filterMap_append]
     simp [hz]
    rw [e1]
    refine ⟨by rw [List.length_append, h1]; rfl, fun j hj => ?_⟩
    by_cases hjn : j < n
    ·rw [List.getElem?_append_left (by omega)]
     exact h2 j hjn
    ·have : j = n := by omega
     subst this
     rw [List.getElem?_append_right (by omega), h1, Nat.sub_self, hz]
     rfl
  obtain ⟨hll, hlg⟩ := hl2 len (Nat.le_refl _)
  refine ⟨some a, cap, l, by rw [hll], by rw [hll]; exact hl, ?_⟩
  refine ⟨rfl, by rw [hll]; unfold maxLen at hm; omega, fun _ => ⟨a, rfl, fun j p hj => ?_⟩⟩
  have hjl : j < len := by
   have := (List.getElem?_eq_some_iff.1 hj).1
   rw [hll] at this
   exact this
  rw [hlg j hjl] at hj
  obtain ⟨z, hz, cs', c1, c2, c3⟩ := hf j hjl
  rw [hz] at hj
  have hzp := Option.some.inj hj
  subst hzp
  refine ⟨cs', c1, c2, fun i u hu => ?_⟩
  have hi' : i < d.sz := by
   have := (List.getElem?_eq_some_iff.1 hu).1
   omega
  rw [c3 i hi', hu]
theorem two_cells {cs : List Value} (h : cs.length = 2) : ∃ a b, cs = [a, b] := by
 match cs, h with
 | [a, b], _ => exact ⟨a, b, rfl⟩
theorem five_cells {cs : List Value} (h : cs.length = 5) : ∃ a b c d e, cs = [a, b, c, d, e] := by
 match cs, h with
 | [a, b, c, d, e], _ => exact ⟨a, b, c, d, e, rfl⟩
theorem cells2 : Tryz.prog.cellsOf 2 = 1 := by kernel_rfl
theorem cells9 : Tryz.prog.cellsOf 9 = 1 := by kernel_rfl
theorem cells31 : Tryz.prog.cellsOf 31 = 1 := by kernel_rfl
theorem cells70 : Tryz.prog.cellsOf 70 = 2 := by kernel_rfl
theorem cells33 : Tryz.prog.cellsOf 33 = 5 := by kernel_rfl
theorem open_D {n : Nat} {cs : List Value} {x : DataW H × List MemPlace} (hl : cs.length = 2) (h : DataW.trod enc Tryz.prog W 0 (fun _ => true) true n 70 cs = some x) : ∃ y, k70.K W y cs := by
 obtain ⟨ys, m, _, _, _, hyl, hf⟩ := DataW.trod_struct Tryz.underlying70 h
 obtain ⟨a, b, rfl⟩ := two_cells hl
 have h0 : DataW.trod enc Tryz.prog W 0 (fun _ => true) true m 2 (([a, b].drop 0).take (Tryz.prog.cellsOf 2)) = ys[0]? := hf 0 _ rfl
 have h1 : DataW.trod enc Tryz.prog W 0 (fun _ => true) true m 9 (([a, b].drop 1).take (Tryz.prog.cellsOf 9)) = ys[1]? := hf 1 _ rfl
 have hyl' : ys.length = 2 := hyl
 rw [List.getElem?_eq_getElem (by omega)] at h0 h1
 rw [cells2] at h0
 rw [cells9] at h1
 obtain ⟨k, e0, _⟩ := DataW.trod_int Tryz.underlying2 h0
 obtain ⟨s, e1, _⟩ := DataW.trod_string Tryz.underlying9 h1
 cases e0
 cases e1
 exact ⟨⟨k, s⟩, k70_mk W _⟩
theorem open_P {n : Nat} {cs : List Value} {x : DataW H × List MemPlace} (hl : cs.length = 5) (h : DataW.trod enc Tryz.prog W 0 (fun _ => true) true n 33 cs = some x) : ∃ y, k33.K W y cs := by
 obtain ⟨ys, m, _, _, _, hyl, hf⟩ := DataW.trod_struct Tryz.underlying33 h
 obtain ⟨a, b, c, d, e, rfl⟩ := five_cells hl
 have h0 : DataW.trod enc Tryz.prog W 0 (fun _ => true) true m 2 (([a, b, c, d, e].drop 0).take (Tryz.prog.cellsOf 2)) = ys[0]? := hf 0 _ rfl
 have h1 : DataW.trod enc Tryz.prog W 0 (fun _ => true) true m 2 (([a, b, c, d, e].drop 1).take (Tryz.prog.cellsOf 2)) = ys[1]? := hf 1 _ rfl
 have h2 : DataW.trod enc Tryz.prog W 0 (fun _ => true) true m 2 (([a, b, c, d, e].drop 2).take (Tryz.prog.cellsOf 2)) = ys[2]? := hf 2 _ rfl
 have h3 : DataW.trod enc Tryz.prog W 0 (fun _ => true) true m 2 (([a, b, c, d, e].drop 3).take (Tryz.prog.cellsOf 2)) = ys[3]? := hf 3 _ rfl
 have h4 : DataW.trod enc Tryz.prog W 0 (fun _ => true) true m 31 (([a, b, c, d, e].drop 4).take (Tryz.prog.cellsOf 31)) = ys[4]? := hf 4 _ rfl
 have hyl' : ys.length = 5 := hyl
 rw [List.getElem?_eq_getElem (by omega)] at h0 h1 h2 h3 h4
 rw [cells2] at h0
 rw [cells2] at h1
 rw [cells2] at h2
 rw [cells2] at h3
 rw [cells31] at h4
 obtain ⟨k0, e0, _⟩ := DataW.trod_int Tryz.underlying2 h0
 obtain ⟨k1, e1, _⟩ := DataW.trod_int Tryz.underlying2 h1
 obtain ⟨k2, e2, _⟩ := DataW.trod_int Tryz.underlying2 h2
 obtain ⟨k3, e3, _⟩ := DataW.trod_int Tryz.underlying2 h3
 obtain ⟨A4, c4, l4, e4, hc4, hr4⟩ := open_kd k70 Tryz.underlying31 cells70 (fun _ _ _ hl h => open_D hl h) h4
 cases e0
 cases e1
 cases e2
 cases e3
 cases e4
 exact ⟨⟨k0, k1, k2, k3, l4⟩, k33_mk W _ hc4 hr4⟩
theorem open_Ps {b0 : Nat} {v : Value} {dd : DataW H} {ps : List MemPlace} (hval : Value.okWide Tryz.prog W .any b0 22 v) (h : DataW.Trod enc Tryz.prog W 0 (fun _ => true) true 22 v dd ps) :
  ∃ (A : Option Addr) (c : Nat) (l : List S33), v = .slice A l.length c ∧ l.length ≤ c ∧ Kd.C k33 W A l.length l := by
 obtain ⟨a, len, cap, rfl⟩ := okWide_slice Tryz.underlying22 hval
 obtain ⟨fuel, hf⟩ := h
 obtain ⟨A, c, l, e, hc, hr⟩ := open_kd k33 Tryz.underlying22 cells33 (fun _ _ _ hl h => open_P hl h) hf
 refine ⟨A, c, l, ?_, hc, hr⟩
 simpa [Value.cells] using e
end
end Go.Proofs.YtgogjghfehcpoaaGreatDoor.QT
namespace Go.Proofs.YtgogjghfehcpoaaGreatDoor
open Go.ChangeShapes Go.WideShapes Go.ChangeAt Go.RowKit
open Go.ChangeMaps (open_string shut_string)
set_option linter.unusedVariables false
theorem own : ownKnob Tryz.prog.godebug = none := by kernel_rfl
theorem laidOut : laidOutB Tryz.prog = true := by kernel_rfl
theorem liftedE (os : Os) (started : os.Started) (H : Type) (enc : TypeId × Value → H) :
  ReturnsInHanded {} Tryz.checked os 3 .any (fun w args => (Rows.fnPatchErrorsSpec.pre enc Tryz.prog Tryz.f3 Rows.fnPatchErrorsRow.domain false w args ∧ laidMetH Tryz.prog Rows.fnPatchErrorsRow.laid w) ∧ sizedMet enc Tryz.prog Tryz.f3 (OpenSpec.ofChange Rows.fnPatchErrorsSpec) false w args)
   (Rows.fnPatchErrorsSpec.post enc Tryz.prog Tryz.f3 false true false false) := by
 refine returnsInHanded_of_change_and (C := Tryz.checked) (X := fun w _ => laidMetH Tryz.prog Rows.fnPatchErrorsRow.laid w) (fun _ _ _ hh h => h.of_heap hh) own started (by kernel_rfl) Tryz.func3
  (ChangeSpec.witness_shaped (enc := enc) (C := Tryz.checked) (os := os) (X := fun w _ => laidMetH Tryz.prog Rows.fnPatchErrorsRow.laid w) false (World.laidAll Tryz.prog os Rows.fnPatchErrorsRow.laid) #[.slice none 0 0, .string ByteArray.empty, .int .u8 0] 8 (World.laidAll_os _ _ _)
   (World.shaped_of_ZipB (by kernel_rfl) (by kernel_rfl)) (by kernel_rfl) (by kernel_rfl) (by kernel_rfl)
   (by rw [MakeChecks.laidMetH_plain _ _ _ (by kernel_rfl)]; exact laidMet_laidAll _ (by kernel_rfl) (by kernel_rfl))) ?_
 intro W base args ds gs before hval0 hW hc _ hL _
 have hval : ∀ (j : Nat) t v, Tryz.f3.params[j]? = some t → args[j]? = some v → Value.okWide Tryz.prog W .any base t v := hval0
 have hW' := hW
 obtain ⟨p, q, hA0, hV, rfl, _, _⟩ := hW
 have hA : DataW.TrodAll enc Tryz.prog W 0 (fun _ => true) true Tryz.f3.params.toList args.toList ds p := hA0
 rw [Tryz.params3] at hA hval
 obtain ⟨v0, vs0, d0, ds0, p0, q0, hargs, rfl, rfl, h0, r0⟩ := trodAll_cons hA
 obtain ⟨v1, vs1, d1, ds1, p1, q1, rfl, rfl, rfl, h1, r1⟩ := trodAll_cons r0
 obtain ⟨v2, vs2, d2, ds2, p2, q2, rfl, rfl, rfl, h2, r2⟩ := trodAll_cons r1
 obtain ⟨rfl, rfl, rfl⟩ := trodAll_nil r2
 obtain rfl : args = #[v0, v1, v2] := by cases args; simp_all
 obtain ⟨rfl, rfl⟩ := trodVars_none hV
 have k0 := h0
 have lt0 : ∀ x ∈ p0, x.block < W.heap.size := by obtain ⟨m, hm⟩ := k0; exact DataW.trod_lt m _ _ _ hm
 obtain ⟨A, c, l, rfl, hlc, hr⟩ := QT.open_Ps (hval 0 22 v0 rfl rfl) h0
 obtain ⟨s, rfl, rfl, rfl, y1⟩ := open_string Tryz.underlying9 (hval 1 9 v1 rfl rfl) h1
 obtain ⟨n, rfl, rfl, rfl, w2⟩ := open_int Tryz.underlying5 (hval 2 5 v2 rfl rfl) h2
 have hn : 0 ≤ n ∧ n < 256 := by
  have z := bounds_u8 w2
  omega
 clear hA0 hval0
 refine (QT.lawE A c l s n hn.1 hn.2 W hr hlc).mono fun e W' ⟨he, bel⟩ => ?_
 subst he
 exact ⟨_, rfl, _, _, _, [], _, [], hW', trodAll_mk1 (shut_bool Tryz.underlying4 _), (trodAll_cons_mk (Below.trod laidOut (by kernel_rfl) (of_decide_eq_true (by kernel_rfl)) k0 bel lt0) (trodAll_cons_mk (shut_string Tryz.underlying9 y1) (trodAll_cons_mk (shut_int Tryz.underlying5 w2) trodAll_mk0))), rfl, bel.frame _, fun h => by cases h⟩
theorem saidE : Rows.FnPatchErrorsSaid :=
 OpenClaim.holds_of_wide 3 Tryz.f3 rfl rfl rfl rfl rfl rfl rfl ⟨rfl, rfl, rfl, rfl, rfl⟩ rfl rfl rfl rfl rfl (by kernel_rfl) Tryz.func3 (by kernel_rfl)
  (of_decide_eq_true (by kernel_rfl)) (by unfold Func.isWrapper; first | (rw [if_pos (by decide +kernel)]; kernel_rfl) | (rw [if_neg (by decide +kernel)]; exact ⟨rfl, rfl⟩))
  (fun os started H enc _ => liftedE os started H enc)
theorem fnPatchErrors_holds : Rows.FnPatchErrorsCardSaid :=
 Claim7.holds_tied_plain_at .later [] [.data, .data, .data, .data, .sentinel, .sentinel, .sentinel, .pinned] true (true, "ee1e998b0cfbdc22c1cbf08ec3d789573cda507e05ba253133c191073302050a") true
  saidE (fun _ h => by cases h) (by kernel_rfl) (fun _ h => by cases h) fnPatchErrors_row_tie rfl ⟨rfl, rfl⟩ (by kernel_rfl) rfl
  (fun f fn hf hfn => by
   obtain rfl : f = 3 := Option.some.inj ((show Tryz.prog.funcNamed "pub-emendator/laws.FnPatchErrors" = some 3 by kernel_rfl).symm.trans hf) |>.symm
   obtain rfl : fn = Tryz.f3 := (Option.some.inj (Tryz.func3.symm.trans hfn)).symm
   exact ⟨by kernel_rfl, fun j t ht => by
    rw [Tryz.params3] at ht
    have h3 : t = 22 ∨ t = 9 ∨ t = 5 := by
     rcases j with _ | _ | _ | j
     ·exact .inl (by simpa using ht.symm)
     ·exact .inr (.inl (by simpa using ht.symm))
     ·exact .inr (.inr (by simpa using ht.symm))
     ·simp at ht
    rcases h3 with rfl | rfl | rfl
    ·exact (show Tryz.prog.wantsStandIn 22 = false by kernel_rfl)
    ·exact (show Tryz.prog.wantsStandIn 9 = false by kernel_rfl)
    ·exact (show Tryz.prog.wantsStandIn 5 = false by kernel_rfl)⟩)
  (by kernel_rfl)
end Go.Proofs.YtgogjghfehcpoaaGreatDoor
