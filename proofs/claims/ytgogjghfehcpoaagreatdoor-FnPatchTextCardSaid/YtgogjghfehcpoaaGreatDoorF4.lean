/- Part 4 of the proof of: FnPatchText: the statement, at every input; its condition: the listed variables read as the row lists them. -/
import Derived.Test.YtgogjghfehcpoaaGreatDoorF3
import Derived.Test.YtgogjghfehcpoaaGreatDoorProg
import Derived.Handy
import Derived.Lib.AppendIntMem
import Derived.Lib.BufferOld
import Derived.Lib.BufferKept
import Derived.Lib.BufferWrite
import Derived.Shelf.Bytes.WriteStringKept
set_option maxHeartbeats 8000000
set_option maxRecDepth 100000
namespace Go.Proofs.YtgogjghfehcpoaaGreatDoor.QT
set_option linter.unusedVariables false
set_option linter.unusedSimpArgs false
open Go.RowKit Go.Proofs.YtgogjghfehcpoaaGreatDoorW.PrintWords Go.Proofs.YtgogjghfehcpoaaGreatDoorW.PrintLast Go.Proofs.YtgogjghfehcpoaaGreatDoorW.PrintMore
theorem new_calls (w : World) : Calls Tryz.prog 36 #[] w fun e w' => e = .returned (.pointer (some ⟨w.heap.size, 0, none⟩)) ∧ w' = w.alloc (.cells #[.int .i64 1000000000, .int .i64 4, .int .i64 1000, .float .f64 4602678819172646912, .int .i64 4, .int .i64 32, .float .f64 4602678819172646912] 81) := by
 have hu81 := Tryz.underlying81
 go_enter Tryz.func36, Tryz.ntmps36
 go_wp2
 go_ret
 exact ⟨rfl, rfl⟩
theorem plain_calls (w : World) : Calls Tryz.prog 21 #[] w fun e w' => ∃ g, e = .returned (.pointer (some ⟨g, 0, none⟩)) ∧ DmpAt w' g ∧ w.heap.size ≤ g ∧ Below w.heap.size w w' := by
 have hu81 := Tryz.underlying81
 go_enter Tryz.func21, Tryz.ntmps21
 go_wp2_with ((go_at_call 36; refine (new_calls _).mono ?_; rintro e w' ⟨rfl, rfl⟩))
 go_ret
 exact ⟨_, rfl, heap_alloc_new w _, Nat.le_refl _, Below.alloc (Below.refl _ _) (Nat.le_refl _) _⟩
def setv : Value := .agg #[.int .i64 4, .int .i64 1000, .int .i64 4, .int .i64 32, .float .f64 4602678819172646912, .float .f64 4602678819172646912]
def newCells : Array Value := #[.int .i64 1000000000, .int .i64 4, .int .i64 1000, .float .f64 4602678819172646912, .int .i64 4, .int .i64 32, .float .f64 4602678819172646912]
theorem run_store_flt (P : Program) (w : World) (a : Addr) (m : Mode) (x : Nat) : (store a (.float .f64 x) m).run P w = stored P w a (.float .f64 x) m := run_store P w a _ m rfl
attribute [local go_sem] run_store_flt
def dfl.T2 : Bool × List (List Nat × List Nat) := (true, [([], []), ([0], [0]), ([1], [1]), ([2], [2]), ([], []), ([4], [4]), ([5], [5]), ([6], [6]), ([], []), ([8], [8]), ([9], [9]), ([10], [10]), ([], []), ([12], [12]), ([13], [13]), ([14], [14]), ([], []), ([16], [16]), ([17], [17]), ([18], [18]), ([], []), ([20], [20]), ([21], [21]), ([22], [22]), ([3, 7, 11, 15, 19, 23], [3, 7, 11, 15, 19, 23]), ([24, 0, 1, 2, 3, 4, 5, 6, 7, 8, 9, 10, 11, 12, 13, 14, 15, 16, 17, 18, 19, 20, 21, 22, 23, 24], [24])])
def dfl.B2 : List Nat := [0, 1, 3, 7, 0, 16, 48, 112, 0, 256, 768, 1792, 0, 4096, 12288, 28672, 0, 65536, 196608, 458752, 0, 1048576, 3145728, 7340032, 16777215, 33554431]
theorem dfl.tab2 : rtab .any (opsOf Tryz.f20 2) = dfl.T2 := by kernel_rfl
theorem dfl.bits2 : waitsOk dfl.T2.2 dfl.B2 = true := by kernel_rfl
def stt.T2 : Bool × List (List Nat × List Nat) := (true, [([], []), ([], []), ([], []), ([], []), ([], []), ([4], [4]), ([], []), ([6], [6]), ([], []), ([8], [8]), ([], []), ([10], [10]), ([0, 0, 4, 5], [0]), ([12, 0, 4, 5], [12]), ([13, 5, 0, 4, 5], [5, 13]), ([1, 0, 1, 4, 5, 6, 7, 12, 13, 14], [1]), ([15, 0, 1, 4, 5, 6, 7, 12, 13, 14], [15]), ([16, 7, 14, 0, 1, 4, 5, 6, 7, 12, 13, 14], [7, 16]), ([2, 0, 1, 2, 4, 5, 6, 7, 8, 9, 12, 13, 14, 15, 16, 17], [2]), ([18, 0, 1, 2, 4, 5, 6, 7, 8, 9, 12, 13, 14, 15, 16, 17], [18]), ([19, 9, 17, 0, 1, 2, 4, 5, 6, 7, 8, 9, 12, 13, 14, 15, 16, 17], [9, 19]), ([3, 0, 1, 2, 3, 4, 5, 6, 7, 8, 9, 10, 11, 12, 13, 14, 15, 16, 17, 18, 19, 20], [3]), ([21, 0, 1, 2, 3, 4, 5, 6, 7, 8, 9, 10, 11, 12, 13, 14, 15, 16, 17, 18, 19, 20], [21]), ([22, 11, 20, 0, 1, 2, 3, 4, 5, 6, 7, 8, 9, 10, 11, 12, 13, 14, 15, 16, 17, 18, 19, 20], [11, 22])])
def stt.B2 : List Nat := [0, 0, 0, 0, 0, 16, 0, 64, 0, 256, 0, 1024, 49, 4145, 12337, 28915, 61683, 127219, 259063, 521207, 1045495, 2097151, 4194303, 8388607]
theorem stt.tab2 : rtab .any (opsOf Tryz.f33 2) = stt.T2 := by kernel_rfl
theorem stt.bits2 : waitsOk stt.T2.2 stt.B2 = true := by kernel_rfl
def stt.T3 : Bool × List (List Nat × List Nat) := (true, [([], []), ([], []), ([], []), ([2], [2]), ([], []), ([4], [4]), ([0, 0, 2, 3], [0]), ([6, 0, 2, 3], [6]), ([7, 3, 0, 2, 3], [3, 7]), ([1, 0, 1, 2, 3, 4, 5, 6, 7, 8], [1]), ([9, 0, 1, 2, 3, 4, 5, 6, 7, 8], [9]), ([10, 5, 8, 0, 1, 2, 3, 4, 5, 6, 7, 8], [5, 10])])
def stt.B3 : List Nat := [0, 0, 0, 4, 0, 16, 13, 77, 205, 511, 1023, 2047]
theorem stt.tab3 : rtab .any (opsOf Tryz.f33 3) = stt.T3 := by kernel_rfl
theorem stt.bits3 : waitsOk stt.T3.2 stt.B3 = true := by kernel_rfl
theorem defaults_calls (w : World) : Calls Tryz.prog 20 #[] w fun e w' => e = .returned setv ∧ Below w.heap.size w w' := by
 have hu81 := Tryz.underlying81
 have hu50 := Tryz.underlying50
 go_enter Tryz.func20, Tryz.ntmps20
 go_wp2_with ((go_at_call 36; refine (new_calls _).mono ?_; rintro e w' ⟨rfl, rfl⟩))
 refine wp_at (fun W => W.heap[w.heap.size]? = some (.cells #[.int .i64 0, .int .i64 0, .int .i64 0, .int .i64 0, .float .f64 0, .float .f64 0] 50 (0, 0)) ∧ W.heap[w.heap.size + 1]? = some (.cells newCells 81 (0, 0)) ∧ Below w.heap.size w W) ⟨kA_ (heap_alloc_new w _) _, by (have h_ := heap_alloc_new (w.alloc (.cells #[.int .i64 0, .int .i64 0, .int .i64 0, .int .i64 0, .float .f64 0, .float .f64 0] 50)) (.cells newCells 81); rw [World.size_alloc] at h_; exact h_), Below.alloc (Below.alloc (Below.refl _ _) (Nat.le_refl _) _) (by simp) _⟩ ?_
 intro W0
 rintro ⟨T1, T2, T3⟩
 have T1 := kD_ T1
 have T2 := kD_ T2
 have T3 := below_drew T3
 have hd0 := cell_of T2 (i := 0) rfl
 have hd1 := cell_of T2 (i := 1) rfl
 have hd2 := cell_of T2 (i := 2) rfl
 have hd3 := cell_of T2 (i := 3) rfl
 have hd4 := cell_of T2 (i := 4) rfl
 have hd5 := cell_of T2 (i := 5) rfl
 have hd6 := cell_of T2 (i := 6) rfl
 have hc0 := cell_of T1 (i := 0) rfl
 have hf0 := bf_ T1 0
 have hc1 := cell_of T1 (i := 1) rfl
 have hf1 := bf_ T1 1
 have hc2 := cell_of T1 (i := 2) rfl
 have hf2 := bf_ T1 2
 have hc3 := cell_of T1 (i := 3) rfl
 have hf3 := bf_ T1 3
 have hc4 := cell_of T1 (i := 4) rfl
 have hf4 := bf_ T1 4
 have hc5 := cell_of T1 (i := 5) rfl
 have hf5 := bf_ T1 5
 have T1' := Aside0.mk T1
 have T3' := Aside0.mk T3
 clear T1 T2 T3
 refine sA_ (fun w' => w'.cell? ⟨w.heap.size + 1, 1, none⟩ = some (.int .i64 4) ∧ w'.cell? ⟨w.heap.size + 1, 2, none⟩ = some (.int .i64 1000) ∧ w'.cell? ⟨w.heap.size + 1, 4, none⟩ = some (.int .i64 4) ∧ w'.cell? ⟨w.heap.size + 1, 5, none⟩ = some (.int .i64 32) ∧ w'.cell? ⟨w.heap.size + 1, 3, none⟩ = some (.float .f64 4602678819172646912) ∧ w'.cell? ⟨w.heap.size + 1, 6, none⟩ = some (.float .f64 4602678819172646912)) [25] dfl.tab2 dfl.bits2 ⟨hd1, hd2, hd4, hd5, hd3, hd6⟩ (fun hHeld HT_ HW_ => ?_)
 generalize W0.drew = W at hc0 hf0 hc1 hf1 hc2 hf2 hc3 hf3 hc4 hf4 hc5 hf5 hd0 hd1 hd2 hd3 hd4 hd5 hd6 T1' T3' hHeld ⊢
 refine pA_ 0 (h:=pA_ 1 (h:=pA_ 2 (h:=pA_ 4 (h:=pA_ 5 (h:=pA_ 6 (h:=pA_ 8 (h:=pA_ 9 (h:=pA_ 10 (h:=pA_ 12 (h:=pA_ 13 (h:=pA_ 14 (h:=pA_ 16 (h:=pA_ 17 (h:=pA_ 18 (h:=pA_ 20 (h:=pA_ 21 (h:=pA_ 22 (h:=tA_ 3 (h:=tA_ 7 (h:=tA_ 11 (h:=tA_ 15 (h:=tA_ 19 (h:=tA_ 23 (h:=pA_ 24 (h:=?_)))))))))))))))))))))))))
 refine lA_ 25 none (h:=fun K hK => ?_)
 refine skip_ (w1 := ?_) (by rfl) rfl ?_ ?_
 rotate_left
 ·go_simp
  rfl
 refine hK.out _ _ ?_
 clear hK K
 refine done_ (done_of HT_.out (by kernel_rfl)) ?_
 go_wp2
 refine bodyPost_ret (results_cell_row rfl _ _ w.heap.size 50 #[.int .i64 4, .int .i64 1000, .int .i64 4, .int .i64 32, .float .f64 4602678819172646912, .float .f64 4602678819172646912] (0, 0) _ rfl (blk_set (blk_set (blk_set (blk_set (blk_set (blk_set T1'.out 0 _) 1 _) 2 _) 3 _) 4 _) 5 _) hu50 rfl (by kernel_rfl)) rfl ?_
 exact ⟨rfl, Below.setCell (Below.setCell (Below.setCell (Below.setCell (Below.setCell (Below.setCell T3'.out (Nat.le_refl _) _) (Nat.le_refl _) _) (Nat.le_refl _) _) (Nat.le_refl _) _) (Nat.le_refl _) _) (Nat.le_refl _) _⟩
theorem set_calls (w : World) : Calls Tryz.prog 33 #[setv] w fun e w' => ∃ g, e = .returned (.pointer (some ⟨g, 0, none⟩)) ∧ DmpAt w' g ∧ w.heap.size ≤ g ∧ Below w.heap.size w w' := by
 have hu81 := Tryz.underlying81
 have hu50 := Tryz.underlying50
 unfold setv
 go_enter Tryz.func33, Tryz.ntmps33
 go_wp2_with ((go_at_call 21; refine (plain_calls _).mono ?_; rintro e w' ⟨g, rfl, hd, hg, hb⟩))
 refine wp_at (fun W => W.heap[w.heap.size]? = some (.cells #[.int .i64 4, .int .i64 1000, .int .i64 4, .int .i64 32, .float .f64 4602678819172646912, .float .f64 4602678819172646912] 50 (0, 0)) ∧ W.heap[g]? = some (.cells dmpCells 81 (0, 0)) ∧ Below w.heap.size w W) ⟨blk_below (heap_alloc_new w _) hb, hd, bh_ (Below.alloc (Below.refl _ _) (Nat.le_refl _) _) (by simp) hb⟩ ?_
 have hg : w.heap.size < g := by (have h_ := hg; rw [World.size_alloc] at h_; omega)
 have hg' : w.heap.size ≤ g := Nat.le_of_lt hg
 have hne : g ≠ w.heap.size := Nat.ne_of_gt hg
 have hne' : w.heap.size ≠ g := Nat.ne_of_lt hg
 clear hb hd
 intro W0
 rintro ⟨T1, T2, T3⟩
 have T1 := kD_ T1
 have T2 := kD_ T2
 have T3 := below_drew T3
 have hd0 := cell_of T2 (i := 0) rfl
 have hg0 := bf_ T2 0
 have hd1 := cell_of T2 (i := 1) rfl
 have hg1 := bf_ T2 1
 have hd2 := cell_of T2 (i := 2) rfl
 have hg2 := bf_ T2 2
 have hd3 := cell_of T2 (i := 3) rfl
 have hg3 := bf_ T2 3
 have hd4 := cell_of T2 (i := 4) rfl
 have hg4 := bf_ T2 4
 have hd5 := cell_of T2 (i := 5) rfl
 have hg5 := bf_ T2 5
 have hd6 := cell_of T2 (i := 6) rfl
 have hg6 := bf_ T2 6
 have hc0 := cell_of T1 (i := 0) rfl
 have hc1 := cell_of T1 (i := 1) rfl
 have hc2 := cell_of T1 (i := 2) rfl
 have hc3 := cell_of T1 (i := 3) rfl
 have hc4 := cell_of T1 (i := 4) rfl
 have hc5 := cell_of T1 (i := 5) rfl
 have T1' := Aside0.mk T1
 have T2' := Aside0.mk T2
 have T3' := Aside0.mk T3
 clear T1 T2 T3
 refine sA_ (fun w' => w'.cell? ⟨w.heap.size, 0, none⟩ = some (.int .i64 4) ∧ w'.cell? ⟨w.heap.size, 1, none⟩ = some (.int .i64 1000) ∧ w'.cell? ⟨w.heap.size, 2, none⟩ = some (.int .i64 4) ∧ w'.cell? ⟨w.heap.size, 3, none⟩ = some (.int .i64 32)) [] stt.tab2 stt.bits2 ⟨hc0, hc1, hc2, hc3⟩ (fun hHeld HT_ HW_ => ?_)
 generalize W0.drew = W at hc0 hc1 hc2 hc3 hc4 hc5 hd0 hg0 hd1 hg1 hd2 hg2 hd3 hg3 hd4 hg4 hd5 hg5 hd6 hg6 T1' T2' T3' hHeld ⊢
 refine pA_ 0 (h:=pA_ 1 (h:=pA_ 2 (h:=pA_ 3 (h:=pA_ 4 (h:=pA_ 6 (h:=pA_ 8 (h:=pA_ 10 (h:=tA_ 5 (h:=pA_ 12 (h:=pA_ 13 (h:=tA_ 7 (h:=tA_ 9 (h:=tA_ 11 (h:=?_))))))))))))))
 refine oA_ 14 none (h:=fun K hK => ?_)
 refine skip_ (w1 := ?_) (by rfl) rfl ?_ ?_
 rotate_left
 ·go_simp
  rfl
 refine hK.out _ _ ⟨(by go_cell), (by go_cell), (by go_cell), (by go_cell)⟩ (fun hHeld => ?_)
 clear hK K
 refine pA_ 15 (h:=pA_ 16 (h:=?_))
 refine oA_ 17 none (h:=fun K hK => ?_)
 refine skip_ (w1 := ?_) (by rfl) rfl ?_ ?_
 rotate_left
 ·go_simp
  rfl
 refine hK.out _ _ ⟨(by go_cell), (by go_cell), (by go_cell), (by go_cell)⟩ (fun hHeld => ?_)
 clear hK K
 refine pA_ 18 (h:=pA_ 19 (h:=?_))
 refine oA_ 20 none (h:=fun K hK => ?_)
 refine skip_ (w1 := ?_) (by rfl) rfl ?_ ?_
 rotate_left
 ·go_simp
  rfl
 refine hK.out _ _ ⟨(by go_cell), (by go_cell), (by go_cell), (by go_cell)⟩ (fun hHeld => ?_)
 clear hK K
 refine pA_ 21 (h:=pA_ 22 (h:=?_))
 refine oA_ 23 none (h:=fun K hK => ?_)
 refine skip_ (w1 := ?_) (by rfl) rfl ?_ ?_
 rotate_left
 ·go_simp
  rfl
 refine hK.out _ _ ⟨(by go_cell), (by go_cell), (by go_cell), (by go_cell)⟩ (fun hHeld => ?_)
 clear hK K
 refine done_ (done_of HT_.out (by kernel_rfl)) ?_
 go_wp2
 refine wp_at (fun W => W.heap[w.heap.size]? = some (.cells #[.int .i64 4, .int .i64 1000, .int .i64 4, .int .i64 32, .float .f64 4602678819172646912, .float .f64 4602678819172646912] 50 (0, 0)) ∧ W.heap[g]? = some (.cells dmpCells 81 (0, 0)) ∧ Below w.heap.size w W) ⟨blk_far (blk_far (blk_far (blk_far T1'.out hne' _) hne' _) hne' _) hne' _, blk_set (blk_set (blk_set (blk_set T2'.out 1 _) 2 _) 4 _) 5 _, Below.setCell (Below.setCell (Below.setCell (Below.setCell T3'.out hg' _) hg' _) hg' _) hg' _⟩ ?_
 clear hc0 hc1 hc2 hc3 hc4 hc5 hd0 hg0 hd1 hg1 hd2 hg2 hd3 hg3 hd4 hg4 hd5 hg5 hd6 hg6 T1' T2' T3'
 intro W0
 rintro ⟨T1, T2, T3⟩
 have T1 := kD_ T1
 have T2 := kD_ T2
 have T3 := below_drew T3
 have hd0 := cell_of T2 (i := 0) rfl
 have hg0 := bf_ T2 0
 have hd1 := cell_of T2 (i := 1) rfl
 have hg1 := bf_ T2 1
 have hd2 := cell_of T2 (i := 2) rfl
 have hg2 := bf_ T2 2
 have hd3 := cell_of T2 (i := 3) rfl
 have hg3 := bf_ T2 3
 have hd4 := cell_of T2 (i := 4) rfl
 have hg4 := bf_ T2 4
 have hd5 := cell_of T2 (i := 5) rfl
 have hg5 := bf_ T2 5
 have hd6 := cell_of T2 (i := 6) rfl
 have hg6 := bf_ T2 6
 have hc0 := cell_of T1 (i := 0) rfl
 have hc1 := cell_of T1 (i := 1) rfl
 have hc2 := cell_of T1 (i := 2) rfl
 have hc3 := cell_of T1 (i := 3) rfl
 have hc4 := cell_of T1 (i := 4) rfl
 have hc5 := cell_of T1 (i := 5) rfl
 have T1' := Aside0.mk T1
 have T2' := Aside0.mk T2
 have T3' := Aside0.mk T3
 clear T1 T2 T3
 refine sA_ (fun w' => w'.cell? ⟨w.heap.size, 4, none⟩ = some (.float .f64 4602678819172646912) ∧ w'.cell? ⟨w.heap.size, 5, none⟩ = some (.float .f64 4602678819172646912)) [] stt.tab3 stt.bits3 ⟨hc4, hc5⟩ (fun hHeld HT_ HW_ => ?_)
 generalize W0.drew = W at hc0 hc1 hc2 hc3 hc4 hc5 hd0 hg0 hd1 hg1 hd2 hg2 hd3 hg3 hd4 hg4 hd5 hg5 hd6 hg6 T1' T2' T3' hHeld ⊢
 refine pA_ 0 (h:=pA_ 1 (h:=pA_ 2 (h:=pA_ 4 (h:=tA_ 3 (h:=pA_ 6 (h:=pA_ 7 (h:=tA_ 5 (h:=?_))))))))
 refine oA_ 8 none (h:=fun K hK => ?_)
 refine skip_ (w1 := ?_) (by rfl) rfl ?_ ?_
 rotate_left
 ·go_simp
  rfl
 refine hK.out _ _ ⟨(by go_cell), (by go_cell)⟩ (fun hHeld => ?_)
 clear hK K
 refine pA_ 9 (h:=pA_ 10 (h:=?_))
 refine oA_ 11 none (h:=fun K hK => ?_)
 refine skip_ (w1 := ?_) (by rfl) rfl ?_ ?_
 rotate_left
 ·go_simp
  rfl
 refine hK.out _ _ ⟨(by go_cell), (by go_cell)⟩ (fun hHeld => ?_)
 clear hK K
 refine done_ (done_of HT_.out (by kernel_rfl)) ?_
 go_wp2
 go_ret
 exact ⟨g, rfl, blk_set (blk_set T2'.out 3 _) 6 _, hg', Below.setCell (Below.setCell T3'.out hg' _) hg' _⟩
def pread.f (k : Nat) (a : ByteArray) : Option (List S33 × ByteArray) := (p_PatchFromText.f k 0 a).bind fun x => (bps.f k x.1).bind fun b => some (b, x.2.getD ⟨#[]⟩)
theorem pread.calls (k : Nat) (a : ByteArray) (r1 : List S33) (r2 : ByteArray) (w : World) (h : pread.f k a = some (r1, r2)) :
  Calls Tryz.prog 8 #[.string a] w fun e w' => ∃ v0_ : Value, e = .returned (.tuple #[v0_, .string r2]) ∧ Kd.S k33 33 w' w.heap.size (fun _ => True) v0_ r1 ∧ Below w.heap.size w w' := by
 obtain ⟨⟨ps, er⟩, h1, h⟩ := Option.bind_eq_some_iff.mp h
 obtain ⟨bs, h2, h⟩ := Option.bind_eq_some_iff.mp h
 simp only [Option.some.injEq, Prod.mk.injEq] at h
 obtain ⟨rfl, rfl⟩ := h
 replace h2 : bps.f k ps = some bs := h2
 cases er with
 | none =>
  go_enter Tryz.func8, Tryz.ntmps8
  go_wp2_with (first
   | (go_at_call 21; refine (plain_calls _).mono ?_; rintro e w1 ⟨g, rfl, hd1, hg1, hb1⟩)
   | (go_at_call 22; refine (p_PatchFromText.calls k g a ps none w1 hd1 h1).mono ?_; rintro e w2 ⟨v2, ev2, rfl, hs2, he2, hb2⟩; obtain ⟨A2, c2, e2⟩ := Kd.S_slice hs2; subst e2; obtain rfl := he2)
   | (go_at_call 23; refine (bps.calls k A2 c2 ps bs _ (Kd.S_reads' hs2).2.2 (Kd.S_reads' hs2).2.1 h2).mono ?_; rintro e w3 ⟨v3, rfl, hs3, hb3⟩))
  go_ret2
  exact ⟨v3, rfl, Kd.S_lower hs3 (bh_ hb1 hb1.size hb2).size, bh_ (bh_ hb1 hb1.size hb2) (bh_ hb1 hb1.size hb2).size hb3⟩
 | some m =>
  go_enter Tryz.func8, Tryz.ntmps8
  go_wp2_with (first
   | (go_at_call 21; refine (plain_calls _).mono ?_; rintro e w1 ⟨g, rfl, hd1, hg1, hb1⟩)
   | (go_at_call 22; refine (p_PatchFromText.calls k g a ps (some m) w1 hd1 h1).mono ?_; rintro e w2 ⟨v2, ev2, rfl, hs2, he2, hb2⟩; obtain ⟨A2, c2, e2⟩ := Kd.S_slice hs2; subst e2; obtain ⟨ge, rfl, hge⟩ := he2)
   | (go_at_call 23; refine (bps.calls k A2 c2 ps bs _ (Kd.S_reads' hs2).2.2 (Kd.S_reads' hs2).2.1 h2).mono ?_; rintro e w3 ⟨v3, rfl, hs3, hb3⟩)
   | (go_at_call 188; refine (error_text ge m _ (blk_below hge hb3)).mono ?_; rintro e w4 ⟨rfl, rfl⟩))
  go_ret2
  exact ⟨v3, rfl, Kd.S_lower hs3 (bh_ hb1 hb1.size hb2).size, bh_ (bh_ hb1 hb1.size hb2) (bh_ hb1 hb1.size hb2).size hb3⟩
theorem cut_yes (p t : Bs) : q_zzCut.f (B (p ++ t)) (B p) = some (B t, true) := by
 unfold q_zzCut.f
 simp only [B_size]
 have hl : (p ++ t).length = p.length + t.length := List.length_append
 have e : ((B (p ++ t)).extract 0 p.length).toList = (B p).toList := by rw [B_extract]; simp
 have e2 : (B (p ++ t)).extract p.length (p ++ t).length = B t := by rw [B_extract]; simp
 rw [if_neg (by omega), if_pos (by omega), if_pos (by omega), if_pos e, e2]
theorem cut_no (l p : Bs) (h : l.take p.length ≠ p) : q_zzCut.f (B l) (B p) = some (B l, false) := by
 unfold q_zzCut.f
 simp only [B_size]
 by_cases hl : (l.length : Int) < (p.length : Int)
 ·rw [if_pos hl]
 ·have e : ¬ ((B l).extract 0 p.length).toList = (B p).toList := by
   rw [B_extract, B_toList, B_toList]
   simpa using h
  rw [if_neg hl, if_pos (by omega), if_pos (by omega), if_neg e]
def isDig (c : UInt8) : Prop := 48 ≤ c.toNat ∧ c.toNat ≤ 57
theorem ev_digits (ds t : Bs) (hd : ∀ c ∈ ds, isDig c) (ht : ∀ c t', t = c :: t' → ¬ isDig c) (hl : (ds ++ t).length ≤ 1000) : Ev (fun k => q_zzDigits.f k (B (ds ++ t))) (ds.length : Int) := by
 have hla : (ds ++ t).length = ds.length + t.length := List.length_append
 simp only [q_zzDigits.f]
 have key := go_loop (fun k (_ : Unit) i => q_zzDigits.l0 k (B (ds ++ t)) i) ds (fun _ _ => ()) (fun _ _ => True) (ds.length : Int) (fun _ _ _ _ => trivial) ?_ ds.length 0 () (by omega) trivial ?_
 ·exact key
 ·intro i hi _ _ hr
  refine Ev.succ ?_
  simp only [q_zzDigits.l0, B_size]
  have hb : bt (B (ds ++ t)) (i : Int) = (ds[i].toNat : Int) := by
   rw [B_bt _ i (by omega), List.getElem_append_left hi]
  obtain ⟨h1, h2⟩ := hd _ (List.getElem_mem hi)
  rw [hb, w64s i (by omega)]
  exact Ev.if_pos (by omega) (Ev.if_pos (by omega) (Ev.if_pos (by omega) (Ev.if_pos (by omega) hr)))
 ·intro _ _ _
  refine Ev.succ ?_
  simp only [q_zzDigits.l0, B_size]
  cases t with
  | nil => exact Ev.if_neg (by simp) (Ev.const _)
  | cons c t' =>
   have hb : bt (B (ds ++ c :: t')) (ds.length : Int) = (c.toNat : Int) := by
    rw [B_bt _ ds.length (by simp)]
    simp
   have hn := ht c t' rfl
   unfold isDig at hn
   rw [hb]
   refine Ev.if_pos (by simp only [List.length_append, List.length_cons]; omega) (Ev.if_pos (by omega) ?_)
   by_cases h1 : 48 ≤ (c.toNat : Int)
   ·exact Ev.if_pos h1 (Ev.if_neg (by omega) (Ev.const _))
   ·exact Ev.if_neg h1 (Ev.const _)
theorem dec_digs (n : Nat) : ∀ c ∈ dec n, isDig c := by
 induction n using Nat.strongRecOn with
 | _ n ih =>
  have small : ∀ m, m < 10 → isDig (UInt8.ofNat (48 + m)) := by
   intro m hm
   unfold isDig
   rw [UInt8.toNat_ofNat']
   omega
  intro c hc
  by_cases hn : n < 10
  ·rw [dec_small n hn] at hc
   rw [List.mem_singleton.1 hc]
   exact small n hn
  ·rw [dec_big n hn] at hc
   rcases List.mem_append.1 hc with hc | hc
   ·exact ih (n / 10) (by omega) c hc
   ·rw [List.mem_singleton.1 hc]
    exact small _ (by omega)
theorem decFrom_append : ∀ (l m : Bs) (a : Nat), Lib.decFrom a (l ++ m) = (Lib.decFrom a l).bind fun x => Lib.decFrom x m
 | [], m, a => rfl
 | c :: l, m, a => by
  simp only [List.cons_append, Lib.decFrom]
  cases Lib.digitVal c with
  | none => rfl
  | some d => exact decFrom_append l m _
theorem digitVal_of (m : Nat) (h : m < 10) : Lib.digitVal (UInt8.ofNat (48 + m)) = some m := by
 unfold Lib.digitVal
 rw [UInt8.toNat_ofNat']
 rw [if_pos (by omega)]
 congr 1
 omega
theorem decFrom_dec (n : Nat) : Lib.decFrom 0 (dec n) = some n := by
 induction n using Nat.strongRecOn with
 | _ n ih =>
  by_cases hn : n < 10
  ·rw [dec_small n hn]
   simp only [Lib.decFrom, digitVal_of n hn]
   congr 1
   omega
  ·rw [dec_big n hn, decFrom_append, ih (n / 10) (by omega)]
   simp only [Option.bind_some, Lib.decFrom, digitVal_of (n % 10) (by omega)]
   congr 1
   omega
theorem atoi_dec (n : Nat) (h : n ≤ 1000001) : strconv_Atoi.f (B (dec n)) = some ((n : Int), none) := by
 unfold strconv_Atoi.f
 have hl := dec_len 6 n (by omega)
 rw [if_pos (by rw [B_size]; omega), B_data]
 have hd := dec_digs n
 have hF := decFrom_dec n
 have hp := dec_pos n
 have e : Lib.atoi (dec n) = some (n : Int) := by
  generalize dec n = l at hd hF hp ⊢
  cases l with
  | nil => cases hp
  | cons c l =>
   obtain ⟨h1, h2⟩ := hd c List.mem_cons_self
   have n1 : (c == 45) = false := beq_eq_false_iff_ne.2 fun e => by subst e; exact absurd h1 (by decide)
   have n2 : (c == 43) = false := beq_eq_false_iff_ne.2 fun e => by subst e; exact absurd h1 (by decide)
   simp only [Lib.atoi, n1, n2, Bool.false_eq_true, if_false, Lib.decNat, List.isEmpty_cons]
   rw [hF]
   rfl
 rw [e]
 rfl
def st (s l : Nat) : Nat := if l = 0 then s else s + 1
def fld (l : Nat) : Bs := if l = 1 then [] else dec l
def ft (l : Nat) : Bs := if l = 1 then [] else 44 :: dec l
theorem span_eq (s l : Nat) : span s l = dec (st s l) ++ ft l := by
 unfold span st ft
 by_cases h0 : l = 0
 ·subst h0
  rw [if_pos rfl, if_pos rfl, if_neg (by decide), dec_small 0 (by decide)]
  rfl
 ·rw [if_neg h0, if_neg h0]
  by_cases h1 : l = 1
  ·rw [if_pos h1, if_pos h1]; simp
  ·rw [if_neg h1, if_neg h1]; simp
def endOf (j : Nat) : Bs := if j = 1 then [32, 64, 64] else [32, 43]
theorem endOf_head (j : Nat) : ∃ t, endOf j = 32 :: t := by unfold endOf; split <;> exact ⟨_, rfl⟩
theorem endOf_len (j : Nat) : (endOf j).length ≤ 3 := by unfold endOf; split <;> simp
theorem cut_app (a b : Bs) : (B (a ++ b)).extract 0 a.length = B a := by rw [B_extract]; simp
theorem cut_app' (a b : Bs) : (B (a ++ b)).extract a.length (a ++ b).length = B b := by rw [B_extract]; simp
theorem hdr_j1 (x3 r : List ByteArray) (d R : Bs) (j : Nat) (hj : j ≤ 1) (hx : x3.length ≤ 100) (h : Ev (fun k => q_zzHeader.l0 k (x3 ++ [B d]) (B R) ((j + 1 : Nat) : Int)) r) :
  Ev (fun k => q_zzHeader.j1 k x3 (B (d ++ (endOf j ++ R))) (j : Int) (d.length : Int)) r := by
 refine Ev.succ ?_
 simp only [q_zzHeader.j1, B_size, Option.bind_some, Int.toNat_natCast]
 have hla : (d ++ (endOf j ++ R)).length = d.length + (endOf j ++ R).length := List.length_append
 rw [cut_app, cut_app', w64s j (by omega)]
 refine Ev.if_pos (by omega) (Ev.if_pos (by omega) (Ev.if_pos (by omega) ?_))
 by_cases h1 : j = 1
 ·subst h1
  refine Ev.if_pos rfl ?_
  rw [show (⟨#[32, 64, 64]⟩ : ByteArray) = B (endOf 1) from rfl, cut_yes]
  simp only [Option.bind_some]
  exact Ev.if_pos trivial h
 ·obtain rfl : j = 0 := by omega
  refine Ev.if_neg (by decide) ?_
  rw [show (⟨#[32, 43]⟩ : ByteArray) = B (endOf 0) from rfl, cut_yes]
  simp only [Option.bind_some]
  exact Ev.if_pos trivial h
theorem hdr_round (x3 r : List ByteArray) (s l : Nat) (R : Bs) (j : Nat) (hj : j ≤ 1) (hs : s ≤ 1000001) (hl : l ≤ 1000001) (hR : R.length ≤ 100) (hx : x3.length ≤ 50)
  (h : Ev (fun k => q_zzHeader.l0 k (x3 ++ [B (dec s)] ++ [B (fld l)]) (B R) ((j + 1 : Nat) : Int)) r) :
  Ev (fun k => q_zzHeader.l0 k x3 (B (dec s ++ (ft l ++ (endOf j ++ R)))) (j : Int)) r := by
 have d1 := dec_len 6 s (by omega)
 have d2 := dec_len 6 l (by omega)
 have p1 := dec_pos s
 have en := endOf_len j
 obtain ⟨et, he⟩ := endOf_head j
 have ftl : (ft l).length ≤ 8 := by unfold ft; split <;> simp; omega
 have hla : (dec s ++ (ft l ++ (endOf j ++ R))).length = (dec s).length + ((ft l).length + ((endOf j).length + R.length)) := by simp
 have hne : ¬ isDig 44 := by unfold isDig; decide
 have hne2 : ¬ isDig 32 := by unfold isDig; decide
 refine Ev.succ ?_
 simp only [q_zzHeader.l0, B_size, Option.bind_some, Int.toNat_natCast]
 refine Ev.if_pos (by omega) ?_
 refine Ev.bind (ev_digits (dec s) _ (dec_digs s) (fun c t' e => ?_) (by omega)) ?_
 ·unfold ft at e
  split at e
  ·rw [he] at e
   have := (List.cons.inj e).1
   subst this
   exact hne2
  ·have := (List.cons.inj e).1
   subst this
   exact hne
 simp only [Int.toNat_natCast]
 rw [cut_app, cut_app']
 refine Ev.if_neg (by omega) (Ev.if_pos (by omega) (Ev.if_pos (by omega) (Ev.if_pos (by omega) ?_)))
 rw [show (⟨#[44]⟩ : ByteArray) = B [44] from rfl]
 by_cases h1 : l = 1
 ·subst h1
  rw [show ft 1 = [] from rfl, List.nil_append, cut_no _ _ (by rw [he]; simp)]
  simp only [Option.bind_some]
  refine Ev.if_neg (by decide) ?_
  have := hdr_j1 (x3 ++ [B (dec s)]) r [] R j hj (by rw [List.length_append]; simp only [List.length_cons, List.length_nil]; omega) h
  exact this
 ·have ef : ft l = 44 :: dec l := by unfold ft; rw [if_neg h1]
  have ef2 : fld l = dec l := by unfold fld; rw [if_neg h1]
  rw [ef2] at h
  rw [ef, show (44 :: dec l) ++ (endOf j ++ R) = [44] ++ (dec l ++ (endOf j ++ R)) from rfl, cut_yes]
  simp only [Option.bind_some]
  refine Ev.if_pos trivial ?_
  refine Ev.bind (ev_digits (dec l) _ (dec_digs l) (fun c t' e => ?_) (by simp only [List.length_append]; omega)) ?_
  ·rw [he] at e
   have := (List.cons.inj e).1
   subst this
   exact hne2
  ·exact hdr_j1 (x3 ++ [B (dec s)]) r (dec l) R j hj (by rw [List.length_append]; simp only [List.length_cons, List.length_nil]; omega) h
def hdrRes (p : S42) : List ByteArray := [B (hdrL p), B (dec (st p.f0.toNat p.f2.toNat)), B (fld p.f2.toNat), B (dec (st p.f1.toNat p.f3.toNat)), B (fld p.f3.toNat)]
theorem st_le (s l : Nat) (h : s ≤ 1000000) : st s l ≤ 1000001 := by unfold st; split <;> omega
theorem ev_header (p : S42) (h : okPiece p = true) : Ev (fun k => q_zzHeader.f k (B (hdrL p))) (hdrRes p) := by
 obtain ⟨h0, h1, h2, h3, h4, h5, h6⟩ := okPiece_facts h
 have hs1 := st_le p.f0.toNat p.f2.toNat (by omega)
 have hs2 := st_le p.f1.toNat p.f3.toNat (by omega)
 have d2 := dec_len 6 (st p.f1.toNat p.f3.toNat) (by omega)
 have d3 := dec_len 6 p.f3.toNat (by omega)
 have ftl : (ft p.f3.toNat).length ≤ 8 := by unfold ft; split <;> simp; omega
 have e : hdrL p = [64, 64, 32, 45] ++ (dec (st p.f0.toNat p.f2.toNat) ++ (ft p.f2.toNat ++ (endOf 0 ++ (dec (st p.f1.toNat p.f3.toNat) ++ (ft p.f3.toNat ++ (endOf 1 ++ [])))))) := by
  simp [hdrL, span_eq, endOf]
 simp only [q_zzHeader.f]
 have ec : q_zzCut.f (B (hdrL p)) (⟨#[64, 64, 32, 45]⟩ : ByteArray) = some (B (dec (st p.f0.toNat p.f2.toNat) ++ (ft p.f2.toNat ++ (endOf 0 ++ (dec (st p.f1.toNat p.f3.toNat) ++ (ft p.f3.toNat ++ (endOf 1 ++ [])))))), true) := by
  rw [show (⟨#[64, 64, 32, 45]⟩ : ByteArray) = B [64, 64, 32, 45] from rfl, e, cut_yes]
 rw [ec]
 simp only [Option.bind_some]
 refine Ev.if_pos trivial ?_
 refine hdr_round [B (hdrL p)] _ _ _ _ 0 (by omega) hs1 (by omega) (by simp [endOf]; omega) (by simp) ?_
 refine hdr_round _ _ _ _ [] 1 (by omega) hs2 (by omega) (by simp) (by simp) ?_
 refine Ev.succ ?_
 simp only [q_zzHeader.l0]
 refine Ev.if_neg (by decide) (Ev.if_pos (B_toList []) ?_)
 exact (Ev.const (hdrRes p)).congr fun k => rfl
abbrev PL0 := p_PatchFromText.l0
abbrev PL1 := p_PatchFromText.l1
abbrev PJ1 := p_PatchFromText.j1
abbrev PJ2 := p_PatchFromText.j2
def At (L : List ByteArray) (i : Nat) (l : Bs) : Prop := i < L.length ∧ rdOf ByteArray.empty L (i : Int) = B l
theorem at_of {L : List ByteArray} {i : Nat} {l : Bs} {t : List ByteArray} (h : L.drop i = B l :: t) : At L i l ∧ L.drop (i + 1) = t := by
 have hi : i < L.length := by
  rcases Nat.lt_or_ge i L.length with h' | h'
  ·exact h'
  ·rw [List.drop_eq_nil_of_le h'] at h; cases h
 rw [List.drop_eq_getElem_cons hi] at h
 refine ⟨⟨hi, ?_⟩, (List.cons.inj h).2⟩
 unfold rdOf
 rw [getD_nat _ _ i hi]
 exact (List.cons.inj h).1
theorem size0 (n : Nat) (h : n ≠ 1) : ¬ (((B (dec n)).size : Int) = 0) := by
 have := dec_pos n
 rw [B_size]; omega
theorem dec48 (n : Nat) : (B (dec n)).toList = ([48] : List UInt8) ↔ n = 0 := by
 rw [B_toList]
 constructor
 ·intro h
  have h1 := decFrom_dec n
  rw [h] at h1
  have h2 : Lib.decFrom 0 [48] = some 0 := rfl
  rw [h2] at h1
  exact (Option.some.inj h1).symm
 ·rintro rfl
  rw [dec_small 0 (by decide)]; rfl
theorem hdr_step (L : List ByteArray) (hL : L.length ≤ 1000000) (r : List S67 × Option ByteArray) (x6 : List S67) (i : Nat) (p : S42) (hp : okPiece p = true) (hi : At L i (hdrL p)) (h : Ev (fun k => PL1 k x6 L ((i + 1 : Nat) : Int) [] p.f0 p.f1 p.f2 p.f3) r) : Ev (fun k => PL0 k x6 L (i : Int)) r := by
 obtain ⟨h0, h1, h2, h3, h4, h5, h6⟩ := okPiece_facts hp
 obtain ⟨hil, hir⟩ := hi
 have hs1 := st_le p.f0.toNat p.f2.toNat (by omega)
 have hs2 := st_le p.f1.toNat p.f3.toNat (by omega)
 have hj2 : Ev (fun k => PJ2 k x6 L (i : Int) p.f0 p.f1 p.f2 p.f3) r := by
  refine Ev.succ ?_
  simp only [PJ2, p_PatchFromText.j2]
  rw [w64s i (by omega)]
  exact h
 have w1 : p.f2.toNat ≠ 0 → wrap64 (((st p.f0.toNat p.f2.toNat : Nat) : Int) - 1) = p.f0 := by
  intro hne
  unfold st
  rw [if_neg hne]
  unfold wrap64
  omega
 have w2 : p.f3.toNat ≠ 0 → wrap64 (((st p.f1.toNat p.f3.toNat : Nat) : Int) - 1) = p.f1 := by
  intro hne
  unfold st
  rw [if_neg hne]
  unfold wrap64
  omega
 have hj1 : Ev (fun k => PJ1 k x6 L (i : Int) (hdrRes p) p.f0 0 p.f2 0) r := by
  refine Ev.succ ?_
  simp only [PJ1, p_PatchFromText.j1]
  rw [show rdOf ByteArray.empty (hdrRes p) 3 = B (dec (st p.f1.toNat p.f3.toNat)) from rfl, show rdOf ByteArray.empty (hdrRes p) 4 = B (fld p.f3.toNat) from rfl, atoi_dec _ hs2]
  simp only [Option.bind_some]
  refine Ev.if_pos (show (3 : Int) < ((5 : Nat) : Int) by decide) (Ev.if_pos (show (4 : Int) < ((5 : Nat) : Int) by decide) ?_)
  by_cases c1 : p.f3.toNat = 1
  ·refine Ev.if_pos (by rw [c1]; rfl) ?_
   rw [w2 (by omega), show (1 : Int) = p.f3 by omega]
   exact hj2
  ·have ef : fld p.f3.toNat = dec p.f3.toNat := by unfold fld; rw [if_neg c1]
   rw [ef]
   refine Ev.if_neg (size0 _ c1) ?_
   by_cases c0 : p.f3.toNat = 0
   ·refine Ev.if_pos ((dec48 _).2 c0) ?_
    rw [show ((st p.f1.toNat p.f3.toNat : Nat) : Int) = p.f1 by unfold st; rw [if_pos c0]; omega]
    have e3 : p.f3 = 0 := by omega
    rw [e3] at hj2
    exact hj2
   ·refine Ev.if_neg (fun h_ => c0 ((dec48 _).1 h_)) ?_
    rw [atoi_dec _ (by omega)]
    simp only [Option.bind_some]
    rw [w2 c0, show ((p.f3.toNat : Nat) : Int) = p.f3 by omega]
    exact hj2
 refine Ev.succ ?_
 simp only [PL0, p_PatchFromText.l0]
 rw [hir]
 refine Ev.if_pos (by omega) (Ev.if_pos (by omega) (Ev.bind (ev_header p hp) (Ev.if_neg (show ¬ (((5 : Nat) : Int) = 0) by decide) (Ev.bind (ev_header p hp) ?_))))
 rw [show rdOf ByteArray.empty (hdrRes p) 1 = B (dec (st p.f0.toNat p.f2.toNat)) from rfl, show rdOf ByteArray.empty (hdrRes p) 2 = B (fld p.f2.toNat) from rfl, atoi_dec _ hs1]
 simp only [Option.bind_some]
 refine Ev.if_pos (show (1 : Int) < ((5 : Nat) : Int) by decide) (Ev.if_pos (show (2 : Int) < ((5 : Nat) : Int) by decide) ?_)
 by_cases c1 : p.f2.toNat = 1
 ·refine Ev.if_pos (by rw [c1]; rfl) ?_
  rw [w1 (by omega)]
  have e2 : p.f2 = 1 := by omega
  rw [e2] at hj1
  exact hj1
 ·have ef : fld p.f2.toNat = dec p.f2.toNat := by unfold fld; rw [if_neg c1]
  rw [ef]
  refine Ev.if_neg (size0 _ c1) ?_
  by_cases c0 : p.f2.toNat = 0
  ·refine Ev.if_pos ((dec48 _).2 c0) ?_
   rw [show ((st p.f0.toNat p.f2.toNat : Nat) : Int) = p.f0 by unfold st; rw [if_pos c0]; omega]
   have e2 : p.f2 = 0 := by omega
   rw [e2] at hj1
   exact hj1
  ·refine Ev.if_neg (fun h_ => c0 ((dec48 _).1 h_)) ?_
   rw [atoi_dec _ (by omega)]
   simp only [Option.bind_some]
   rw [w1 c0, show ((p.f2.toNat : Nat) : Int) = p.f2 by omega]
   exact hj1
theorem end_step0 (L : List ByteArray) (hL : L.length ≤ 1000000) (x6 : List S67) : Ev (fun k => PL0 k x6 L (L.length : Int)) (x6, none) := by
 refine Ev.succ ?_
 simp only [PL0, p_PatchFromText.l0]
 exact Ev.if_neg (by omega) (Ev.const _)
theorem end_step1 (L : List ByteArray) (hL : L.length ≤ 1000000) (r : List S67 × Option ByteArray) (x6 : List S67) (acc : List S93) (a b c d : Int) (hx : x6.length ≤ 1000) (h : Ev (fun k => PL0 k (x6 ++ [⟨acc, a, b, c, d⟩]) L (L.length : Int)) r) : Ev (fun k => PL1 k x6 L (L.length : Int) acc a b c d) r := by
 refine Ev.succ ?_
 simp only [PL1, p_PatchFromText.l1]
 exact Ev.if_neg (by omega) (Ev.if_pos (by omega) h)
theorem gap_step (L : List ByteArray) (hL : L.length ≤ 1000000) (r : List S67 × Option ByteArray) (x6 : List S67) (i : Nat) (acc : List S93) (a b c d : Int) (hi : At L i []) (h : Ev (fun k => PL1 k x6 L ((i + 1 : Nat) : Int) acc a b c d) r) : Ev (fun k => PL1 k x6 L (i : Int) acc a b c d) r := by
 obtain ⟨hil, hir⟩ := hi
 refine Ev.succ ?_
 simp only [PL1, p_PatchFromText.l1]
 rw [hir, w64s i (by omega)]
 exact Ev.if_pos (by omega) (Ev.if_pos (by omega) (Ev.if_neg (by decide) h))
theorem tail_cut (c : UInt8) (l : Bs) : (B (c :: l)).extract 1 (B (c :: l)).size = B l := by rw [B_extract, B_size]; simp
theorem bt_head (c : UInt8) (l : Bs) : bt (B (c :: l)) 0 = (c.toNat : Int) := B_bt (c :: l) 0 (by simp)
theorem diff_step (L : List ByteArray) (hL : L.length ≤ 1000000) (r : List S67 × Option ByteArray) (x6 : List S67) (i : Nat) (acc : List S93) (a b c d : Int) (e : S75) (he : okDiff e = true) (hi : At L i (lineL e)) (ha : acc.length ≤ 1000) (h : Ev (fun k => PL1 k x6 L ((i + 1 : Nat) : Int) (acc ++ [⟨e.f0, e.f1⟩]) a b c d) r) :
  Ev (fun k => PL1 k x6 L (i : Int) acc a b c d) r := by
 obtain ⟨hil, hir⟩ := hi
 obtain ⟨g1, g2, g3, g4⟩ := okDiff_facts he
 have hel := esc_len e.f1.data.toList
 have hsz := size_data e.f1
 refine Ev.succ ?_
 simp only [PL1, p_PatchFromText.l1]
 rw [hir, w64s i (by omega)]
 unfold lineL
 rw [tail_cut, bt_head]
 simp only [B_size, List.length_cons]
 refine Ev.if_pos (by omega) (Ev.if_pos (by omega) (Ev.if_pos (by omega) (Ev.if_pos (by omega) (Ev.if_pos (by omega) ?_))))
 refine Ev.bind (ev_replace _ (by omega)) (Ev.bind (unescape_esc _ (by omega)) ?_)
 rw [B_of]
 rcases g1 with g | g | g
 ·rw [g] at h ⊢
  exact Ev.if_pos (show ((signB (-1)).toNat : Int) = 45 from rfl) (Ev.if_pos (by omega) h)
 ·rw [g] at h ⊢
  exact Ev.if_neg (show ¬ ((signB 0).toNat : Int) = 45 by decide) (Ev.if_neg (show ¬ ((signB 0).toNat : Int) = 43 by decide) (Ev.if_pos (show ((signB 0).toNat : Int) = 32 from rfl) (Ev.if_pos (by omega) h)))
 ·rw [g] at h ⊢
  exact Ev.if_neg (show ¬ ((signB 1).toNat : Int) = 45 by decide) (Ev.if_pos (show ((signB 1).toNat : Int) = 43 from rfl) (Ev.if_pos (by omega) h))
theorem unescape_plain (l : Bs) (h : 37 ∉ l) (hl : l.length ≤ 1000) : Ev (fun k => q_zzQueryUnescape.f k (B (repl l))) (B l, none) := by
 have e : repl l = (l.map fun c => (replB c, c)).flatMap (·.1) := by simp [repl, List.flatMap_map]
 have h1 := repl_len l
 have := ev_unescape (l.map fun c => (replB c, c)) (fun x hx => by
  obtain ⟨c, hc, rfl⟩ := List.mem_map.1 hx
  by_cases h43 : c = 43
  ·subst h43
   exact .inr ⟨50, 98, rfl, by decide, by decide, by decide⟩
  ·exact .inl ⟨by simp [replB, h43], fun e => h (e ▸ hc), h43⟩) (by rw [List.length_map]; omega) (by rw [← e]; omega)
 rw [← e] at this
 simpa [List.map_map, Function.comp_def] using this
theorem next_step (L : List ByteArray) (hL : L.length ≤ 1000000) (r : List S67 × Option ByteArray) (x6 : List S67) (i : Nat) (acc : List S93) (a b c d : Int) (p : S42) (hp : okPiece p = true) (hi : At L i (hdrL p)) (hx : x6.length ≤ 1000) (h : Ev (fun k => PL0 k (x6 ++ [⟨acc, a, b, c, d⟩]) L (i : Int)) r) :
  Ev (fun k => PL1 k x6 L (i : Int) acc a b c d) r := by
 obtain ⟨hil, hir⟩ := hi
 have hl := hdrL_len p hp
 have e : ∃ m, hdrL p = 64 :: m ∧ 37 ∉ m := by
  refine ⟨[64, 32, 45] ++ span p.f0.toNat p.f2.toNat ++ [32, 43] ++ span p.f1.toNat p.f3.toNat ++ [32, 64, 64], by simp [hdrL], ?_⟩
  have hd : ∀ s l, 37 ∉ span s l := by
   intro s l hm
   have hdd : ∀ n, 37 ∉ dec n := fun n hn => absurd (dec_digs n 37 hn).1 (by decide)
   rw [span_eq] at hm
   rcases List.mem_append.1 hm with hm | hm
   ·exact hdd _ hm
   ·unfold ft at hm
    split at hm
    ·cases hm
    ·rcases List.mem_cons.1 hm with hm | hm
     ·exact absurd hm (by decide)
     ·exact hdd _ hm
  have h1 := hd p.f0.toNat p.f2.toNat
  have h2 := hd p.f1.toNat p.f3.toNat
  simp [h1, h2]
 obtain ⟨m, em, hm⟩ := e
 rw [em] at hir hl
 have hl' : m.length + 1 ≤ 39 := hl
 refine Ev.succ ?_
 simp only [PL1, p_PatchFromText.l1]
 rw [hir, tail_cut, bt_head]
 simp only [B_size, List.length_cons]
 refine Ev.if_pos (by omega) (Ev.if_pos (by omega) (Ev.if_pos (by omega) (Ev.if_pos (by omega) (Ev.if_pos (by omega) ?_))))
 refine Ev.bind (ev_replace _ (by omega)) (Ev.bind (unescape_plain _ hm (by omega)) ?_)
 exact Ev.if_neg (by decide) (Ev.if_neg (by decide) (Ev.if_neg (by decide) (Ev.if_pos rfl (Ev.if_pos (by omega) h))))
def gapsL (e : Bool) : List Bs := if e then [[]] else []
def lsE (e : Bool) (ls : List Bs) : List Bs := ls.flatMap fun l => l :: gapsL e
def allLines (ps : List S42) : List Bs := ps.flatMap linesL
theorem block_lines (e : Bool) (ls : List Bs) : blockL e ls = (lsE e ls).flatMap (fun l => l ++ [10]) := by
 induction ls with
 | nil => rfl
 | cons l ls ih =>
  simp only [blockL, lsE, List.flatMap_cons] at ih ⊢
  rw [ih]
  cases e <;> simp [gapL, gapsL, List.flatMap_append]
theorem text_lines (e : Bool) (ps : List S42) : textL e ps = (lsE e (allLines ps)).flatMap (fun l => l ++ [10]) := by
 rw [← block_lines]
 induction ps with
 | nil => rfl
 | cons p ps ih =>
  simp only [textL, allLines, List.flatMap_cons] at ih ⊢
  rw [ih]
  simp [blockL]
theorem esc10 : (List.range 256).all (fun c => !((escB (UInt8.ofNat c)).contains 10)) = true := by kernel_rfl
theorem escB_no (c : UInt8) : 10 ∉ escB c := by
 have h := List.all_eq_true.1 esc10 c.toNat (List.mem_range.2 (UInt8.toNat_lt c))
 rw [UInt8.ofNat_toNat] at h
 intro hm
 rw [List.contains_iff_mem.2 hm] at h
 cases h
theorem span_no (s l : Nat) : 10 ∉ span s l := by
 intro hm
 have hdd : ∀ n, 10 ∉ dec n := fun n hn => absurd (dec_digs n 10 hn).1 (by decide)
 rw [span_eq] at hm
 rcases List.mem_append.1 hm with hm | hm
 ·exact hdd _ hm
 ·unfold ft at hm
  split at hm
  ·cases hm
  ·rcases List.mem_cons.1 hm with hm | hm
   ·exact absurd hm (by decide)
   ·exact hdd _ hm
theorem lines_no (p : S42) : ∀ l ∈ linesL p, 10 ∉ l := by
 intro l hl
 simp only [linesL, List.mem_cons, List.mem_map] at hl
 rcases hl with rfl | ⟨d, hd, rfl⟩
 ·have h1 := span_no p.f0.toNat p.f2.toNat
  have h2 := span_no p.f1.toNat p.f3.toNat
  simp [hdrL, h1, h2]
 ·intro hm
  rcases List.mem_cons.1 hm with hm | hm
  ·unfold signB at hm
   split at hm
   ·exact absurd hm (by decide)
   ·split at hm <;> exact absurd hm (by decide)
  ·obtain ⟨c, _, hc⟩ := List.mem_flatMap.1 hm
   exact escB_no c hc
theorem lsE_no (e : Bool) (ps : List S42) : ∀ l ∈ lsE e (allLines ps), 10 ∉ l := by
 intro l hl
 obtain ⟨m, hm, hl⟩ := List.mem_flatMap.1 hl
 obtain ⟨p, _, hm⟩ := List.mem_flatMap.1 hm
 rcases List.mem_cons.1 hl with rfl | hl
 ·exact lines_no p _ hm
 ·unfold gapsL at hl
  split at hl
  ·rw [List.mem_singleton.1 hl]; simp
  ·cases hl
def toG (d : S75) : S93 := ⟨d.f0, d.f1⟩
def conv (p : S42) : S67 := ⟨p.f4.map toG, p.f0, p.f1, p.f2, p.f3⟩
theorem gaps_steps (L : List ByteArray) (hL : L.length ≤ 1000000) (r : List S67 × Option ByteArray) (e : Bool) (x6 : List S67) (i : Nat) (acc : List S93) (a b c d : Int) (T : List ByteArray) (hi : L.drop i = (gapsL e).map B ++ T)
  (h : ∀ i', L.drop i' = T → Ev (fun k => PL1 k x6 L (i' : Int) acc a b c d) r) : Ev (fun k => PL1 k x6 L (i : Int) acc a b c d) r := by
 cases e with
 | false => exact h i hi
 | true =>
  obtain ⟨h1, h2⟩ := at_of (show L.drop i = B [] :: T from hi)
  exact gap_step L hL r x6 i acc a b c d h1 (h (i + 1) h2)
theorem diffs_steps (L : List ByteArray) (hL : L.length ≤ 1000000) (r : List S67 × Option ByteArray) (e : Bool) (x6 : List S67) (a b c d : Int) (T : List ByteArray) : ∀ (ds : List S75) (i : Nat) (acc : List S93), (∀ x ∈ ds, okDiff x = true) → acc.length + ds.length ≤ 100 → L.drop i = (lsE e (ds.map lineL)).map B ++ T →
  (∀ i', L.drop i' = T → Ev (fun k => PL1 k x6 L (i' : Int) (acc ++ ds.map toG) a b c d) r) → Ev (fun k => PL1 k x6 L (i : Int) acc a b c d) r
 | [], i, acc, hd, ha, hi, h => by simpa using h i hi
 | x :: ds, i, acc, hd, ha, hi, h => by
  have hl : (x :: ds).length = ds.length + 1 := rfl
  have hi' : L.drop i = B (lineL x) :: ((gapsL e).map B ++ ((lsE e (ds.map lineL)).map B ++ T)) := by
   rw [hi]; simp [lsE]
  obtain ⟨h1, h2⟩ := at_of hi'
  refine diff_step L hL r x6 i acc a b c d x (hd x List.mem_cons_self) h1 (by omega) ?_
  refine gaps_steps L hL r e x6 (i + 1) _ a b c d _ h2 fun i' h3 => ?_
  refine diffs_steps L hL r e x6 a b c d T ds i' _ (fun y hy => hd y (List.mem_cons_of_mem _ hy)) (by rw [List.length_append]; simp only [List.length_cons, List.length_nil]; omega) h3 fun i'' h4 => ?_
  simpa [toG] using h i'' h4
theorem piece_steps (L : List ByteArray) (hL : L.length ≤ 1000000) (r : List S67 × Option ByteArray) (e : Bool) (x6 : List S67) (i : Nat) (p : S42) (hp : okPiece p = true) (T : List ByteArray) (hi : L.drop i = (lsE e (linesL p)).map B ++ T)
  (h : ∀ i', L.drop i' = T → Ev (fun k => PL1 k x6 L (i' : Int) (p.f4.map toG) p.f0 p.f1 p.f2 p.f3) r) : Ev (fun k => PL0 k x6 L (i : Int)) r := by
 obtain ⟨h0, h1, h2, h3, h4, h5, h6⟩ := okPiece_facts hp
 have hi' : L.drop i = B (hdrL p) :: ((gapsL e).map B ++ ((lsE e (p.f4.map lineL)).map B ++ T)) := by
  rw [hi]; simp [lsE, linesL]
 obtain ⟨g1, g2⟩ := at_of hi'
 refine hdr_step L hL r x6 i p hp g1 ?_
 refine gaps_steps L hL r e x6 (i + 1) [] _ _ _ _ _ g2 fun i' g3 => ?_
 refine diffs_steps L hL r e x6 _ _ _ _ T p.f4 i' [] h5 (by simp; omega) g3 fun i'' g4 => ?_
 simpa using h i'' g4
theorem pieces_steps (L : List ByteArray) (hL : L.length ≤ 1000000) (r : List S67 × Option ByteArray) (e : Bool) (q : S42) (T : List ByteArray) : ∀ (ps : List S42) (x6 : List S67) (i : Nat), (∀ p ∈ ps ++ [q], okPiece p = true) → x6.length + ps.length ≤ 100 → L.drop i = (lsE e (allLines (ps ++ [q]))).map B ++ T →
  (∀ i', L.drop i' = T → Ev (fun k => PL1 k (x6 ++ ps.map conv) L (i' : Int) (q.f4.map toG) q.f0 q.f1 q.f2 q.f3) r) → Ev (fun k => PL0 k x6 L (i : Int)) r
 | [], x6, i, hp, hx, hi, h => by
  refine piece_steps L hL r e x6 i q (hp q (by simp)) T (by rw [hi]; simp [allLines]) fun i' h1 => ?_
  simpa using h i' h1
 | p :: ps, x6, i, hp, hx, hi, h => by
  have hl : (p :: ps).length = ps.length + 1 := rfl
  have hi' : L.drop i = (lsE e (linesL p)).map B ++ ((lsE e (allLines (ps ++ [q]))).map B ++ T) := by
   rw [hi]; simp [lsE, allLines]
  refine piece_steps L hL r e x6 i p (hp p (by simp)) _ hi' fun i' h1 => ?_
  obtain ⟨n, ns, en, hn⟩ : ∃ n ns, ps ++ [q] = n :: ns ∧ okPiece n = true := by
   cases ps with
   | nil => exact ⟨q, [], rfl, hp q (by simp)⟩
   | cons n ns => exact ⟨n, ns ++ [q], rfl, hp n (by simp)⟩
  have h1' : L.drop i' = B (hdrL n) :: ((gapsL e).map B ++ ((lsE e (n.f4.map lineL ++ allLines ns)).map B ++ T)) := by
   rw [h1, en]; simp [lsE, allLines, linesL]
  obtain ⟨g1, g2⟩ := at_of h1'
  refine next_step L hL r x6 i' _ _ _ _ _ n hn g1 (by omega) ?_
  refine pieces_steps L hL r e q T ps _ i' (fun y hy => hp y (List.mem_cons_of_mem _ hy)) (by rw [List.length_append]; simp only [List.length_cons, List.length_nil]; omega) h1 fun i'' h2 => ?_
  simpa [conv] using h i'' h2
def bkD (d : S93) : S70 := ⟨wrap64 d.f0, d.f1⟩
def bkP (p : S67) : S33 := ⟨p.f1, p.f2, p.f3, p.f4, p.f0.map bkD⟩
theorem ev_back (l : List S93) (hl : l.length ≤ 1000) : Ev (fun k => impl_back.f k l) (l.map bkD) := by
 have := fold_loop0 (fun k s i => impl_back.l0 k s l (l.length : Int) i) l (fun s x => s ++ [bkD x]) (fun i s => s.length = i) id [] rfl
  (fun i hi s hs => by simp [hs]) ?_ ?_
 ·rw [foldl_snoc] at this
  exact this
 ·intro s hs
  exact Ev.succ ⟨0, fun k _ => by simp only [impl_back.l0]; rw [if_neg (by omega)]; rfl⟩
 ·intro i hi s r hs hr
  refine Ev.succ ?_
  simp only [impl_back.l0]
  refine Ev.if_pos (by omega) (Ev.if_pos (by omega) (Ev.if_pos (by omega) (Ev.if_pos (by omega) ?_)))
  rw [w64s i (by omega)]
  simp only [rd_T93, getD_nat _ _ i hi]
  exact hr
theorem ev_bps (l : List S67) (hl : l.length ≤ 1000) (hd : ∀ p ∈ l, p.f0.length ≤ 1000) : Ev (fun k => bps.f k l) (l.map bkP) := by
 have := fold_loop0 (fun k s i => bps.l0 k s l (l.length : Int) i) l (fun s x => s ++ [bkP x]) (fun i s => s.length = i) id [] rfl
  (fun i hi s hs => by simp [hs]) ?_ ?_
 ·rw [foldl_snoc] at this
  exact this
 ·intro s hs
  exact Ev.succ ⟨0, fun k _ => by simp only [bps.l0]; rw [if_neg (by omega)]; rfl⟩
 ·intro i hi s r hs hr
  refine Ev.succ ?_
  simp only [bps.l0]
  refine Ev.if_pos (by omega) (Ev.if_pos (by omega) (Ev.if_pos (by omega) ?_))
  rw [w64s i (by omega)]
  simp only [rd_T67, getD_nat _ _ i hi]
  refine Ev.bind (a := (l[i].f1, l[i].f2, l[i].f3, l[i].f4, l[i].f0.map bkD)) ?_ (Ev.if_pos (by omega) hr)
  simp only [bp.f]
  exact Ev.bind (ev_back _ (hd _ (List.getElem_mem hi))) (Ev.const _)
theorem ev_pft (t : Bs) (ht : t ≠ []) (L : List ByteArray) (r : List S67 × Option ByteArray) (hs : Ev (fun k => q_zzSplit.l1 k (B t) (B [10]) []) L) (h : Ev (fun k => PL0 k [] L ((0 : Nat) : Int)) r) :
  Ev (fun k => p_PatchFromText.f k 0 (B t)) r := by
 simp only [p_PatchFromText.f, Option.bind_some, B_size]
 refine Ev.if_neg (fun h0 => ht (List.length_eq_zero_iff.1 (by omega))) (Ev.bind (ev_split hs) h)
theorem ev_pread (t : Bs) (ps : List S67) (er : Option ByteArray) (bs : List S33) (h1 : Ev (fun k => p_PatchFromText.f k 0 (B t)) (ps, er)) (h2 : Ev (fun k => bps.f k ps) bs) :
  Ev (fun k => pread.f k (B t)) (bs, er.getD ⟨#[]⟩) := by
 simp only [pread.f]
 exact Ev.bind h1 (Ev.bind h2 (Ev.const _))
theorem lsE_len (e : Bool) (ls : List Bs) : (lsE e ls).length ≤ 2 * ls.length := by
 induction ls with
 | nil => simp [lsE]
 | cons l ls ih =>
  have hg : (gapsL e).length ≤ 1 := by unfold gapsL; split <;> simp
  simp only [lsE, List.flatMap_cons, List.length_append, List.length_cons] at ih ⊢
  omega
theorem allLines_len : ∀ ps : List S42, (∀ p ∈ ps, okPiece p = true) → (allLines ps).length ≤ 9 * ps.length ∧ (textL true ps).length ≤ 1107 * ps.length ∧ (textL false ps).length ≤ 1107 * ps.length
 | [], _ => by simp [allLines, textL]
 | p :: ps, h => by
  have ih := allLines_len ps (fun q hq => h q (List.mem_cons_of_mem _ hq))
  have h1 := linesL_len p (h p List.mem_cons_self)
  have h2 := block_len true _ h1.2
  have h3 := block_len false _ h1.2
  simp only [allLines, textL, List.flatMap_cons, List.length_append, List.length_cons] at ih ⊢
  omega
mutual
def p_PatchDeepCopy.l0 : Nat → List (S67) → List (S67) → Int → Int → Option ((List (S67)))
 | 0, _, _, _, _ => none
 | k + 1, x5, x12, x13, x14 => if x14 < x13 then (if 0 ≤ x14 then (if x14 < (x12.length : Int) then (p_PatchDeepCopy.l1 k x5 x12 x13 x14 ((rd_T67 x12 x14).f0) (((rd_T67 x12 x14).f0).length : Int) 0 ((rd_T67 x12 x14).f0) ((rd_T67 x12 x14).f1) ((rd_T67 x12 x14).f2) ((rd_T67 x12 x14).f3) ((rd_T67 x12 x14).f4) ([] : List (S93)) 0 0 0 0) else (none)) else (none)) else (some x5)
def p_PatchDeepCopy.l1 : Nat → List (S67) → List (S67) → Int → Int → List (S93) → Int → Int → List (S93) → Int → Int → Int → Int → List (S93) → Int → Int → Int → Int → Option ((List (S67)))
 | 0, _, _, _, _, _, _, _, _, _, _, _, _, _, _, _, _, _ => none
 | k + 1, x5, x12, x13, x14, x20, x21, x22, x155000, x155001, x155002, x155003, x155004, x156000, x156001, x156002, x156003, x156004 => if x22 < x21 then (if 0 ≤ x22 then (if x22 < (x20.length : Int) then (if x156000.length < 5864062014805 then (p_PatchDeepCopy.l1 k x5 x12 x13 x14 x20 x21 (wrap64 (x22 + 1)) x155000 x155001 x155002 x155003 x155004 (x156000 ++ [(⟨(rd_T93 x20 x22).f0, (rd_T93 x20 x22).f1⟩ : S93)]) x156001 x156002 x156003 x156004) else (none)) else (none)) else (none)) else (if x5.length < 2513169434916 then (p_PatchDeepCopy.l0 k (x5 ++ [(⟨x156000, x155001, x155002, x155003, x155004⟩ : S67)]) x12 x13 (wrap64 (x14 + 1))) else (none))
end
def p_PatchDeepCopy.f (k : Nat) (a0 : Nat) (l1 : List (S67)) : Option ((List (S67))) := p_PatchDeepCopy.l0 k (([] : List (S67))) l1 (l1.length : Int) 0
theorem p_PatchDeepCopy.calls (k : Nat) (a0 : Nat) (A1 : Option Addr) (c1 : Nat) (l1 : List (S67)) (r : List (S67)) (w : World) (hd0 : DmpAt w a0) (hr1 : Kd.C k67 w A1 l1.length l1) (hc1 : l1.length ≤ c1) (h : p_PatchDeepCopy.f k a0 l1 = some r) :
  Calls Tryz.prog 29 #[.pointer (some ⟨a0, 0, none⟩), .slice A1 l1.length c1] w fun e w' => ∃ v0_ : Value, e = .returned (v0_) ∧ Kd.S k67 67 w' w.heap.size (fun _ => True) v0_ r ∧ Below w.heap.size w w' := by
 have hu67 := Tryz.underlying67
 have hu93 := Tryz.underlying93
 have HD0 := Aside0.mk hd0
 clear hd0
 have HR1 := Aside0.mk hr1
 have HC1 := Aside0.mk hc1
 clear hr1 hc1
 have HB := aS_ (Below.refl w.heap.size w)
 have H : (p_PatchDeepCopy.l0 k (([] : List (S67))) l1 (l1.length : Int) 0) = some r := h
 clear h
 obtain ⟨y150, hy150⟩ : ∃ y_ : List (S67), y_ = (([] : List (S67))) := ⟨_, rfl⟩
 replace H : (p_PatchDeepCopy.l0 k y150 l1 (l1.length : Int) 0) = some r := by (rw [hy150]; with_reducible exact H)
 have Ny150 := Aside0.mk hy150
 clear hy150
 have H' := Aside0.mk H
 clear H
 go_enter Tryz.func29, Tryz.ntmps29
 go_wp2_with (((with_reducible refine gate_dst (N := 11) rfl ?_); refine Kd.S_lit k67 _ 67 ?hg (N := 11) ?hd (xs := ([] : List (S67))) (inner := []) (ok := fun _ => True) (okp := fun _ => True) ?hr ?hp (fun _ hk => hk) trivial (Below.refl _ _) (Nat.le_refl _) (by simp) ?_; (case hd => rfl); (case hg => rfl); (case hr => (go_simp; done)); (case hp => exact (Reps.none _ _)); intro v151 w3 ho4 hb hg_ hnew_; clear hg_ hnew_; (rw [← Ny150.out] at ho4); have HO152 := aS_ (Kd.S_lower ho4 (bz_ (bel_ HB.out))); replace HB := aS_ (bt_ (bel_ HB.out) hb); clear hb ho4))
 go_loopg [5, 14] k (fun kq v5 v14 w' => ∃ (x5_1 : List (S67)) (x14_1 : Int), v14 = .int .i64 x14_1 ∧ Aside0 (p_PatchDeepCopy.l0 kq x5_1 l1 (l1.length : Int) x14_1 = some r) ∧ Aside0 (kq ≤ k) ∧ Aside0 (Kd.S k67 67 w' w.heap.size (fun _ => True) v5 x5_1) ∧ Aside0 (Below w.heap.size w w'))
 case atStart => exact ⟨(y150), (0), (by rfl), H', ⟨Nat.le_refl _⟩, ⟨Kd.S_st HO152.out⟩, ⟨bel_ HB.out⟩⟩
 case round =>
  clear H'
  obtain ⟨x5_1, x14_1, rfl, HA, HK1, HO_5, HB⟩ := hrel
  cases gk with
  | zero => exact absurd HA.out (by simp [p_PatchDeepCopy.l0])
  | succ k1 =>
   have H := HA.out; clear HA
   simp only [p_PatchDeepCopy.l0] at H
   by_cases c5 : x14_1 < (l1.length : Int)
   ·rw [if_pos c5] at H
    have c5b0 := decide_eq_true c5
    clear c5
    replace H := yes_ H; obtain ⟨c6, H⟩ := H
    have c6b0 := decide_eq_true c6
    clear c6
    replace H := yes_ H; obtain ⟨c7, H⟩ := H
    have c7b0 := decide_eq_true c7
    clear c7
    have H' := Aside0.mk H
    clear H
    have p153 : 0 ≤ (x14_1 : Int) := of_decide_eq_true (by assumption)
    have q153 : x14_1 < (l1.length : Int) := of_decide_eq_true (by assumption)
    obtain ⟨ad153, A153_0, c153_0, e153, hx153_0, hx153_1, hx153_2, hx153_3, hx153_4, hl153_0, hi153_0⟩ := at_T67 HR1.out x14_1 p153 q153
    cases e153
    replace hx153_0 := (HB.out.cell (World.block_lt_of_cell? w _ hx153_0)).trans hx153_0
    replace hx153_1 := (HB.out.cell (World.block_lt_of_cell? w _ hx153_1)).trans hx153_1
    replace hx153_2 := (HB.out.cell (World.block_lt_of_cell? w _ hx153_2)).trans hx153_2
    replace hx153_3 := (HB.out.cell (World.block_lt_of_cell? w _ hx153_3)).trans hx153_3
    replace hx153_4 := (HB.out.cell (World.block_lt_of_cell? w _ hx153_4)).trans hx153_4
    have HR153_0 := Aside0.mk hi153_0
    have HC153_0 := Aside0.mk hl153_0
    clear hi153_0 hl153_0
    replace p153 := eq_true p153
    replace q153 := eq_true q153
    go_wp2_with (first | ((with_reducible refine gate_dst (N := 7) rfl ?_); refine box_event ?hg (N := 7) ?hd (cs := #[.slice none 0 0, .int .i64 0, .int .i64 0, .int .i64 0, .int .i64 0]) (t := 67) ?hr ?_; (case hd => rfl); (case hg => rfl); (case hr => (go_simp; done)); intro gb154 hg w8 hbox hb; replace HO_5 := aS_ (Kd.S_below (Kd.S_elderB (Kd.S_st HO_5.out) gb154 (Nat.le_of_eq hg.symm)) hb); have BK154 := aS_ (hbox); have GW154 := aS_ ((by rw [hg]; exact (bz_ (bel_ HB.out)) : w.heap.size ≤ gb154)); have GE154 := aS_ ((by rw [hg]; exact (bz_ (bel_ HB.out)) : w.heap.size ≤ gb154)); replace HB := aS_ (bt_ (bel_ HB.out) hb); clear hb hbox hg; obtain ⟨hcz9_0, hcz9_1, hcz9_2, hcz9_3, hcz9_4, hfz9_0, hfz9_1, hfz9_2, hfz9_3, hfz9_4⟩ := blk5 BK154.out) | ((with_reducible refine gate_dst (N := 8) rfl ?_); refine box_event ?hg (N := 8) ?hd (cs := #[.slice none 0 0, .int .i64 0, .int .i64 0, .int .i64 0, .int .i64 0]) (t := 67) ?hr ?_; (case hd => rfl); (case hg => rfl); (case hr => (go_simp; done)); intro gb155 hg w10 hbox hb; replace HO_5 := aS_ (Kd.S_below (Kd.S_elderB (Kd.S_st ((Kd.S_mono (Kd.S_far (p := ⟨gb154, 4, none⟩) (Kd.S_far (p := ⟨gb154, 3, none⟩) (Kd.S_far (p := ⟨gb154, 2, none⟩) (Kd.S_far (p := ⟨gb154, 1, none⟩) (Kd.S_far (p := ⟨gb154, 0, none⟩) (Kd.S_mono HO_5.out (fun k_ hk => (⟨hk, hk.2⟩ : _ ∧ k_ ≠ gb154))) (fun _ hk => hk.2) (.slice A153_0 ((rd_T67 l1 x14_1).f0).length c153_0)) (fun _ hk => hk.2) (.int .i64 ((rd_T67 l1 x14_1).f1))) (fun _ hk => hk.2) (.int .i64 ((rd_T67 l1 x14_1).f2))) (fun _ hk => hk.2) (.int .i64 ((rd_T67 l1 x14_1).f3))) (fun _ hk => hk.2) (.int .i64 ((rd_T67 l1 x14_1).f4))) (fun _ h_ => h_.1)))) gb155 (Nat.le_of_eq hg.symm)) hb); have BK155 := aS_ (hbox); have GW155 := aS_ ((by rw [hg]; exact (bz_ (by with_reducible repeat first | exact HB.out | refine bS_ ?_ GE154.out)) : w.heap.size ≤ gb155)); have GE155 := aS_ ((by rw [hg]; exact (bz_ (by with_reducible repeat first | exact HB.out | refine bS_ ?_ GE154.out)) : w.heap.size ≤ gb155)); replace HB := aS_ (bt_ (by with_reducible repeat first | exact HB.out | refine bS_ ?_ GE154.out) hb); have NB154_155 := aS_ ((by rw [hg]; exact Nat.ne_of_lt (blk_lt (g := gb154) (o := .cells #[.slice A153_0 ((rd_T67 l1 x14_1).f0).length c153_0, .int .i64 ((rd_T67 l1 x14_1).f1), .int .i64 ((rd_T67 l1 x14_1).f2), .int .i64 ((rd_T67 l1 x14_1).f3), .int .i64 ((rd_T67 l1 x14_1).f4)] 67 (0, 0)) (by (with_reducible skip); refine blk_put (cs := #[.slice A153_0 ((rd_T67 l1 x14_1).f0).length c153_0, .int .i64 ((rd_T67 l1 x14_1).f1), .int .i64 ((rd_T67 l1 x14_1).f2), .int .i64 ((rd_T67 l1 x14_1).f3), .int .i64 0]) ?_ 4 _ rfl; (with_reducible skip); refine blk_put (cs := #[.slice A153_0 ((rd_T67 l1 x14_1).f0).length c153_0, .int .i64 ((rd_T67 l1 x14_1).f1), .int .i64 ((rd_T67 l1 x14_1).f2), .int .i64 0, .int .i64 0]) ?_ 3 _ rfl; (with_reducible skip); refine blk_put (cs := #[.slice A153_0 ((rd_T67 l1 x14_1).f0).length c153_0, .int .i64 ((rd_T67 l1 x14_1).f1), .int .i64 0, .int .i64 0, .int .i64 0]) ?_ 2 _ rfl; (with_reducible skip); refine blk_put (cs := #[.slice A153_0 ((rd_T67 l1 x14_1).f0).length c153_0, .int .i64 0, .int .i64 0, .int .i64 0, .int .i64 0]) ?_ 1 _ rfl; (with_reducible skip); refine blk_put (cs := #[.slice none 0 0, .int .i64 0, .int .i64 0, .int .i64 0, .int .i64 0]) ?_ 0 _ rfl; (with_reducible skip); exact BK154.out)) : gb154 ≠ gb155)); have NB155_154 := aS_ ((by rw [hg]; exact Nat.ne_of_gt (blk_lt (g := gb154) (o := .cells #[.slice A153_0 ((rd_T67 l1 x14_1).f0).length c153_0, .int .i64 ((rd_T67 l1 x14_1).f1), .int .i64 ((rd_T67 l1 x14_1).f2), .int .i64 ((rd_T67 l1 x14_1).f3), .int .i64 ((rd_T67 l1 x14_1).f4)] 67 (0, 0)) (by (with_reducible skip); refine blk_put (cs := #[.slice A153_0 ((rd_T67 l1 x14_1).f0).length c153_0, .int .i64 ((rd_T67 l1 x14_1).f1), .int .i64 ((rd_T67 l1 x14_1).f2), .int .i64 ((rd_T67 l1 x14_1).f3), .int .i64 0]) ?_ 4 _ rfl; (with_reducible skip); refine blk_put (cs := #[.slice A153_0 ((rd_T67 l1 x14_1).f0).length c153_0, .int .i64 ((rd_T67 l1 x14_1).f1), .int .i64 ((rd_T67 l1 x14_1).f2), .int .i64 0, .int .i64 0]) ?_ 3 _ rfl; (with_reducible skip); refine blk_put (cs := #[.slice A153_0 ((rd_T67 l1 x14_1).f0).length c153_0, .int .i64 ((rd_T67 l1 x14_1).f1), .int .i64 0, .int .i64 0, .int .i64 0]) ?_ 2 _ rfl; (with_reducible skip); refine blk_put (cs := #[.slice A153_0 ((rd_T67 l1 x14_1).f0).length c153_0, .int .i64 0, .int .i64 0, .int .i64 0, .int .i64 0]) ?_ 1 _ rfl; (with_reducible skip); refine blk_put (cs := #[.slice none 0 0, .int .i64 0, .int .i64 0, .int .i64 0, .int .i64 0]) ?_ 0 _ rfl; (with_reducible skip); exact BK154.out)) : gb155 ≠ gb154)); replace BK154 := aS_ (blk_below (g := gb154) (o := .cells #[.slice A153_0 ((rd_T67 l1 x14_1).f0).length c153_0, .int .i64 ((rd_T67 l1 x14_1).f1), .int .i64 ((rd_T67 l1 x14_1).f2), .int .i64 ((rd_T67 l1 x14_1).f3), .int .i64 ((rd_T67 l1 x14_1).f4)] 67 (0, 0)) (by (with_reducible skip); refine blk_put (cs := #[.slice A153_0 ((rd_T67 l1 x14_1).f0).length c153_0, .int .i64 ((rd_T67 l1 x14_1).f1), .int .i64 ((rd_T67 l1 x14_1).f2), .int .i64 ((rd_T67 l1 x14_1).f3), .int .i64 0]) ?_ 4 _ rfl; (with_reducible skip); refine blk_put (cs := #[.slice A153_0 ((rd_T67 l1 x14_1).f0).length c153_0, .int .i64 ((rd_T67 l1 x14_1).f1), .int .i64 ((rd_T67 l1 x14_1).f2), .int .i64 0, .int .i64 0]) ?_ 3 _ rfl; (with_reducible skip); refine blk_put (cs := #[.slice A153_0 ((rd_T67 l1 x14_1).f0).length c153_0, .int .i64 ((rd_T67 l1 x14_1).f1), .int .i64 0, .int .i64 0, .int .i64 0]) ?_ 2 _ rfl; (with_reducible skip); refine blk_put (cs := #[.slice A153_0 ((rd_T67 l1 x14_1).f0).length c153_0, .int .i64 0, .int .i64 0, .int .i64 0, .int .i64 0]) ?_ 1 _ rfl; (with_reducible skip); refine blk_put (cs := #[.slice none 0 0, .int .i64 0, .int .i64 0, .int .i64 0, .int .i64 0]) ?_ 0 _ rfl; (with_reducible skip); exact BK154.out) hb); clear hb hbox hg; have hnb11 := NB155_154.out; have hnc11 := NB154_155.out; obtain ⟨hcz12_0, hcz12_1, hcz12_2, hcz12_3, hcz12_4, hfz12_0, hfz12_1, hfz12_2, hfz12_3, hfz12_4⟩ := blk5 BK155.out; obtain ⟨hcz13_0, hcz13_1, hcz13_2, hcz13_3, hcz13_4, hfz13_0, hfz13_1, hfz13_2, hfz13_3, hfz13_4⟩ := blk5 BK154.out))
    go_loopg [22] k1 (fun kq v22 w' => ∃ (x22_2 : Int) (x156000_2 : List (S93)) (u156000 : Value), v22 = .int .i64 x22_2 ∧ Aside0 (p_PatchDeepCopy.l1 kq x5_1 l1 (l1.length : Int) x14_1 ((rd_T67 l1 x14_1).f0) (((rd_T67 l1 x14_1).f0).length : Int) x22_2 ((rd_T67 l1 x14_1).f0) ((rd_T67 l1 x14_1).f1) ((rd_T67 l1 x14_1).f2) ((rd_T67 l1 x14_1).f3) ((rd_T67 l1 x14_1).f4) x156000_2 0 0 0 0 = some r) ∧ Aside0 (kq ≤ k1) ∧ Aside0 (Kd.S k67 67 w' w.heap.size (fun k_ => some k_ ≠ (u156000 : Value).ownBlock ∧ k_ ≠ gb154 ∧ k_ ≠ gb155) u5 x5_1) ∧ Aside0 (Kd.R k93 93 w' w.heap.size (fun _ => True) u156000 x156000_2) ∧ Aside0 (w'.heap[gb154]? = some (.cells #[(.slice A153_0 ((rd_T67 l1 x14_1).f0).length c153_0), .int .i64 ((rd_T67 l1 x14_1).f1), .int .i64 ((rd_T67 l1 x14_1).f2), .int .i64 ((rd_T67 l1 x14_1).f3), .int .i64 ((rd_T67 l1 x14_1).f4)] 67 (0, 0))) ∧ Aside0 (w'.heap[gb155]? = some (.cells #[u156000, .int .i64 0, .int .i64 0, .int .i64 0, .int .i64 0] 67 (0, 0))) ∧ Aside0 (Below w.heap.size w w'))
    case atStart => exact ⟨(0), (([] : List (S93))), (.slice none 0 0), (by rfl), H', ⟨Nat.le_refl _⟩, ⟨Kd.S_st (Kd.S_mono (Kd.S_far (p := ⟨gb155, 4, none⟩) (Kd.S_far (p := ⟨gb155, 3, none⟩) (Kd.S_far (p := ⟨gb155, 2, none⟩) (Kd.S_far (p := ⟨gb155, 1, none⟩) (Kd.S_far (p := ⟨gb155, 0, none⟩) (Kd.S_mono HO_5.out (fun k_ hk => (⟨hk, hk.2⟩ : _ ∧ k_ ≠ gb155))) (fun _ hk => hk.2) (.slice none 0 0)) (fun _ hk => hk.2) (.int .i64 0)) (fun _ hk => hk.2) (.int .i64 0)) (fun _ hk => hk.2) (.int .i64 0)) (fun _ hk => hk.2) (.int .i64 0)) (fun _ hk => ⟨(by simp [Value.ownBlock]), ⟨hk.1.1.2, hk.1.2⟩⟩))⟩, ⟨by exact Kd.R_nil _ _ _ _ _⟩, ⟨by (with_reducible skip); refine blk_far ?_ NB154_155.out _; (with_reducible skip); refine blk_far ?_ NB154_155.out _; (with_reducible skip); refine blk_far ?_ NB154_155.out _; (with_reducible skip); refine blk_far ?_ NB154_155.out _; (with_reducible skip); refine blk_far ?_ NB154_155.out _; (with_reducible skip); exact BK154.out⟩, ⟨by (with_reducible skip); refine blk_put (cs := #[.slice none 0 0, .int .i64 0, .int .i64 0, .int .i64 0, .int .i64 0]) ?_ 4 _ rfl; (with_reducible skip); refine blk_put (cs := #[.slice none 0 0, .int .i64 0, .int .i64 0, .int .i64 0, .int .i64 0]) ?_ 3 _ rfl; (with_reducible skip); refine blk_put (cs := #[.slice none 0 0, .int .i64 0, .int .i64 0, .int .i64 0, .int .i64 0]) ?_ 2 _ rfl; (with_reducible skip); refine blk_put (cs := #[.slice none 0 0, .int .i64 0, .int .i64 0, .int .i64 0, .int .i64 0]) ?_ 1 _ rfl; (with_reducible skip); refine blk_put (cs := #[.slice none 0 0, .int .i64 0, .int .i64 0, .int .i64 0, .int .i64 0]) ?_ 0 _ rfl; (with_reducible skip); exact BK155.out⟩, ⟨by with_reducible repeat first | exact HB.out | refine bS_ ?_ GE155.out⟩⟩
    case round =>
     clear H'
     obtain ⟨x22_2, x156000_2, u156000, rfl, HA, HK2, HO_5, HO_156000, BK154, BK155, HB⟩ := hrel
     cases gk with
     | zero => exact absurd HA.out (by simp [p_PatchDeepCopy.l1])
     | succ k2 =>
      have H := HA.out; clear HA
      simp only [p_PatchDeepCopy.l1] at H
      by_cases c14 : x22_2 < (((rd_T67 l1 x14_1).f0).length : Int)
      ·rw [if_pos c14] at H
       have c14b0 := decide_eq_true c14
       clear c14
       replace H := yes_ H; obtain ⟨c15, H⟩ := H
       have c15b0 := decide_eq_true c15
       clear c15
       replace H := yes_ H; obtain ⟨c16, H⟩ := H
       have c16b0 := decide_eq_true c16
       clear c16
       replace H := yes_ H; obtain ⟨c17, H⟩ := H
       have LMc17 := Aside0.mk c17
       clear c17
       obtain ⟨y158, hy158⟩ : ∃ y_ : List (S93), y_ = (x156000_2 ++ [(⟨(rd_T93 ((rd_T67 l1 x14_1).f0) x22_2).f0, (rd_T93 ((rd_T67 l1 x14_1).f0) x22_2).f1⟩ : S93)]) := ⟨_, rfl⟩
       replace H : (p_PatchDeepCopy.l1 k2 x5_1 l1 (l1.length : Int) x14_1 ((rd_T67 l1 x14_1).f0) (((rd_T67 l1 x14_1).f0).length : Int) (wrap64 (x22_2 + 1)) ((rd_T67 l1 x14_1).f0) ((rd_T67 l1 x14_1).f1) ((rd_T67 l1 x14_1).f2) ((rd_T67 l1 x14_1).f3) ((rd_T67 l1 x14_1).f4) y158 0 0 0 0) = some r := by (rw [hy158]; with_reducible exact H)
       have Ny158 := Aside0.mk hy158
       clear hy158
       have H' := Aside0.mk H
       clear H
       have p156 : 0 ≤ (x22_2 : Int) := of_decide_eq_true (by assumption)
       have q156 : x22_2 < (((rd_T67 l1 x14_1).f0).length : Int) := of_decide_eq_true (by assumption)
       obtain ⟨ad156, e156, hx156_0, hx156_1⟩ := at_T93 HR153_0.out x22_2 p156 q156
       cases e156
       replace hx156_0 := (HB.out.cell (World.block_lt_of_cell? w _ hx156_0)).trans hx156_0
       replace hx156_1 := (HB.out.cell (World.block_lt_of_cell? w _ hx156_1)).trans hx156_1
       replace p156 := eq_true p156
       replace q156 := eq_true q156
       go_wp2_with (first | ((with_reducible refine gate_dst (N := 10) rfl ?_); refine box_event ?hg (N := 10) ?hd (cs := #[.int .i8 0, .string (⟨#[]⟩ : ByteArray)]) (t := 93) ?hr ?_; (case hd => rfl); (case hg => rfl); (case hr => (go_simp; done)); intro gb157 hg w18 hbox hb; replace HO_5 := aS_ (Kd.S_below (Kd.S_elderB (Kd.S_st HO_5.out) gb157 (Nat.le_of_eq hg.symm)) hb); replace HO_156000 := aS_ (Kd.R_below (Kd.R_elderB (Kd.R_st HO_156000.out) gb157 (Nat.le_of_eq hg.symm)) hb); have BK157 := aS_ (hbox); have GW157 := aS_ ((by rw [hg]; exact (bz_ (by with_reducible repeat exact HB.out)) : w.heap.size ≤ gb157)); have GE157 := aS_ ((by rw [hg]; exact (bz_ (by with_reducible repeat exact HB.out)) : w.heap.size ≤ gb157)); replace HB := aS_ (bt_ (by with_reducible repeat exact HB.out) hb); have NB154_157 := aS_ ((by rw [hg]; exact Nat.ne_of_lt (blk_lt (g := gb154) (o := .cells #[.slice (some ad156) ((rd_T67 l1 x14_1).f0).length c153_0, .int .i64 ((rd_T67 l1 x14_1).f1), .int .i64 ((rd_T67 l1 x14_1).f2), .int .i64 ((rd_T67 l1 x14_1).f3), .int .i64 ((rd_T67 l1 x14_1).f4)] 67 (0, 0)) (blk_st BK154.out)) : gb154 ≠ gb157)); have NB157_154 := aS_ ((by rw [hg]; exact Nat.ne_of_gt (blk_lt (g := gb154) (o := .cells #[.slice (some ad156) ((rd_T67 l1 x14_1).f0).length c153_0, .int .i64 ((rd_T67 l1 x14_1).f1), .int .i64 ((rd_T67 l1 x14_1).f2), .int .i64 ((rd_T67 l1 x14_1).f3), .int .i64 ((rd_T67 l1 x14_1).f4)] 67 (0, 0)) (blk_st BK154.out)) : gb157 ≠ gb154)); replace BK154 := aS_ (blk_below (g := gb154) (o := .cells #[.slice (some ad156) ((rd_T67 l1 x14_1).f0).length c153_0, .int .i64 ((rd_T67 l1 x14_1).f1), .int .i64 ((rd_T67 l1 x14_1).f2), .int .i64 ((rd_T67 l1 x14_1).f3), .int .i64 ((rd_T67 l1 x14_1).f4)] 67 (0, 0)) (blk_st BK154.out) hb); have NB155_157 := aS_ ((by rw [hg]; exact Nat.ne_of_lt (blk_lt (g := gb155) (o := .cells #[u156000, .int .i64 0, .int .i64 0, .int .i64 0, .int .i64 0] 67 (0, 0)) (blk_st BK155.out)) : gb155 ≠ gb157)); have NB157_155 := aS_ ((by rw [hg]; exact Nat.ne_of_gt (blk_lt (g := gb155) (o := .cells #[u156000, .int .i64 0, .int .i64 0, .int .i64 0, .int .i64 0] 67 (0, 0)) (blk_st BK155.out)) : gb157 ≠ gb155)); replace BK155 := aS_ (blk_below (g := gb155) (o := .cells #[u156000, .int .i64 0, .int .i64 0, .int .i64 0, .int .i64 0] 67 (0, 0)) (blk_st BK155.out) hb); clear hb hbox hg; have hnb19 := NB157_154.out; have hnc19 := NB154_157.out; have hnb20 := NB157_155.out; have hnc20 := NB155_157.out; obtain ⟨hcz21_0, hcz21_1, hfz21_0, hfz21_1⟩ := blk2 BK157.out; have hnb22 := NB155_154.out; have hnc22 := NB154_155.out; obtain ⟨hcz23_0, hcz23_1, hcz23_2, hcz23_3, hcz23_4, hfz23_0, hfz23_1, hfz23_2, hfz23_3, hfz23_4⟩ := blk5 BK155.out) | ((with_reducible refine gate_builtin (b := .append) (xs := #[.tmp 27, .tmp 33]) rfl ?_); at_builtin; refine Kd.R_append k93 (w0 := w) w.heap.size rfl (.tmp 27) (.tmp 33) 65 93 (.agg #[(.int .i8 0), (.string ⟨#[]⟩)]) 24 rfl Tryz.underlying65 info93 rfl (by decide) (by omega) u156000 x156000_2 (⟨(rd_T93 ((rd_T67 l1 x14_1).f0) x22_2).f0, (rd_T93 ((rd_T67 l1 x14_1).f0) x22_2).f1⟩ : S93) [.int .i8 ((rd_T93 ((rd_T67 l1 x14_1).f0) x22_2).f0), .string ((rd_T93 ((rd_T67 l1 x14_1).f0) x22_2).f1)] (fun k_ => k_ ≠ gb157) (fun _ => False) rfl (by (go_simp; done)) ?aP (fun _ hk => hk.elim) ?aF ?aO ?aB ?aS ?aL ?_; (case aP => exact k93_mkM _ _ _ (⟨(rd_T93 ((rd_T67 l1 x14_1).f0) x22_2).f0, (rd_T93 ((rd_T67 l1 x14_1).f0) x22_2).f1⟩ : S93)); (case aB => exact (by with_reducible repeat first | exact HB.out | refine bS_ ?_ GE157.out)); (case aF => exact (fun k_ hk => Kd.freshB (g := gb157) (o := .cells #[.int .i8 ((rd_T93 ((rd_T67 l1 x14_1).f0) x22_2).f0), .string ((rd_T93 ((rd_T67 l1 x14_1).f0) x22_2).f1)] 93 (0, 0)) (by (with_reducible skip); refine blk_put (cs := #[.int .i8 ((rd_T93 ((rd_T67 l1 x14_1).f0) x22_2).f0), .string (⟨#[]⟩ : ByteArray)]) ?_ 1 _ rfl; (with_reducible skip); refine blk_put (cs := #[.int .i8 0, .string (⟨#[]⟩ : ByteArray)]) ?_ 0 _ rfl; (with_reducible skip); exact BK157.out) k_ hk)); (case aO => exact (Kd.R_st (Kd.R_mono (Kd.R_far (p := ⟨gb157, 1, none⟩) (Kd.R_far (p := ⟨gb157, 0, none⟩) (Kd.R_mono HO_156000.out (fun k_ hk => (⟨hk, hk.2⟩ : _ ∧ k_ ≠ gb157))) (fun _ hk => hk.2) (.int .i8 ((rd_T93 ((rd_T67 l1 x14_1).f0) x22_2).f0))) (fun _ hk => hk.2) (.string ((rd_T93 ((rd_T67 l1 x14_1).f0) x22_2).f1))) (fun _ hk => hk.1.2)))); (case aS => exact (bz_ (by with_reducible repeat first | exact HB.out | refine bS_ ?_ GE157.out))); (case aL => have := LMc17.out; omega); intro v159 w24 ho hb hg hat; rw [← Ny158.out] at ho; replace HO_5 := aS_ (Kd.S_after (ok := (fun k_ => k_ ≠ gb154 ∧ k_ ≠ gb155 ∧ k_ ≠ gb157)) (Kd.S_st (Kd.S_mono (Kd.S_far (p := ⟨gb157, 1, none⟩) (Kd.S_far (p := ⟨gb157, 0, none⟩) (Kd.S_mono HO_5.out (fun k_ hk => (⟨hk, hk.2⟩ : _ ∧ k_ ≠ gb157))) (fun _ hk => hk.2) (.int .i8 ((rd_T93 ((rd_T67 l1 x14_1).f0) x22_2).f0))) (fun _ hk => hk.2) (.string ((rd_T93 ((rd_T67 l1 x14_1).f0) x22_2).f1))) (fun _ hk => ⟨⟨hk.1.1.2.1, ⟨hk.1.1.2.2, hk.1.2⟩⟩, hk.1.1.1⟩))) hg hat); replace BK154 := aS_ (blk_grown (g := gb154) (o := .cells #[.slice (some ad156) ((rd_T67 l1 x14_1).f0).length c153_0, .int .i64 ((rd_T67 l1 x14_1).f1), .int .i64 ((rd_T67 l1 x14_1).f2), .int .i64 ((rd_T67 l1 x14_1).f3), .int .i64 ((rd_T67 l1 x14_1).f4)] 67 (0, 0)) (by (with_reducible skip); refine blk_far ?_ NB154_157.out _; (with_reducible skip); refine blk_far ?_ NB154_157.out _; (with_reducible skip); exact BK154.out) hg (Kd.R_ne HO_156000.out BK154.out (by decide))); replace BK155 := aS_ (blk_grown (g := gb155) (o := .cells #[u156000, .int .i64 0, .int .i64 0, .int .i64 0, .int .i64 0] 67 (0, 0)) (by (with_reducible skip); refine blk_far ?_ NB155_157.out _; (with_reducible skip); refine blk_far ?_ NB155_157.out _; (with_reducible skip); exact BK155.out) hg (Kd.R_ne HO_156000.out BK155.out (by decide))); replace BK157 := aS_ (blk_grown (g := gb157) (o := .cells #[.int .i8 ((rd_T93 ((rd_T67 l1 x14_1).f0) x22_2).f0), .string ((rd_T93 ((rd_T67 l1 x14_1).f0) x22_2).f1)] 93 (0, 0)) (by (with_reducible skip); refine blk_put (cs := #[.int .i8 ((rd_T93 ((rd_T67 l1 x14_1).f0) x22_2).f0), .string (⟨#[]⟩ : ByteArray)]) ?_ 1 _ rfl; (with_reducible skip); refine blk_put (cs := #[.int .i8 0, .string (⟨#[]⟩ : ByteArray)]) ?_ 0 _ rfl; (with_reducible skip); exact BK157.out) hg (Kd.R_away HO_156000.out (fun _ hk => hk.2))); replace HB := aS_ (hb); have HO160 := aS_ (ho); clear HO_156000; clear ho hb hg hat; obtain ⟨Ao25, co25, eo25⟩ := Kd.R_slice HO160.out; subst eo25; obtain ⟨hcz26_0, hcz26_1, hcz26_2, hcz26_3, hcz26_4, hfz26_0, hfz26_1, hfz26_2, hfz26_3, hfz26_4⟩ := blk5 BK155.out))
       go_roundg k2
       case measure => have := HK1.out; have := HK2.out; omega
       case rel => exact ⟨(wrap64 (x22_2 + 1)), (y158), (.slice Ao25 y158.length co25), (by rfl), H', ⟨by have := HK1.out; have := HK2.out; omega⟩, ⟨Kd.S_st (Kd.S_mono (Kd.S_far (p := ⟨gb155, 0, none⟩) (Kd.S_mono HO_5.out (fun k_ hk => (⟨hk, hk.1.2.1⟩ : _ ∧ k_ ≠ gb155))) (fun _ hk => hk.2) (.slice Ao25 y158.length co25)) (fun _ hk => ⟨hk.1.2, ⟨hk.1.1.1, hk.1.1.2.1⟩⟩))⟩, ⟨Kd.R_st (Kd.R_mono (Kd.R_far (p := ⟨gb155, 0, none⟩) (Kd.R_types HO160.out BK155.out (by decide)) (fun _ hk => hk.2) (.slice Ao25 y158.length co25)) (fun _ hk => trivial))⟩, ⟨by (with_reducible skip); refine blk_far ?_ NB154_155.out _; (with_reducible skip); exact BK154.out⟩, ⟨by (with_reducible skip); refine blk_put (cs := #[u156000, .int .i64 0, .int .i64 0, .int .i64 0, .int .i64 0]) ?_ 0 _ rfl; (with_reducible skip); exact BK155.out⟩, ⟨by with_reducible repeat first | exact HB.out | refine bS_ ?_ GE155.out⟩⟩
      ·rw [if_neg c14] at H
       have c14b0 := decide_eq_false c14
       clear c14
       replace H := yes_ H; obtain ⟨c27, H⟩ := H
       have LMc27 := Aside0.mk c27
       clear c27
       obtain ⟨y161, hy161⟩ : ∃ y_ : List (S67), y_ = (x5_1 ++ [(⟨x156000_2, ((rd_T67 l1 x14_1).f1), ((rd_T67 l1 x14_1).f2), ((rd_T67 l1 x14_1).f3), ((rd_T67 l1 x14_1).f4)⟩ : S67)]) := ⟨_, rfl⟩
       replace H : (p_PatchDeepCopy.l0 k2 y161 l1 (l1.length : Int) (wrap64 (x14_1 + 1))) = some r := by (rw [hy161]; with_reducible exact H)
       have Ny161 := Aside0.mk hy161
       clear hy161
       have H' := Aside0.mk H
       clear H
       have hnb28 := NB154_155.out
       have hnc28 := NB155_154.out
       obtain ⟨hcz29_0, hcz29_1, hcz29_2, hcz29_3, hcz29_4, hfz29_0, hfz29_1, hfz29_2, hfz29_3, hfz29_4⟩ := blk5 BK154.out
       obtain ⟨hcz30_0, hcz30_1, hcz30_2, hcz30_3, hcz30_4, hfz30_0, hfz30_1, hfz30_2, hfz30_3, hfz30_4⟩ := blk5 BK155.out
       go_wp2_with (first | ((with_reducible refine gate_store (t := 3) (p := 39) rfl ?_); refine store_event (t := 3) (p := 39) (v := ?vo_w31) (w1 := (wr.setCell ⟨gb155, 1, none⟩ (.int .i64 ((rd_T67 l1 x14_1).f1)))) ?hg ?ho ?hn ?hr ?_; (case ho => rfl); (case hg => rfl); (case hn => rfl); (case hr => (go_simp; done)); intro w31 hw; have n0_ : Aside0 (Kd.S k67 67 w31 w.heap.size (fun k_ => some k_ ≠ (u156000 : Value).ownBlock ∧ k_ ≠ gb154 ∧ k_ ≠ gb155) u5 x5_1) := ⟨(by rw [hw]; exact (Kd.S_st (Kd.S_mono (Kd.S_far (p := ⟨gb155, 1, none⟩) (Kd.S_mono HO_5.out (fun k_ hk => (⟨hk, hk.2.2⟩ : _ ∧ k_ ≠ gb155))) (fun _ hk => hk.2) (.int .i64 ((rd_T67 l1 x14_1).f1))) (fun _ hk => ⟨hk.1.1, ⟨hk.1.2.1, hk.1.2.2⟩⟩))))⟩; have n1_ : Aside0 (Kd.R k93 93 w31 w.heap.size (fun _ => True) u156000 x156000_2) := ⟨(by rw [hw]; exact (Kd.R_st (Kd.R_mono (Kd.R_far (p := ⟨gb155, 1, none⟩) (Kd.R_types HO_156000.out BK155.out (by decide)) (fun _ hk => hk.2) (.int .i64 ((rd_T67 l1 x14_1).f1))) (fun _ hk => trivial))))⟩; have n2_ : Aside0 (w31.heap[gb154]? = some (.cells #[.slice A153_0 ((rd_T67 l1 x14_1).f0).length c153_0, .int .i64 ((rd_T67 l1 x14_1).f1), .int .i64 ((rd_T67 l1 x14_1).f2), .int .i64 ((rd_T67 l1 x14_1).f3), .int .i64 ((rd_T67 l1 x14_1).f4)] 67 (0, 0))) := ⟨(by rw [hw]; exact (by (with_reducible skip); refine blk_far ?_ NB154_155.out _; (with_reducible skip); exact BK154.out))⟩; have n3_ : Aside0 (w31.heap[gb155]? = some (.cells #[u156000, .int .i64 ((rd_T67 l1 x14_1).f1), .int .i64 0, .int .i64 0, .int .i64 0] 67 (0, 0))) := ⟨(by rw [hw]; exact (by (with_reducible skip); refine blk_put (cs := #[u156000, .int .i64 0, .int .i64 0, .int .i64 0, .int .i64 0]) ?_ 1 _ rfl; (with_reducible skip); exact BK155.out))⟩; have n4_ : Aside0 (Below w.heap.size w w31) := ⟨(by rw [hw]; exact (by with_reducible repeat first | exact HB.out | refine bS_ ?_ GE155.out))⟩; clear hw; clear HO_5; clear HO_156000; clear BK154; clear BK155; clear HB; have HO_5 := n0_; have HO_156000 := n1_; have BK154 := n2_; have BK155 := n3_; have HB := n4_; clear n0_ n1_ n2_ n3_ n4_; obtain ⟨hcz32_0, hcz32_1, hcz32_2, hcz32_3, hcz32_4, hfz32_0, hfz32_1, hfz32_2, hfz32_3, hfz32_4⟩ := blk5 BK154.out; obtain ⟨hcz33_0, hcz33_1, hcz33_2, hcz33_3, hcz33_4, hfz33_0, hfz33_1, hfz33_2, hfz33_3, hfz33_4⟩ := blk5 BK155.out) | ((with_reducible refine gate_store (t := 3) (p := 42) rfl ?_); refine store_event (t := 3) (p := 42) (v := ?vo_w34) (w1 := (w31.setCell ⟨gb155, 2, none⟩ (.int .i64 ((rd_T67 l1 x14_1).f2)))) ?hg ?ho ?hn ?hr ?_; (case ho => rfl); (case hg => rfl); (case hn => rfl); (case hr => (go_simp; done)); intro w34 hw; have n0_ : Aside0 (Kd.S k67 67 w34 w.heap.size (fun k_ => some k_ ≠ (u156000 : Value).ownBlock ∧ k_ ≠ gb154 ∧ k_ ≠ gb155) u5 x5_1) := ⟨(by rw [hw]; exact (Kd.S_st (Kd.S_mono (Kd.S_far (p := ⟨gb155, 2, none⟩) (Kd.S_mono HO_5.out (fun k_ hk => (⟨hk, hk.2.2⟩ : _ ∧ k_ ≠ gb155))) (fun _ hk => hk.2) (.int .i64 ((rd_T67 l1 x14_1).f2))) (fun _ hk => ⟨hk.1.1, ⟨hk.1.2.1, hk.1.2.2⟩⟩))))⟩; have n1_ : Aside0 (Kd.R k93 93 w34 w.heap.size (fun _ => True) u156000 x156000_2) := ⟨(by rw [hw]; exact (Kd.R_st (Kd.R_mono (Kd.R_far (p := ⟨gb155, 2, none⟩) (Kd.R_types HO_156000.out BK155.out (by decide)) (fun _ hk => hk.2) (.int .i64 ((rd_T67 l1 x14_1).f2))) (fun _ hk => trivial))))⟩; have n2_ : Aside0 (w34.heap[gb154]? = some (.cells #[.slice A153_0 ((rd_T67 l1 x14_1).f0).length c153_0, .int .i64 ((rd_T67 l1 x14_1).f1), .int .i64 ((rd_T67 l1 x14_1).f2), .int .i64 ((rd_T67 l1 x14_1).f3), .int .i64 ((rd_T67 l1 x14_1).f4)] 67 (0, 0))) := ⟨(by rw [hw]; exact (by (with_reducible skip); refine blk_far ?_ NB154_155.out _; (with_reducible skip); exact BK154.out))⟩; have n3_ : Aside0 (w34.heap[gb155]? = some (.cells #[u156000, .int .i64 ((rd_T67 l1 x14_1).f1), .int .i64 ((rd_T67 l1 x14_1).f2), .int .i64 0, .int .i64 0] 67 (0, 0))) := ⟨(by rw [hw]; exact (by (with_reducible skip); refine blk_put (cs := #[u156000, .int .i64 ((rd_T67 l1 x14_1).f1), .int .i64 0, .int .i64 0, .int .i64 0]) ?_ 2 _ rfl; (with_reducible skip); exact BK155.out))⟩; have n4_ : Aside0 (Below w.heap.size w w34) := ⟨(by rw [hw]; exact (by with_reducible repeat first | exact HB.out | refine bS_ ?_ GE155.out))⟩; clear hw; clear HO_5; clear HO_156000; clear BK154; clear BK155; clear HB; have HO_5 := n0_; have HO_156000 := n1_; have BK154 := n2_; have BK155 := n3_; have HB := n4_; clear n0_ n1_ n2_ n3_ n4_; obtain ⟨hcz35_0, hcz35_1, hcz35_2, hcz35_3, hcz35_4, hfz35_0, hfz35_1, hfz35_2, hfz35_3, hfz35_4⟩ := blk5 BK154.out; obtain ⟨hcz36_0, hcz36_1, hcz36_2, hcz36_3, hcz36_4, hfz36_0, hfz36_1, hfz36_2, hfz36_3, hfz36_4⟩ := blk5 BK155.out) | ((with_reducible refine gate_store (t := 3) (p := 45) rfl ?_); refine store_event (t := 3) (p := 45) (v := ?vo_w37) (w1 := (w34.setCell ⟨gb155, 3, none⟩ (.int .i64 ((rd_T67 l1 x14_1).f3)))) ?hg ?ho ?hn ?hr ?_; (case ho => rfl); (case hg => rfl); (case hn => rfl); (case hr => (go_simp; done)); intro w37 hw; have n0_ : Aside0 (Kd.S k67 67 w37 w.heap.size (fun k_ => some k_ ≠ (u156000 : Value).ownBlock ∧ k_ ≠ gb154 ∧ k_ ≠ gb155) u5 x5_1) := ⟨(by rw [hw]; exact (Kd.S_st (Kd.S_mono (Kd.S_far (p := ⟨gb155, 3, none⟩) (Kd.S_mono HO_5.out (fun k_ hk => (⟨hk, hk.2.2⟩ : _ ∧ k_ ≠ gb155))) (fun _ hk => hk.2) (.int .i64 ((rd_T67 l1 x14_1).f3))) (fun _ hk => ⟨hk.1.1, ⟨hk.1.2.1, hk.1.2.2⟩⟩))))⟩; have n1_ : Aside0 (Kd.R k93 93 w37 w.heap.size (fun _ => True) u156000 x156000_2) := ⟨(by rw [hw]; exact (Kd.R_st (Kd.R_mono (Kd.R_far (p := ⟨gb155, 3, none⟩) (Kd.R_types HO_156000.out BK155.out (by decide)) (fun _ hk => hk.2) (.int .i64 ((rd_T67 l1 x14_1).f3))) (fun _ hk => trivial))))⟩; have n2_ : Aside0 (w37.heap[gb154]? = some (.cells #[.slice A153_0 ((rd_T67 l1 x14_1).f0).length c153_0, .int .i64 ((rd_T67 l1 x14_1).f1), .int .i64 ((rd_T67 l1 x14_1).f2), .int .i64 ((rd_T67 l1 x14_1).f3), .int .i64 ((rd_T67 l1 x14_1).f4)] 67 (0, 0))) := ⟨(by rw [hw]; exact (by (with_reducible skip); refine blk_far ?_ NB154_155.out _; (with_reducible skip); exact BK154.out))⟩; have n3_ : Aside0 (w37.heap[gb155]? = some (.cells #[u156000, .int .i64 ((rd_T67 l1 x14_1).f1), .int .i64 ((rd_T67 l1 x14_1).f2), .int .i64 ((rd_T67 l1 x14_1).f3), .int .i64 0] 67 (0, 0))) := ⟨(by rw [hw]; exact (by (with_reducible skip); refine blk_put (cs := #[u156000, .int .i64 ((rd_T67 l1 x14_1).f1), .int .i64 ((rd_T67 l1 x14_1).f2), .int .i64 0, .int .i64 0]) ?_ 3 _ rfl; (with_reducible skip); exact BK155.out))⟩; have n4_ : Aside0 (Below w.heap.size w w37) := ⟨(by rw [hw]; exact (by with_reducible repeat first | exact HB.out | refine bS_ ?_ GE155.out))⟩; clear hw; clear HO_5; clear HO_156000; clear BK154; clear BK155; clear HB; have HO_5 := n0_; have HO_156000 := n1_; have BK154 := n2_; have BK155 := n3_; have HB := n4_; clear n0_ n1_ n2_ n3_ n4_; obtain ⟨hcz38_0, hcz38_1, hcz38_2, hcz38_3, hcz38_4, hfz38_0, hfz38_1, hfz38_2, hfz38_3, hfz38_4⟩ := blk5 BK154.out; obtain ⟨hcz39_0, hcz39_1, hcz39_2, hcz39_3, hcz39_4, hfz39_0, hfz39_1, hfz39_2, hfz39_3, hfz39_4⟩ := blk5 BK155.out) | ((with_reducible refine gate_store (t := 3) (p := 48) rfl ?_); refine store_event (t := 3) (p := 48) (v := ?vo_w40) (w1 := (w37.setCell ⟨gb155, 4, none⟩ (.int .i64 ((rd_T67 l1 x14_1).f4)))) ?hg ?ho ?hn ?hr ?_; (case ho => rfl); (case hg => rfl); (case hn => rfl); (case hr => (go_simp; done)); intro w40 hw; have n0_ : Aside0 (Kd.S k67 67 w40 w.heap.size (fun k_ => some k_ ≠ (u156000 : Value).ownBlock ∧ k_ ≠ gb154 ∧ k_ ≠ gb155) u5 x5_1) := ⟨(by rw [hw]; exact (Kd.S_st (Kd.S_mono (Kd.S_far (p := ⟨gb155, 4, none⟩) (Kd.S_mono HO_5.out (fun k_ hk => (⟨hk, hk.2.2⟩ : _ ∧ k_ ≠ gb155))) (fun _ hk => hk.2) (.int .i64 ((rd_T67 l1 x14_1).f4))) (fun _ hk => ⟨hk.1.1, ⟨hk.1.2.1, hk.1.2.2⟩⟩))))⟩; have n1_ : Aside0 (Kd.R k93 93 w40 w.heap.size (fun _ => True) u156000 x156000_2) := ⟨(by rw [hw]; exact (Kd.R_st (Kd.R_mono (Kd.R_far (p := ⟨gb155, 4, none⟩) (Kd.R_types HO_156000.out BK155.out (by decide)) (fun _ hk => hk.2) (.int .i64 ((rd_T67 l1 x14_1).f4))) (fun _ hk => trivial))))⟩; have n2_ : Aside0 (w40.heap[gb154]? = some (.cells #[.slice A153_0 ((rd_T67 l1 x14_1).f0).length c153_0, .int .i64 ((rd_T67 l1 x14_1).f1), .int .i64 ((rd_T67 l1 x14_1).f2), .int .i64 ((rd_T67 l1 x14_1).f3), .int .i64 ((rd_T67 l1 x14_1).f4)] 67 (0, 0))) := ⟨(by rw [hw]; exact (by (with_reducible skip); refine blk_far ?_ NB154_155.out _; (with_reducible skip); exact BK154.out))⟩; have n3_ : Aside0 (w40.heap[gb155]? = some (.cells #[u156000, .int .i64 ((rd_T67 l1 x14_1).f1), .int .i64 ((rd_T67 l1 x14_1).f2), .int .i64 ((rd_T67 l1 x14_1).f3), .int .i64 ((rd_T67 l1 x14_1).f4)] 67 (0, 0))) := ⟨(by rw [hw]; exact (by (with_reducible skip); refine blk_put (cs := #[u156000, .int .i64 ((rd_T67 l1 x14_1).f1), .int .i64 ((rd_T67 l1 x14_1).f2), .int .i64 ((rd_T67 l1 x14_1).f3), .int .i64 0]) ?_ 4 _ rfl; (with_reducible skip); exact BK155.out))⟩; have n4_ : Aside0 (Below w.heap.size w w40) := ⟨(by rw [hw]; exact (by with_reducible repeat first | exact HB.out | refine bS_ ?_ GE155.out))⟩; clear hw; clear HO_5; clear HO_156000; clear BK154; clear BK155; clear HB; have HO_5 := n0_; have HO_156000 := n1_; have BK154 := n2_; have BK155 := n3_; have HB := n4_; clear n0_ n1_ n2_ n3_ n4_; obtain ⟨hcz41_0, hcz41_1, hcz41_2, hcz41_3, hcz41_4, hfz41_0, hfz41_1, hfz41_2, hfz41_3, hfz41_4⟩ := blk5 BK155.out; obtain ⟨Ao43, co43, eo43⟩ := Kd.R_slice HO_156000.out; subst eo43) | ((with_reducible refine gate_builtin (b := .append) (xs := #[.tmp 49, .tmp 51]) rfl ?_); at_builtin; refine Kd.S_append k67 (w0 := w) w.heap.size rfl (.tmp 49) (.tmp 51) 52 67 (.agg #[(.slice none 0 0), (.int .i64 0), (.int .i64 0), (.int .i64 0), (.int .i64 0)]) 56 rfl Tryz.underlying52 info67 rfl (by decide) (by omega) u5 x5_1 (⟨x156000_2, ((rd_T67 l1 x14_1).f1), ((rd_T67 l1 x14_1).f2), ((rd_T67 l1 x14_1).f3), ((rd_T67 l1 x14_1).f4)⟩ : S67) [.slice Ao43 x156000_2.length co43, .int .i64 ((rd_T67 l1 x14_1).f1), .int .i64 ((rd_T67 l1 x14_1).f2), .int .i64 ((rd_T67 l1 x14_1).f3), .int .i64 ((rd_T67 l1 x14_1).f4)] (fun k_ => k_ ≠ gb154 ∧ k_ ≠ gb155) (fun k_ => some k_ = (.slice Ao43 x156000_2.length co43 : Value).ownBlock) rfl rfl ?aP (fun k_ hk_ => ((Kd.R_mono (ok' := fun k_ => ((fun k_ => k_ ≠ gb154 ∧ k_ ≠ gb155)) k_ ∧ some k_ ≠ (u5 : Value).ownBlock) (Kd.R_types (Kd.R_types (Kd.R_apart' (HO_156000.out) (Kd.S_typed HO_5.out) (by decide)) BK154.out (by decide)) BK155.out (by decide)) (fun k_ hk => ⟨⟨hk.1.2, hk.2⟩, hk.1.1.2⟩))).1 k_ hk_.symm) ?aF ?aO ?aB ?aS ?aL ?_; (case aP => exact k67_mkM _ _ _ (⟨x156000_2, ((rd_T67 l1 x14_1).f1), ((rd_T67 l1 x14_1).f2), ((rd_T67 l1 x14_1).f3), ((rd_T67 l1 x14_1).f4)⟩ : S67) (Kd.R_mono (Kd.R_tight rfl (Kd.R_mono (ok' := fun k_ => ((fun k_ => k_ ≠ gb154 ∧ k_ ≠ gb155)) k_ ∧ some k_ ≠ (u5 : Value).ownBlock) (Kd.R_types (Kd.R_types (Kd.R_apart' (HO_156000.out) (Kd.S_typed HO_5.out) (by decide)) BK154.out (by decide)) BK155.out (by decide)) (fun k_ hk => ⟨⟨hk.1.2, hk.2⟩, hk.1.1.2⟩))) (fun _ h_ => h_))); (case aB => exact (by with_reducible repeat exact HB.out)); (case aF => exact (fun k_ hk => ⟨Kd.freshB (g := gb154) (o := .cells #[.slice A153_0 ((rd_T67 l1 x14_1).f0).length c153_0, .int .i64 ((rd_T67 l1 x14_1).f1), .int .i64 ((rd_T67 l1 x14_1).f2), .int .i64 ((rd_T67 l1 x14_1).f3), .int .i64 ((rd_T67 l1 x14_1).f4)] 67 (0, 0)) (blk_st BK154.out) k_ hk, Kd.freshB (g := gb155) (o := .cells #[.slice Ao43 x156000_2.length co43, .int .i64 ((rd_T67 l1 x14_1).f1), .int .i64 ((rd_T67 l1 x14_1).f2), .int .i64 ((rd_T67 l1 x14_1).f3), .int .i64 ((rd_T67 l1 x14_1).f4)] 67 (0, 0)) (blk_st BK155.out) k_ hk⟩)); (case aO => exact (Kd.S_st (Kd.S_mono HO_5.out (fun k_ hk => ⟨⟨hk.2.1, hk.2.2⟩, fun e_ => hk.1 e_⟩)))); (case aS => exact (bz_ (by with_reducible repeat exact HB.out))); (case aL => have := LMc27.out; omega); intro v162 w42 ho hb hg hat; rw [← Ny161.out] at ho; replace BK154 := aS_ (blk_grown (g := gb154) (o := .cells #[.slice A153_0 ((rd_T67 l1 x14_1).f0).length c153_0, .int .i64 ((rd_T67 l1 x14_1).f1), .int .i64 ((rd_T67 l1 x14_1).f2), .int .i64 ((rd_T67 l1 x14_1).f3), .int .i64 ((rd_T67 l1 x14_1).f4)] 67 (0, 0)) (blk_st BK154.out) hg (Kd.S_away HO_5.out (fun _ hk => hk.2.1))); replace BK155 := aS_ (blk_grown (g := gb155) (o := .cells #[.slice Ao43 x156000_2.length co43, .int .i64 ((rd_T67 l1 x14_1).f1), .int .i64 ((rd_T67 l1 x14_1).f2), .int .i64 ((rd_T67 l1 x14_1).f3), .int .i64 ((rd_T67 l1 x14_1).f4)] 67 (0, 0)) (blk_st BK155.out) hg (Kd.S_away HO_5.out (fun _ hk => hk.2.2))); replace HB := aS_ (hb); have HO163 := aS_ (ho); clear HO_5 HO_156000; clear ho hb hg hat))
       go_roundg k2
       case measure => have := HK1.out; have := HK2.out; omega
       case rel => exact ⟨(y161), (wrap64 (x14_1 + 1)), (by rfl), H', ⟨by have := HK1.out; have := HK2.out; omega⟩, ⟨Kd.S_st (Kd.S_mono HO163.out (fun _ hk => trivial))⟩, ⟨by with_reducible repeat exact HB.out⟩⟩
   ·rw [if_neg c5] at H
    have c5b0 := decide_eq_false c5
    clear c5
    obtain rfl := Option.some.inj H
    go_wp2
    go_ret
    exact ⟨_, by rfl, Kd.S_st HO_5.out, bel_ HB.out⟩
def q_MakePatch.f (l0 : List (S93)) (a1 : Int) (a2 : Int) (a3 : Int) (a4 : Int) : Option ((List (S93)) × Int × Int × Int × Int) := some (l0, a1, a2, a3, a4)
theorem q_MakePatch.calls (P0_ : Nat → Prop) (u9000_ : Value) (l0 : List (S93)) (a1 : Int) (a2 : Int) (a3 : Int) (a4 : Int) (r1 : List (S93)) (r2 : Int) (r3 : Int) (r4 : Int) (r5 : Int) (w0 w : World) (hB : Below w0.heap.size w0 w) (ho0 : Kd.R k93 93 w w0.heap.size P0_ u9000_ l0) (h : q_MakePatch.f l0 a1 a2 a3 a4 = some (r1, r2, r3, r4, r5)) :
  Calls Tryz.prog 48 #[u9000_, .int .i64 a1, .int .i64 a2, .int .i64 a3, .int .i64 a4] w fun e w' => ∃ v0_ : Value, e = .returned (.agg #[v0_, .int .i64 r2, .int .i64 r3, .int .i64 r4, .int .i64 r5]) ∧ Kd.R k93 93 w' w0.heap.size (fun k_ => (P0_ k_ ∨ w.heap.size ≤ k_)) v0_ r1 ∧ Below w0.heap.size w0 w' ∧ Kept w w' (fun k_ => P0_ k_) := by
 have hu67 := Tryz.underlying67
 have HO0 := aS_ (show Kd.R k93 93 w w0.heap.size (fun k_ => (P0_ k_ ∨ w.heap.size ≤ k_)) u9000_ l0 from Kd.R_mono ho0 (fun k_ hk => (.inl hk)))
 have HK := aS_ (Kept.refl w (fun k_ => P0_ k_))
 have HW0 := Aside0.mk hB.size
 have HB := Aside0.mk hB
 clear hB
 have H : (some (l0, a1, a2, a3, a4)) = some (r1, r2, r3, r4, r5) := h
 clear h
 simp only [Option.some.injEq, Prod.mk.injEq] at H
 obtain ⟨rfl, rfl, rfl, rfl, rfl⟩ := H
 go_enter Tryz.func48, Tryz.ntmps48
 go_wp2_with (((with_reducible refine gate_dst (N := 10) rfl ?_); refine box_event ?hg (N := 10) ?hd (cs := #[.slice none 0 0, .int .i64 0, .int .i64 0, .int .i64 0, .int .i64 0]) (t := 67) ?hr ?_; (case hd => rfl); (case hg => rfl); (case hr => (go_simp; done)); intro gb874 hg w6 hbox hb; replace HO0 := aS_ (Kd.R_below (Kd.R_st HO0.out) hb); have BK874 := aS_ (hbox); have GW874 := aS_ ((by rw [hg]; exact (by exact HK.out.1) : w.heap.size ≤ gb874)); replace HK := aS_ (Kept.below (S := (fun k_ => P0_ k_)) (by repeat ((with_reducible exact HK.out))) hb); have GE874 := aS_ ((by rw [hg]; exact (bz_ (bel_ HB.out)) : w0.heap.size ≤ gb874)); replace HB := aS_ (bt_ (bel_ HB.out) hb); clear hb hbox hg; obtain ⟨Ao7, co7, eo7⟩ := Kd.R_slice HO0.out; subst eo7; obtain ⟨hcz8_0, hcz8_1, hcz8_2, hcz8_3, hcz8_4, hfz8_0, hfz8_1, hfz8_2, hfz8_3, hfz8_4⟩ := blk5 BK874.out))
 refine bodyPost_ret (results_cell_row rfl _ _ gb874 67 #[.slice Ao7 l0.length co7, .int .i64 a1, .int .i64 a2, .int .i64 a3, .int .i64 a4] (0, 0) _ rfl (by (with_reducible skip); refine blk_put (cs := #[.slice Ao7 l0.length co7, .int .i64 a1, .int .i64 a2, .int .i64 a3, .int .i64 0]) ?_ 4 _ rfl; (with_reducible skip); refine blk_put (cs := #[.slice Ao7 l0.length co7, .int .i64 a1, .int .i64 a2, .int .i64 0, .int .i64 0]) ?_ 3 _ rfl; (with_reducible skip); refine blk_put (cs := #[.slice Ao7 l0.length co7, .int .i64 a1, .int .i64 0, .int .i64 0, .int .i64 0]) ?_ 2 _ rfl; (with_reducible skip); refine blk_put (cs := #[.slice Ao7 l0.length co7, .int .i64 0, .int .i64 0, .int .i64 0, .int .i64 0]) ?_ 1 _ rfl; (with_reducible skip); refine blk_put (cs := #[.slice none 0 0, .int .i64 0, .int .i64 0, .int .i64 0, .int .i64 0]) ?_ 0 _ rfl; (with_reducible skip); exact BK874.out) Tryz.underlying67 rfl (by kernel_rfl)) rfl ?_
 exact ⟨_, by rfl, Kd.R_st (Kd.R_mono (Kd.R_far (p := ⟨gb874, 4, none⟩) (Kd.R_far (p := ⟨gb874, 3, none⟩) (Kd.R_far (p := ⟨gb874, 2, none⟩) (Kd.R_far (p := ⟨gb874, 1, none⟩) (Kd.R_far (p := ⟨gb874, 0, none⟩) (Kd.R_types HO0.out BK874.out (by decide)) (fun _ hk => hk.2) (.slice Ao7 l0.length co7)) (fun _ hk => hk.2) (.int .i64 a1)) (fun _ hk => hk.2) (.int .i64 a2)) (fun _ hk => hk.2) (.int .i64 a3)) (fun _ hk => hk.2) (.int .i64 a4)) (fun _ hk => hk.1)), by with_reducible repeat first | exact HB.out | refine bS_ ?_ GE874.out, by repeat ((with_reducible first | exact HK.out | refine Kept.setCell ?_ (.inr GW874.out) _))⟩
def impl_diffs.l0 : Nat → List (S93) → List (S70) → Int → Int → Option ((List (S93)))
 | 0, _, _, _, _ => none
 | k + 1, x3, x6, x7, x8 => if x8 < x7 then (if 0 ≤ x8 then (if x8 < (x6.length : Int) then (if x3.length < 5864062014805 then (impl_diffs.l0 k (x3 ++ [(⟨IntKind.i8.wrap ((rd_T70 x6 x8).f0), (rd_T70 x6 x8).f1⟩ : S93)]) x6 x7 (wrap64 (x8 + 1))) else (none)) else (none)) else (none)) else (some x3)
def impl_diffs.f (k : Nat) (l0 : List (S70)) : Option ((List (S93))) := impl_diffs.l0 k ([] : List (S93)) l0 (l0.length : Int) 0
theorem impl_diffs.calls (k : Nat) (A0 : Option Addr) (c0 : Nat) (l0 : List (S70)) (r : List (S93)) (w : World) (hr0 : Kd.C k70 w A0 l0.length l0) (hc0 : l0.length ≤ c0) (h : impl_diffs.f k l0 = some r) :
  Calls Tryz.prog 49 #[.slice A0 l0.length c0] w fun e w' => ∃ v0_ : Value, e = .returned (v0_) ∧ Kd.R k93 93 w' w.heap.size (fun _ => True) v0_ r ∧ Below w.heap.size w w' := by
 have hu70 := Tryz.underlying70
 have hu93 := Tryz.underlying93
 have HR0 := Aside0.mk hr0
 have HC0 := Aside0.mk hc0
 clear hr0 hc0
 have HB := aS_ (Below.refl w.heap.size w)
 have H : (impl_diffs.l0 k ([] : List (S93)) l0 (l0.length : Int) 0) = some r := h
 clear h
 have H' := Aside0.mk H
 clear H
 go_enter Tryz.func49, Tryz.ntmps49
 go_wp2
 go_loopg [3, 8] k (fun kq v3 v8 w' => ∃ (x3_1 : List (S93)) (x8_1 : Int), v8 = .int .i64 x8_1 ∧ Aside0 (impl_diffs.l0 kq x3_1 l0 (l0.length : Int) x8_1 = some r) ∧ Aside0 (kq ≤ k) ∧ Aside0 (Kd.R k93 93 w' w.heap.size (fun _ => True) v3 x3_1) ∧ Aside0 (Below w.heap.size w w'))
 case atStart => exact ⟨(([] : List (S93))), (0), (by rfl), H', ⟨Nat.le_refl _⟩, ⟨by exact Kd.R_nil _ _ _ _ _⟩, ⟨bel_ HB.out⟩⟩
 case round =>
  clear H'
  obtain ⟨x3_1, x8_1, rfl, HA, HK1, HO_3, HB⟩ := hrel
  cases gk with
  | zero => exact absurd HA.out (by simp [impl_diffs.l0])
  | succ k1 =>
   have H := HA.out; clear HA
   simp only [impl_diffs.l0] at H
   by_cases c2 : x8_1 < (l0.length : Int)
   ·rw [if_pos c2] at H
    have c2b0 := decide_eq_true c2
    clear c2
    replace H := yes_ H; obtain ⟨c3, H⟩ := H
    have c3b0 := decide_eq_true c3
    clear c3
    replace H := yes_ H; obtain ⟨c4, H⟩ := H
    have c4b0 := decide_eq_true c4
    clear c4
    replace H := yes_ H; obtain ⟨c5, H⟩ := H
    have LMc5 := Aside0.mk c5
    clear c5
    obtain ⟨y877, hy877⟩ : ∃ y_ : List (S93), y_ = (x3_1 ++ [(⟨IntKind.i8.wrap ((rd_T70 l0 x8_1).f0), (rd_T70 l0 x8_1).f1⟩ : S93)]) := ⟨_, rfl⟩
    replace H : (impl_diffs.l0 k1 y877 l0 (l0.length : Int) (wrap64 (x8_1 + 1))) = some r := by (rw [hy877]; with_reducible exact H)
    have Ny877 := Aside0.mk hy877
    clear hy877
    have H' := Aside0.mk H
    clear H
    have p875 : 0 ≤ (x8_1 : Int) := of_decide_eq_true (by assumption)
    have q875 : x8_1 < (l0.length : Int) := of_decide_eq_true (by assumption)
    obtain ⟨ad875, e875, hx875_0, hx875_1⟩ := at_T70 HR0.out x8_1 p875 q875
    cases e875
    replace hx875_0 := (HB.out.cell (World.block_lt_of_cell? w _ hx875_0)).trans hx875_0
    replace hx875_1 := (HB.out.cell (World.block_lt_of_cell? w _ hx875_1)).trans hx875_1
    replace p875 := eq_true p875
    replace q875 := eq_true q875
    go_wp2_with (first | ((with_reducible refine gate_dst (N := 5) rfl ?_); refine box_event ?hg (N := 5) ?hd (cs := #[.int .i64 0, .string (⟨#[]⟩ : ByteArray)]) (t := 70) ?hr ?_; (case hd => rfl); (case hg => rfl); (case hr => (go_simp; done)); intro gb876 hg w6 hbox hb; replace HO_3 := aS_ (Kd.R_below (Kd.R_st HO_3.out) hb); have BK876 := aS_ (hbox); have GW876 := aS_ ((by rw [hg]; exact (bz_ (bel_ HB.out)) : w.heap.size ≤ gb876)); have GE876 := aS_ ((by rw [hg]; exact (bz_ (bel_ HB.out)) : w.heap.size ≤ gb876)); replace HB := aS_ (bt_ (bel_ HB.out) hb); clear hb hbox hg; obtain ⟨hcz7_0, hcz7_1, hfz7_0, hfz7_1⟩ := blk2 BK876.out) | ((with_reducible refine gate_builtin (b := .append) (xs := #[.tmp 12, .tmp 19]) rfl ?_); at_builtin; refine Kd.R_append k93 (w0 := w) w.heap.size rfl (.tmp 12) (.tmp 19) 65 93 (.agg #[(.int .i8 0), (.string ⟨#[]⟩)]) 24 rfl Tryz.underlying65 info93 rfl (by decide) (by omega) u3 x3_1 (⟨IntKind.i8.wrap ((rd_T70 l0 x8_1).f0), (rd_T70 l0 x8_1).f1⟩ : S93) [.int .i8 (IntKind.i8.wrap ((rd_T70 l0 x8_1).f0)), .string ((rd_T70 l0 x8_1).f1)] (fun _ => True) (fun _ => False) rfl (by (go_simp; done)) ?aP (fun _ hk => hk.elim) ?aF ?aO ?aB ?aS ?aL ?_; (case aP => exact k93_mkM _ _ _ (⟨IntKind.i8.wrap ((rd_T70 l0 x8_1).f0), (rd_T70 l0 x8_1).f1⟩ : S93)); (case aB => exact (by with_reducible repeat first | exact HB.out | refine bS_ ?_ GE876.out)); (case aF => exact (fun _ _ => trivial)); (case aO => exact (Kd.R_st (Kd.R_mono (Kd.R_far (p := ⟨gb876, 1, none⟩) (Kd.R_far (p := ⟨gb876, 0, none⟩) (Kd.R_types HO_3.out BK876.out (by decide)) (fun _ hk => hk.2) (.int .i64 ((rd_T70 l0 x8_1).f0))) (fun _ hk => hk.2) (.string ((rd_T70 l0 x8_1).f1))) (fun _ hk => trivial)))); (case aS => exact (bz_ (by with_reducible repeat first | exact HB.out | refine bS_ ?_ GE876.out))); (case aL => have := LMc5.out; omega); intro v878 w8 ho hb hg hat; rw [← Ny877.out] at ho; replace BK876 := aS_ (blk_grown (g := gb876) (o := .cells #[.int .i64 ((rd_T70 l0 x8_1).f0), .string ((rd_T70 l0 x8_1).f1)] 70 (0, 0)) (by (with_reducible skip); refine blk_put (cs := #[.int .i64 ((rd_T70 l0 x8_1).f0), .string (⟨#[]⟩ : ByteArray)]) ?_ 1 _ rfl; (with_reducible skip); refine blk_put (cs := #[.int .i64 0, .string (⟨#[]⟩ : ByteArray)]) ?_ 0 _ rfl; (with_reducible skip); exact BK876.out) hg (Kd.R_ne HO_3.out BK876.out (by decide))); replace HB := aS_ (hb); have HO879 := aS_ (ho); clear HO_3; clear ho hb hg hat))
    go_roundg k1
    case measure => have := HK1.out; omega
    case rel => exact ⟨(y877), (wrap64 (x8_1 + 1)), (by rfl), H', ⟨by have := HK1.out; omega⟩, ⟨Kd.R_st HO879.out⟩, ⟨by with_reducible repeat exact HB.out⟩⟩
   ·rw [if_neg c2] at H
    have c2b0 := decide_eq_false c2
    clear c2
    obtain rfl := Option.some.inj H
    go_wp2
    go_ret
    exact ⟨_, by rfl, Kd.R_st HO_3.out, bel_ HB.out⟩
def impl_patch.f (k : Nat) (a0_0 : Int) (a0_1 : Int) (a0_2 : Int) (a0_3 : Int) (l0_4 : List (S70)) : Option ((List (S93)) × Int × Int × Int × Int) := (impl_diffs.f k l0_4).bind fun t882 => ((q_MakePatch.f t882 a0_0 a0_1 a0_2 a0_3).bind fun bt885 => (some (bt885.1, bt885.2.1, bt885.2.2.1, bt885.2.2.2.1, bt885.2.2.2.2)))
def impl_patch.T1 : Bool × List (List Nat × List Nat) := (true, [([], []), ([0], [0]), ([1], [1]), ([], []), ([3], [3]), ([], []), ([5], [5]), ([], []), ([7], [7]), ([], []), ([9], [9]), ([2, 4, 6, 8, 10, 2], [2, 4, 6, 8, 10]), ([11, 11, 0, 1, 2, 3, 4, 5, 6, 7, 8, 9, 10, 11], [11])])
def impl_patch.B1 : List Nat := [0, 1, 3, 0, 8, 0, 32, 0, 128, 0, 512, 2047, 4095]
theorem impl_patch.tab1 : rtab .any (opsOf Tryz.f27 1) = impl_patch.T1 := by kernel_rfl
theorem impl_patch.bits1 : waitsOk impl_patch.T1.2 impl_patch.B1 = true := by kernel_rfl
theorem impl_patch.calls (k : Nat) (a0_0 : Int) (a0_1 : Int) (a0_2 : Int) (a0_3 : Int) (A0_4 : Option Addr) (c0_4 : Nat) (l0_4 : List (S70)) (r1 : List (S93)) (r2 : Int) (r3 : Int) (r4 : Int) (r5 : Int) (w : World) (hr0_4 : Kd.C k70 w A0_4 l0_4.length l0_4) (hc0_4 : l0_4.length ≤ c0_4) (h : impl_patch.f k a0_0 a0_1 a0_2 a0_3 l0_4 = some (r1, r2, r3, r4, r5)) :
  Calls Tryz.prog 27 #[.agg #[.int .i64 a0_0, .int .i64 a0_1, .int .i64 a0_2, .int .i64 a0_3, .slice A0_4 l0_4.length c0_4]] w fun e w' => ∃ v0_ : Value, e = .returned (.agg #[v0_, .int .i64 r2, .int .i64 r3, .int .i64 r4, .int .i64 r5]) ∧ Kd.R k93 93 w' w.heap.size (fun _ => True) v0_ r1 ∧ Below w.heap.size w w' := by
 have hu33 := Tryz.underlying33
 have hu67 := Tryz.underlying67
 have HR0_4 := Aside0.mk hr0_4
 have HC0_4 := Aside0.mk hc0_4
 clear hr0_4 hc0_4
 have HB := aS_ (Below.refl w.heap.size w)
 have H : ((impl_diffs.f k l0_4).bind fun t882 => ((q_MakePatch.f t882 a0_0 a0_1 a0_2 a0_3).bind fun bt885 => (some (bt885.1, bt885.2.1, bt885.2.2.1, bt885.2.2.2.1, bt885.2.2.2.2)))) = some (r1, r2, r3, r4, r5) := h
 clear h
 replace H := Option.bind_eq_some_iff.mp H
 obtain ⟨t882, A20, H⟩ := H
 have A2 := Aside0.mk A20
 clear A20
 replace H := Option.bind_eq_some_iff.mp H
 obtain ⟨⟨t885, t888, t889, t890, t891⟩, A30, H⟩ := H
 try dsimp only at H
 have A3 := Aside0.mk A30
 clear A30
 simp only [Option.some.injEq, Prod.mk.injEq] at H
 obtain ⟨rfl, rfl, rfl, rfl, rfl⟩ := H
 go_enter Tryz.func27, Tryz.ntmps27
 try go_wp2_with (first | ((with_reducible refine gate_dst (N := 1) rfl ?_); refine box_event ?hg (N := 1) ?hd (cs := #[.int .i64 a0_0, .int .i64 a0_1, .int .i64 a0_2, .int .i64 a0_3, .slice A0_4 l0_4.length c0_4]) (t := 33) ?hr ?_; (case hd => rfl); (case hg => rfl); (case hr => (go_simp; done)); intro gb880 hg w4 hbox hb; have BK880 := aS_ (hbox); have GW880 := aS_ ((by rw [hg]; exact (bz_ (bel_ HB.out)) : w.heap.size ≤ gb880)); have GE880 := aS_ ((by rw [hg]; exact (bz_ (bel_ HB.out)) : w.heap.size ≤ gb880)); replace HB := aS_ (bt_ (bel_ HB.out) hb); clear hb hbox hg) | ((with_reducible refine gate_dst (N := 2) rfl ?_); refine box_event ?hg (N := 2) ?hd (cs := #[.slice none 0 0, .int .i64 0, .int .i64 0, .int .i64 0, .int .i64 0]) (t := 67) ?hr ?_; (case hd => rfl); (case hg => rfl); (case hr => (go_simp; done)); intro gb881 hg w5 hbox hb; have BK881 := aS_ (hbox); have GW881 := aS_ ((by rw [hg]; exact (bz_ (by with_reducible repeat exact HB.out)) : w.heap.size ≤ gb881)); have GE881 := aS_ ((by rw [hg]; exact (bz_ (by with_reducible repeat exact HB.out)) : w.heap.size ≤ gb881)); replace HB := aS_ (bt_ (by with_reducible repeat exact HB.out) hb); have NB880_881 := aS_ ((by rw [hg]; exact Nat.ne_of_lt (blk_lt (g := gb880) (o := .cells #[.int .i64 a0_0, .int .i64 a0_1, .int .i64 a0_2, .int .i64 a0_3, .slice A0_4 l0_4.length c0_4] 33 (0, 0)) (blk_st BK880.out)) : gb880 ≠ gb881)); have NB881_880 := aS_ ((by rw [hg]; exact Nat.ne_of_gt (blk_lt (g := gb880) (o := .cells #[.int .i64 a0_0, .int .i64 a0_1, .int .i64 a0_2, .int .i64 a0_3, .slice A0_4 l0_4.length c0_4] 33 (0, 0)) (blk_st BK880.out)) : gb881 ≠ gb880)); replace BK880 := aS_ (blk_below (g := gb880) (o := .cells #[.int .i64 a0_0, .int .i64 a0_1, .int .i64 a0_2, .int .i64 a0_3, .slice A0_4 l0_4.length c0_4] 33 (0, 0)) (blk_st BK880.out) hb); clear hb hbox hg))
 replace BK880 := aS_ (kD_ BK880.out)
 replace BK881 := aS_ (kD_ BK881.out)
 replace HB := aS_ (bD_ HB.out)
 refine sA_ (fun w' => w'.cell? ⟨gb880, 0, none⟩ = some (.int .i64 a0_0) ∧ w'.cell? ⟨gb880, 1, none⟩ = some (.int .i64 a0_1) ∧ w'.cell? ⟨gb880, 2, none⟩ = some (.int .i64 a0_2) ∧ w'.cell? ⟨gb880, 3, none⟩ = some (.int .i64 a0_3) ∧ w'.cell? ⟨gb880, 4, none⟩ = some (.slice A0_4 l0_4.length c0_4)) [] impl_patch.tab1 impl_patch.bits1 ⟨(bc_ BK880.out 0).trans rfl, (bc_ BK880.out 1).trans rfl, (bc_ BK880.out 2).trans rfl, (bc_ BK880.out 3).trans rfl, (bc_ BK880.out 4).trans rfl⟩ (fun hHeld HT_ HW_ => ?_)
 generalize w5.drew = w6 at BK880 BK881 HB hHeld ⊢
 refine pA_ 0 (h:=pA_ 3 (h:=pA_ 5 (h:=pA_ 7 (h:=pA_ 9 (h:=tA_ 1 (h:=tA_ 4 (h:=tA_ 6 (h:=tA_ 8 (h:=tA_ 10 (h:=?_))))))))))
 refine oA_ 2 (some 5) (h:=fun K hK => ?_)
 refine goes_ Tryz.func49 (by kernel_rfl) rfl #[.slice A0_4 l0_4.length c0_4] (by rfl) rfl rfl (by (try simp only [List.map_toArray, List.map_cons, List.map_nil]); rfl) ?_
 with_reducible refine (impl_diffs.calls k _ _ l0_4 t882 _ ?side1 ?side2 A2.out).mono ?_
 (case side1 => repeat (exact (Kd.C_below HR0_4.out HB.out)))
 (case side2 => exact HC0_4.out)
 rintro e w7 ⟨v883, rfl, ho0, hb⟩
 refine ⟨_, rfl, ?_⟩
 have HO884 := aS_ (Kd.R_lower ho0 (bz_ (by with_reducible repeat exact HB.out)))
 replace BK880 := aS_ (blk_below (g := gb880) (o := .cells #[.int .i64 a0_0, .int .i64 a0_1, .int .i64 a0_2, .int .i64 a0_3, .slice A0_4 l0_4.length c0_4] 33 (0, 0)) (blk_st BK880.out) hb)
 replace BK881 := aS_ (blk_below (g := gb881) (o := .cells #[.slice none 0 0, .int .i64 0, .int .i64 0, .int .i64 0, .int .i64 0] 67 (0, 0)) (blk_st BK881.out) hb)
 replace HB := aS_ (bt_ (by with_reducible repeat exact HB.out) hb)
 obtain ⟨Ao8, co8, eo8⟩ := Kd.R_slice HO884.out
 (subst eo8)
 refine hK.out _ _ ⟨(bc_ BK880.out 0).trans rfl, (bc_ BK880.out 1).trans rfl, (bc_ BK880.out 2).trans rfl, (bc_ BK880.out 3).trans rfl, (bc_ BK880.out 4).trans rfl⟩ (fun hHeld => ?_)
 clear hK K
 refine nA_ (h:=?_)
 refine oA_ 11 (some 14) (h:=fun K hK => ?_)
 refine goes_ Tryz.func48 (by kernel_rfl) rfl #[.slice Ao8 t882.length co8, .int .i64 a0_0, .int .i64 a0_1, .int .i64 a0_2, .int .i64 a0_3] (by rfl) rfl rfl (by (try simp only [List.map_toArray, List.map_cons, List.map_nil]); rfl) ?_
 with_reducible refine (q_MakePatch.calls (fun k_ => some k_ = (.slice Ao8 t882.length co8 : Value).ownBlock) (.slice Ao8 t882.length co8) t882 a0_0 a0_1 a0_2 a0_3 t885 t888 t889 t890 t891 w _ ?side1 ?side2 A3.out).mono ?_
 (case side1 => repeat ((with_reducible exact HB.out)))
 (case side2 => exact Kd.R_tight rfl HO884.out)
 rintro e w9 ⟨v886, rfl, ho0, hb, hkp⟩
 refine ⟨_, rfl, ?_⟩
 replace BK880 := aS_ (blk_kept (blk_st BK880.out) hkp (fun hs_ => (fun e_ => (Kd.R_ne HO884.out BK880.out (by decide)) e_) hs_))
 replace BK881 := aS_ (blk_kept (blk_st BK881.out) hkp (fun hs_ => (fun e_ => (Kd.R_ne HO884.out BK881.out (by decide)) e_) hs_))
 have HO887 := aS_ (Kd.R_mono (ok' := fun k_ => True) ho0 (fun k_ hk_ => trivial))
 replace HB := aS_ (hb)
 clear HO884
 obtain ⟨Ao10, co10, eo10⟩ := Kd.R_slice HO887.out
 (subst eo10)
 refine hK.out _ _ ⟨(bc_ BK880.out 0).trans rfl, (bc_ BK880.out 1).trans rfl, (bc_ BK880.out 2).trans rfl, (bc_ BK880.out 3).trans rfl, (bc_ BK880.out 4).trans rfl⟩ (fun hHeld => ?_)
 clear hK K
 refine nA_ (h:=?_)
 refine oA_ 12 none (h:=fun K hK => ?_)
 have hs11 : w9.cell? ⟨gb881, 0, none⟩ = some (.slice none 0 0) := (bc_ BK881.out 0).trans rfl
 have hfs11 := bf_ BK881.out 0
 have hns11_0 := NB880_881.out
 have hms11_0 := NB881_880.out
 have hs12 : w9.cell? ⟨gb881, 1, none⟩ = some (.int .i64 0) := (bc_ BK881.out 1).trans rfl
 have hfs12 := bf_ BK881.out 1
 have hns12_0 := NB880_881.out
 have hms12_0 := NB881_880.out
 have hs13 : w9.cell? ⟨gb881, 2, none⟩ = some (.int .i64 0) := (bc_ BK881.out 2).trans rfl
 have hfs13 := bf_ BK881.out 2
 have hns13_0 := NB880_881.out
 have hms13_0 := NB881_880.out
 have hs14 : w9.cell? ⟨gb881, 3, none⟩ = some (.int .i64 0) := (bc_ BK881.out 3).trans rfl
 have hfs14 := bf_ BK881.out 3
 have hns14_0 := NB880_881.out
 have hms14_0 := NB881_880.out
 have hs15 : w9.cell? ⟨gb881, 4, none⟩ = some (.int .i64 0) := (bc_ BK881.out 4).trans rfl
 have hfs15 := bf_ BK881.out 4
 have hns15_0 := NB880_881.out
 have hms15_0 := NB881_880.out
 refine skip_ (w1 := ?_) (by rfl) rfl ?_ ?_
 rotate_left
 ·go_simp
  rfl
 refine hK.out _ _ ⟨((cell_far (p := ⟨gb881, _, none⟩) NB880_881.out _).trans (((cell_far (p := ⟨gb881, _, none⟩) NB880_881.out _).trans (((cell_far (p := ⟨gb881, _, none⟩) NB880_881.out _).trans (((cell_far (p := ⟨gb881, _, none⟩) NB880_881.out _).trans (((cell_far (p := ⟨gb881, _, none⟩) NB880_881.out _).trans (hHeld.1)))))))))), ((cell_far (p := ⟨gb881, _, none⟩) NB880_881.out _).trans (((cell_far (p := ⟨gb881, _, none⟩) NB880_881.out _).trans (((cell_far (p := ⟨gb881, _, none⟩) NB880_881.out _).trans (((cell_far (p := ⟨gb881, _, none⟩) NB880_881.out _).trans (((cell_far (p := ⟨gb881, _, none⟩) NB880_881.out _).trans (hHeld.2.1)))))))))), ((cell_far (p := ⟨gb881, _, none⟩) NB880_881.out _).trans (((cell_far (p := ⟨gb881, _, none⟩) NB880_881.out _).trans (((cell_far (p := ⟨gb881, _, none⟩) NB880_881.out _).trans (((cell_far (p := ⟨gb881, _, none⟩) NB880_881.out _).trans (((cell_far (p := ⟨gb881, _, none⟩) NB880_881.out _).trans (hHeld.2.2.1)))))))))), ((cell_far (p := ⟨gb881, _, none⟩) NB880_881.out _).trans (((cell_far (p := ⟨gb881, _, none⟩) NB880_881.out _).trans (((cell_far (p := ⟨gb881, _, none⟩) NB880_881.out _).trans (((cell_far (p := ⟨gb881, _, none⟩) NB880_881.out _).trans (((cell_far (p := ⟨gb881, _, none⟩) NB880_881.out _).trans (hHeld.2.2.2.1)))))))))), ((cell_far (p := ⟨gb881, _, none⟩) NB880_881.out _).trans (((cell_far (p := ⟨gb881, _, none⟩) NB880_881.out _).trans (((cell_far (p := ⟨gb881, _, none⟩) NB880_881.out _).trans (((cell_far (p := ⟨gb881, _, none⟩) NB880_881.out _).trans (((cell_far (p := ⟨gb881, _, none⟩) NB880_881.out _).trans (hHeld.2.2.2.2))))))))))⟩ (fun hHeld => ?_)
 clear hK K
 refine done_ (done_of HT_.out (by kernel_rfl)) ?_
 try go_wp2
 refine bodyPost_ret (results_cell_row rfl _ _ gb881 67 #[.slice Ao10 t885.length co10, .int .i64 t888, .int .i64 t889, .int .i64 t890, .int .i64 t891] (0, 0) _ rfl (by (with_reducible skip); refine blk_put (cs := #[.slice Ao10 t885.length co10, .int .i64 t888, .int .i64 t889, .int .i64 t890, .int .i64 0]) ?_ 4 _ rfl; (with_reducible skip); refine blk_put (cs := #[.slice Ao10 t885.length co10, .int .i64 t888, .int .i64 t889, .int .i64 0, .int .i64 0]) ?_ 3 _ rfl; (with_reducible skip); refine blk_put (cs := #[.slice Ao10 t885.length co10, .int .i64 t888, .int .i64 0, .int .i64 0, .int .i64 0]) ?_ 2 _ rfl; (with_reducible skip); refine blk_put (cs := #[.slice Ao10 t885.length co10, .int .i64 0, .int .i64 0, .int .i64 0, .int .i64 0]) ?_ 1 _ rfl; (with_reducible skip); refine blk_put (cs := #[.slice none 0 0, .int .i64 0, .int .i64 0, .int .i64 0, .int .i64 0]) ?_ 0 _ rfl; (with_reducible skip); exact BK881.out) Tryz.underlying67 rfl (by kernel_rfl)) rfl ?_
 exact ⟨_, by rfl, Kd.R_st (Kd.R_mono (Kd.R_far (p := ⟨gb881, 4, none⟩) (Kd.R_far (p := ⟨gb881, 3, none⟩) (Kd.R_far (p := ⟨gb881, 2, none⟩) (Kd.R_far (p := ⟨gb881, 1, none⟩) (Kd.R_far (p := ⟨gb881, 0, none⟩) (Kd.R_types HO887.out BK881.out (by decide)) (fun _ hk => hk.2) (.slice Ao10 t885.length co10)) (fun _ hk => hk.2) (.int .i64 t888)) (fun _ hk => hk.2) (.int .i64 t889)) (fun _ hk => hk.2) (.int .i64 t890)) (fun _ hk => hk.2) (.int .i64 t891)) (fun _ hk => trivial)), by with_reducible repeat first | exact HB.out | refine bS_ ?_ GE881.out⟩
def impl_patches.l0 : Nat → List (S67) → List (S33) → Int → Int → Option ((List (S67)))
 | 0, _, _, _, _ => none
 | k + 1, x3, x6, x7, x8 => if x8 < x7 then (if 0 ≤ x8 then (if x8 < (x6.length : Int) then ((impl_patch.f k ((rd_T33 x6 x8).f0) ((rd_T33 x6 x8).f1) ((rd_T33 x6 x8).f2) ((rd_T33 x6 x8).f3) ((rd_T33 x6 x8).f4)).bind fun bt894 => (if x3.length < 2513169434916 then (impl_patches.l0 k (x3 ++ [(⟨bt894.1, bt894.2.1, bt894.2.2.1, bt894.2.2.2.1, bt894.2.2.2.2⟩ : S67)]) x6 x7 (wrap64 (x8 + 1))) else (none))) else (none)) else (none)) else (some x3)
def impl_patches.f (k : Nat) (l0 : List (S33)) : Option ((List (S67))) := impl_patches.l0 k ([] : List (S67)) l0 (l0.length : Int) 0
theorem impl_patches.calls (k : Nat) (A0 : Option Addr) (c0 : Nat) (l0 : List (S33)) (r : List (S67)) (w : World) (hr0 : Kd.C k33 w A0 l0.length l0) (hc0 : l0.length ≤ c0) (h : impl_patches.f k l0 = some r) :
  Calls Tryz.prog 26 #[.slice A0 l0.length c0] w fun e w' => ∃ v0_ : Value, e = .returned (v0_) ∧ Kd.S k67 67 w' w.heap.size (fun _ => True) v0_ r ∧ Below w.heap.size w w' := by
 have hu33 := Tryz.underlying33
 have HR0 := Aside0.mk hr0
 have HC0 := Aside0.mk hc0
 clear hr0 hc0
 have HB := aS_ (Below.refl w.heap.size w)
 have H : (impl_patches.l0 k ([] : List (S67)) l0 (l0.length : Int) 0) = some r := h
 clear h
 have H' := Aside0.mk H
 clear H
 go_enter Tryz.func26, Tryz.ntmps26
 go_wp2
 go_loopg [3, 8] k (fun kq v3 v8 w' => ∃ (x3_1 : List (S67)) (x8_1 : Int), v8 = .int .i64 x8_1 ∧ Aside0 (impl_patches.l0 kq x3_1 l0 (l0.length : Int) x8_1 = some r) ∧ Aside0 (kq ≤ k) ∧ Aside0 (Kd.S k67 67 w' w.heap.size (fun _ => True) v3 x3_1) ∧ Aside0 (Below w.heap.size w w'))
 case atStart => exact ⟨(([] : List (S67))), (0), (by rfl), H', ⟨Nat.le_refl _⟩, ⟨by exact Kd.S_nil _ _ _ _ _⟩, ⟨bel_ HB.out⟩⟩
 case round =>
  clear H'
  obtain ⟨x3_1, x8_1, rfl, HA, HK1, HO_3, HB⟩ := hrel
  cases gk with
  | zero => exact absurd HA.out (by simp [impl_patches.l0])
  | succ k1 =>
   have H := HA.out; clear HA
   simp only [impl_patches.l0] at H
   by_cases c2 : x8_1 < (l0.length : Int)
   ·rw [if_pos c2] at H
    have c2b0 := decide_eq_true c2
    clear c2
    replace H := yes_ H; obtain ⟨c3, H⟩ := H
    have c3b0 := decide_eq_true c3
    clear c3
    replace H := yes_ H; obtain ⟨c4, H⟩ := H
    have c4b0 := decide_eq_true c4
    clear c4
    replace H := Option.bind_eq_some_iff.mp H
    obtain ⟨⟨t894, t897, t898, t899, t900⟩, A50, H⟩ := H
    try dsimp only at H
    have A5 := Aside0.mk A50
    clear A50
    replace H := yes_ H; obtain ⟨c6, H⟩ := H
    have LMc6 := Aside0.mk c6
    clear c6
    obtain ⟨y901, hy901⟩ : ∃ y_ : List (S67), y_ = (x3_1 ++ [(⟨t894, t897, t898, t899, t900⟩ : S67)]) := ⟨_, rfl⟩
    replace H : (impl_patches.l0 k1 y901 l0 (l0.length : Int) (wrap64 (x8_1 + 1))) = some r := by (rw [hy901]; with_reducible exact H)
    have Ny901 := Aside0.mk hy901
    clear hy901
    have H' := Aside0.mk H
    clear H
    have p892 : 0 ≤ (x8_1 : Int) := of_decide_eq_true (by assumption)
    have q892 : x8_1 < (l0.length : Int) := of_decide_eq_true (by assumption)
    obtain ⟨ad892, A892_4, c892_4, e892, hx892_0, hx892_1, hx892_2, hx892_3, hx892_4, hl892_4, hi892_4⟩ := at_T33 HR0.out x8_1 p892 q892
    cases e892
    replace hx892_0 := (HB.out.cell (World.block_lt_of_cell? w _ hx892_0)).trans hx892_0
    replace hx892_1 := (HB.out.cell (World.block_lt_of_cell? w _ hx892_1)).trans hx892_1
    replace hx892_2 := (HB.out.cell (World.block_lt_of_cell? w _ hx892_2)).trans hx892_2
    replace hx892_3 := (HB.out.cell (World.block_lt_of_cell? w _ hx892_3)).trans hx892_3
    replace hx892_4 := (HB.out.cell (World.block_lt_of_cell? w _ hx892_4)).trans hx892_4
    have HR892_4 := Aside0.mk hi892_4
    have HC892_4 := Aside0.mk hl892_4
    clear hi892_4 hl892_4
    replace p892 := eq_true p892
    replace q892 := eq_true q892
    go_wp2_with (first | ((with_reducible refine gate_dst (N := 5) rfl ?_); refine box_event ?hg (N := 5) ?hd (cs := #[.int .i64 0, .int .i64 0, .int .i64 0, .int .i64 0, .slice none 0 0]) (t := 33) ?hr ?_; (case hd => rfl); (case hg => rfl); (case hr => (go_simp; done)); intro gb893 hg w7 hbox hb; replace HO_3 := aS_ (Kd.S_below (Kd.S_st HO_3.out) hb); have BK893 := aS_ (hbox); have GW893 := aS_ ((by rw [hg]; exact (bz_ (bel_ HB.out)) : w.heap.size ≤ gb893)); have GE893 := aS_ ((by rw [hg]; exact (bz_ (bel_ HB.out)) : w.heap.size ≤ gb893)); replace HB := aS_ (bt_ (bel_ HB.out) hb); clear hb hbox hg; obtain ⟨hcz8_0, hcz8_1, hcz8_2, hcz8_3, hcz8_4, hfz8_0, hfz8_1, hfz8_2, hfz8_3, hfz8_4⟩ := blk5 BK893.out) | (go_at_call 27; (with_reducible refine (impl_patch.calls k1 ((rd_T33 l0 x8_1).f0) ((rd_T33 l0 x8_1).f1) ((rd_T33 l0 x8_1).f2) ((rd_T33 l0 x8_1).f3) _ _ ((rd_T33 l0 x8_1).f4) t894 t897 t898 t899 t900 _ ?side1 ?side2 A5.out).mono ?_); (case side1 => exact Kd.C_below HR892_4.out (by with_reducible repeat first | exact HB.out | refine bS_ ?_ GE893.out)); (case side2 => exact HC892_4.out); rintro e w9 ⟨v895, rfl, ho0, hb⟩; replace HO_3 := aS_ (Kd.S_elder' (Kd.S_st ((Kd.S_mono (Kd.S_far (p := ⟨gb893, 4, none⟩) (Kd.S_far (p := ⟨gb893, 3, none⟩) (Kd.S_far (p := ⟨gb893, 2, none⟩) (Kd.S_far (p := ⟨gb893, 1, none⟩) (Kd.S_far (p := ⟨gb893, 0, none⟩) (Kd.S_types HO_3.out BK893.out (by decide)) (fun _ hk => hk.2) (.int .i64 ((rd_T33 l0 x8_1).f0))) (fun _ hk => hk.2) (.int .i64 ((rd_T33 l0 x8_1).f1))) (fun _ hk => hk.2) (.int .i64 ((rd_T33 l0 x8_1).f2))) (fun _ hk => hk.2) (.int .i64 ((rd_T33 l0 x8_1).f3))) (fun _ hk => hk.2) (.slice A892_4 ((rd_T33 l0 x8_1).f4).length c892_4)) (fun _ h_ => h_.1)))) (Kd.R_base ho0) hb); have HO896 := aS_ (Kd.R_lower ho0 (bz_ (by with_reducible repeat first | exact HB.out | refine bS_ ?_ GE893.out))); replace BK893 := aS_ (blk_below (g := gb893) (o := .cells #[.int .i64 ((rd_T33 l0 x8_1).f0), .int .i64 ((rd_T33 l0 x8_1).f1), .int .i64 ((rd_T33 l0 x8_1).f2), .int .i64 ((rd_T33 l0 x8_1).f3), .slice A892_4 ((rd_T33 l0 x8_1).f4).length c892_4] 33 (0, 0)) (by (with_reducible skip); refine blk_put (cs := #[.int .i64 ((rd_T33 l0 x8_1).f0), .int .i64 ((rd_T33 l0 x8_1).f1), .int .i64 ((rd_T33 l0 x8_1).f2), .int .i64 ((rd_T33 l0 x8_1).f3), .slice none 0 0]) ?_ 4 _ rfl; (with_reducible skip); refine blk_put (cs := #[.int .i64 ((rd_T33 l0 x8_1).f0), .int .i64 ((rd_T33 l0 x8_1).f1), .int .i64 ((rd_T33 l0 x8_1).f2), .int .i64 0, .slice none 0 0]) ?_ 3 _ rfl; (with_reducible skip); refine blk_put (cs := #[.int .i64 ((rd_T33 l0 x8_1).f0), .int .i64 ((rd_T33 l0 x8_1).f1), .int .i64 0, .int .i64 0, .slice none 0 0]) ?_ 2 _ rfl; (with_reducible skip); refine blk_put (cs := #[.int .i64 ((rd_T33 l0 x8_1).f0), .int .i64 0, .int .i64 0, .int .i64 0, .slice none 0 0]) ?_ 1 _ rfl; (with_reducible skip); refine blk_put (cs := #[.int .i64 0, .int .i64 0, .int .i64 0, .int .i64 0, .slice none 0 0]) ?_ 0 _ rfl; (with_reducible skip); exact BK893.out) hb); replace HB := aS_ (bt_ (by with_reducible repeat first | exact HB.out | refine bS_ ?_ GE893.out) hb); obtain ⟨Ao11, co11, eo11⟩ := Kd.R_slice HO896.out; subst eo11) | ((with_reducible refine gate_builtin (b := .append) (xs := #[.tmp 12, .tmp 15]) rfl ?_); at_builtin; refine Kd.S_append k67 (w0 := w) w.heap.size rfl (.tmp 12) (.tmp 15) 52 67 (.agg #[(.slice none 0 0), (.int .i64 0), (.int .i64 0), (.int .i64 0), (.int .i64 0)]) 56 rfl Tryz.underlying52 info67 rfl (by decide) (by omega) u3 x3_1 (⟨t894, t897, t898, t899, t900⟩ : S67) [.slice Ao11 t894.length co11, .int .i64 t897, .int .i64 t898, .int .i64 t899, .int .i64 t900] (fun _ => True) (fun k_ => some k_ = (.slice Ao11 t894.length co11 : Value).ownBlock) rfl rfl ?aP (fun k_ hk_ => ((Kd.R_mono (ok' := fun k_ => ((fun _ => True)) k_ ∧ some k_ ≠ (u3 : Value).ownBlock) (Kd.R_apart' (HO896.out) (Kd.S_typed HO_3.out) (by decide)) (fun k_ hk => ⟨trivial, hk.2⟩))).1 k_ hk_.symm) ?aF ?aO ?aB ?aS ?aL ?_; (case aP => exact k67_mkM _ _ _ (⟨t894, t897, t898, t899, t900⟩ : S67) (Kd.R_mono (Kd.R_tight rfl (Kd.R_mono (ok' := fun k_ => ((fun _ => True)) k_ ∧ some k_ ≠ (u3 : Value).ownBlock) (Kd.R_apart' (HO896.out) (Kd.S_typed HO_3.out) (by decide)) (fun k_ hk => ⟨trivial, hk.2⟩))) (fun _ h_ => h_))); (case aB => exact (by with_reducible repeat exact HB.out)); (case aF => exact (fun _ _ => trivial)); (case aO => exact (Kd.S_st (Kd.S_mono HO_3.out (fun k_ hk => ⟨trivial, fun e_ => hk.2 e_⟩)))); (case aS => exact (bz_ (by with_reducible repeat exact HB.out))); (case aL => have := LMc6.out; omega); intro v902 w10 ho hb hg hat; rw [← Ny901.out] at ho; replace BK893 := aS_ (blk_grown (g := gb893) (o := .cells #[.int .i64 ((rd_T33 l0 x8_1).f0), .int .i64 ((rd_T33 l0 x8_1).f1), .int .i64 ((rd_T33 l0 x8_1).f2), .int .i64 ((rd_T33 l0 x8_1).f3), .slice A892_4 ((rd_T33 l0 x8_1).f4).length c892_4] 33 (0, 0)) (blk_st BK893.out) hg (Kd.S_ne HO_3.out BK893.out (by decide))); replace HB := aS_ (hb); have HO903 := aS_ (ho); clear HO_3 HO896; clear ho hb hg hat))
    go_roundg k1
    case measure => have := HK1.out; omega
    case rel => exact ⟨(y901), (wrap64 (x8_1 + 1)), (by rfl), H', ⟨by have := HK1.out; omega⟩, ⟨Kd.S_st HO903.out⟩, ⟨by with_reducible repeat exact HB.out⟩⟩
   ·rw [if_neg c2] at H
    have c2b0 := decide_eq_false c2
    clear c2
    obtain rfl := Option.some.inj H
    go_wp2
    go_ret
    exact ⟨_, by rfl, Kd.S_st HO_3.out, bel_ HB.out⟩
def mkD (d : S70) : S93 := ⟨IntKind.i8.wrap d.f0, d.f1⟩
def mkP (p : S33) : S67 := ⟨p.f4.map mkD, p.f0, p.f1, p.f2, p.f3⟩
theorem ev_idiffs (l : List S70) (hl : l.length ≤ 1000) : Ev (fun k => impl_diffs.f k l) (l.map mkD) := by
 have := fold_loop0 (fun k s i => impl_diffs.l0 k s l (l.length : Int) i) l (fun s x => s ++ [mkD x]) (fun i s => s.length = i) id [] rfl
  (fun i hi s hs => by simp [hs]) ?_ ?_
 ·rw [foldl_snoc] at this
  exact this
 ·intro s hs
  exact Ev.succ ⟨0, fun k _ => by simp only [impl_diffs.l0]; rw [if_neg (by omega)]; rfl⟩
 ·intro i hi s r hs hr
  refine Ev.succ ?_
  simp only [impl_diffs.l0]
  refine Ev.if_pos (by omega) (Ev.if_pos (by omega) (Ev.if_pos (by omega) (Ev.if_pos (by omega) ?_)))
  rw [w64s i (by omega)]
  simp only [rd_T70, getD_nat _ _ i hi]
  exact hr
theorem ev_ipatch (p : S33) (hd : p.f4.length ≤ 1000) : Ev (fun k => impl_patch.f k p.f0 p.f1 p.f2 p.f3 p.f4) ((mkP p).f0, (mkP p).f1, (mkP p).f2, (mkP p).f3, (mkP p).f4) := by
 simp only [impl_patch.f, q_MakePatch.f, Option.bind_some]
 exact Ev.bind (ev_idiffs _ hd) (Ev.const _)
theorem ev_ipatches (l : List S33) (hl : l.length ≤ 1000) (hd : ∀ p ∈ l, p.f4.length ≤ 1000) : Ev (fun k => impl_patches.f k l) (l.map mkP) := by
 have := fold_loop0 (fun k s i => impl_patches.l0 k s l (l.length : Int) i) l (fun s x => s ++ [mkP x]) (fun i s => s.length = i) id [] rfl
  (fun i hi s hs => by simp [hs]) ?_ ?_
 ·rw [foldl_snoc] at this
  exact this
 ·intro s hs
  exact Ev.succ ⟨0, fun k _ => by simp only [impl_patches.l0]; rw [if_neg (by omega)]; rfl⟩
 ·intro i hi s r hs hr
  refine Ev.succ ?_
  simp only [impl_patches.l0]
  refine Ev.if_pos (by omega) (Ev.if_pos (by omega) (Ev.if_pos (by omega) ?_))
  rw [w64s i (by omega)]
  simp only [rd_T33, getD_nat _ _ i hi]
  exact Ev.bind (ev_ipatch l[i] (hd _ (List.getElem_mem hi))) (Ev.if_pos (by omega) hr)
theorem foldl_same : ∀ (l s : List S93), l.foldl (fun s x => s ++ [⟨x.f0, x.f1⟩]) s = s ++ l
 | [], s => by simp
 | x :: l, s => by rw [List.foldl_cons, foldl_same l]; simp
theorem ev_copy (l : List S67) (hl : l.length ≤ 1000) (hd : ∀ p ∈ l, p.f0.length ≤ 1000) : Ev (fun k => p_PatchDeepCopy.f k 0 l) l := by
 have := fold_loop0 (fun k s i => p_PatchDeepCopy.l0 k s l (l.length : Int) i) l (fun s x => s ++ [id x]) (fun i s => s.length = i) id [] rfl
  (fun i hi s hs => by simp [hs]) ?_ ?_
 ·rw [foldl_snoc] at this
  simpa [p_PatchDeepCopy.f] using this
 ·intro s hs
  exact Ev.succ ⟨0, fun k _ => by simp only [p_PatchDeepCopy.l0]; rw [if_neg (by omega)]; rfl⟩
 ·intro i hi s r hs hr
  refine Ev.succ ?_
  simp only [p_PatchDeepCopy.l0]
  refine Ev.if_pos (by omega) (Ev.if_pos (by omega) (Ev.if_pos (by omega) ?_))
  simp only [rd_T67, getD_nat _ _ i hi]
  have hd' := hd _ (List.getElem_mem hi)
  refine go_loop (fun k t j => p_PatchDeepCopy.l1 k s l (l.length : Int) (i : Int) l[i].f0 (l[i].f0.length : Int) j l[i].f0 l[i].f1 l[i].f2 l[i].f3 l[i].f4 t 0 0 0 0) l[i].f0 (fun t x => t ++ [⟨x.f0, x.f1⟩]) (fun j t => t.length = j) r
   (fun j hj t ht => by simp [ht]) ?_ l[i].f0.length 0 [] (by omega) rfl ?_
  ·intro j hj t ht h
   refine Ev.succ ?_
   simp only [p_PatchDeepCopy.l1]
   refine Ev.if_pos (by omega) (Ev.if_pos (by omega) (Ev.if_pos (by omega) (Ev.if_pos (by omega) ?_)))
   rw [w64s j (by omega)]
   simp only [rd_T93, getD_nat _ _ j hj]
   exact h
  ·intro t et ht
   rw [List.drop_zero, foldl_same, List.nil_append] at et
   subst et
   refine Ev.succ ?_
   simp only [p_PatchDeepCopy.l1]
   refine Ev.if_neg (by omega) (Ev.if_pos (by omega) ?_)
   rw [w64s i (by omega)]
   exact hr
theorem okDiff_i8 {d : S70} (h : okDiff (toD d) = true) : IntKind.i8.wrap d.f0 = d.f0 := by
 have h0 := (okDiff_facts h).1
 simp only [toD] at h0
 rcases h0 with h | h | h <;> rw [h] <;> rfl
theorem mkP_conv {p : S33} (h : okPiece (toP p) = true) : mkP p = conv (toP p) := by
 have hd := (okPiece_facts h).2.2.2.2.2.1
 simp only [toP] at hd
 simp only [mkP, conv, toP, List.map_map, S67.mk.injEq, and_true]
 refine List.map_congr_left fun d hm => ?_
 simp only [Function.comp_apply, mkD, toG, toD]
 rw [okDiff_i8 (hd _ (List.mem_map_of_mem hm))]
theorem bkP_mkP {p : S33} (h : okPiece (toP p) = true) : bkP (mkP p) = p := by
 have hd := (okPiece_facts h).2.2.2.2.2.1
 simp only [toP] at hd
 have e : p.f4.map (bkD ∘ mkD) = p.f4.map id := List.map_congr_left fun d hm => by
  have h1 := hd _ (List.mem_map_of_mem (f := toD) hm)
  have h0 := (okDiff_facts h1).1
  simp only [toD] at h0
  simp only [Function.comp_apply, bkD, mkD, id, okDiff_i8 h1]
  rcases h0 with h | h | h <;> (rw [show wrap64 d.f0 = d.f0 by unfold wrap64; omega])
 simp only [bkP, mkP, List.map_map, e, List.map_id]
theorem read_all (e : Bool) (ps : List S42) (hp : ∀ p ∈ ps, okPiece p = true) (hn : ps.length ≤ 8) : Ev (fun k => pread.f k (B (textL e ps))) ((ps.map conv).map bkP, ⟨#[]⟩) := by
 have hb : Ev (fun k => bps.f k (ps.map conv)) ((ps.map conv).map bkP) := by
  refine ev_bps _ (by simp; omega) fun x hx => ?_
  obtain ⟨p, hpm, rfl⟩ := List.mem_map.1 hx
  have := (okPiece_facts (hp p hpm)).2.2.2.2.2.2
  simp [conv]; omega
 refine ev_pread _ _ none _ ?_ hb
 rcases List.eq_nil_or_concat ps with rfl | ⟨ps', q, rfl⟩
 ·simp only [p_PatchFromText.f, Option.bind_some, B_size, textL, List.flatMap_nil, List.length_nil, List.map_nil]
  exact Ev.if_pos rfl (Ev.const _)
 ·simp only [List.concat_eq_append] at hp hn ⊢
  have a1 := allLines_len _ hp
  have b1 := lsE_len e (allLines (ps' ++ [q]))
  have hll : (ps' ++ [q]).length = ps'.length + 1 := by simp
  have hlen : (textL e (ps' ++ [q])).length ≤ 100000 := by cases e <;> omega
  have et := text_lines e (ps' ++ [q])
  have hs : Ev (fun k => q_zzSplit.l1 k (B (textL e (ps' ++ [q]))) (B [10]) []) ((lsE e (allLines (ps' ++ [q]))).map B ++ [B []]) := by
   rw [← List.append_nil (textL e (ps' ++ [q])), et] at hlen ⊢
   refine split_lines _ [] [] _ (by omega) (by simp only [List.length_nil]; omega) (lsE_no e _) ?_
   have := split_last [] ([] ++ (lsE e (allLines (ps' ++ [q]))).map B) (by simp) (by simp; omega) (by simp)
   simpa using this
  have hL : ((lsE e (allLines (ps' ++ [q]))).map B ++ [B []]).length ≤ 1000000 := by simp; omega
  refine ev_pft _ (fun h0 => ?_) _ _ hs ?_
  ·have := congrArg List.length h0
   simp [textL, blockL, linesL] at this
  ·generalize hLL : (lsE e (allLines (ps' ++ [q]))).map B ++ [B []] = L at hL
   refine pieces_steps L hL _ e q [B []] ps' [] 0 hp (by simp; omega) (by rw [← hLL]; simp) fun i' hi' => ?_
   obtain ⟨g1, g2⟩ := at_of hi'
   have hi : i' + 1 = L.length := by
    have h1 := congrArg List.length g2
    have h2 := g1.1
    simp only [List.length_drop, List.length_nil] at h1
    omega
   refine gap_step L hL _ _ i' _ _ _ _ _ g1 ?_
   rw [hi]
   refine end_step1 L hL _ _ _ _ _ _ _ (by simp; omega) ?_
   have := end_step0 L hL ([] ++ ps'.map conv ++ [⟨q.f4.map toG, q.f0, q.f1, q.f2, q.f3⟩])
   simpa [conv] using this
abbrev Tab10 (w : World) : Prop := Lib.TabIs Tryz.prog w "internal/strconv.uint64pow10" .u64 Lib.pow10Tab
theorem Tab10.below {w w' : World} (h : Tab10 w) (hb : Below w.heap.size w w') : Tab10 w' := by
 unfold Tab10 Lib.TabIs World.var? at h ⊢
 rw [show Tryz.prog.globalNamed "internal/strconv.uint64pow10" = some ((Tryz.prog.globalNamed "internal/strconv.uint64pow10").getD 0) by kernel_rfl] at h ⊢
 simp only [Option.bind_some] at h ⊢
 generalize (Tryz.prog.globalNamed "internal/strconv.uint64pow10").getD 0 = g at h ⊢
 have hlt : g < w.heap.size := by
  rcases Nat.lt_or_ge g w.heap.size with h' | h'
  ·exact h'
  ·rw [Array.getElem?_eq_none h'] at h; cases h
 rw [hb.block g hlt]
 exact h
theorem decDigits_dec (n : Nat) : Lib.decDigits n = dec n := by
 induction n using Nat.strongRecOn with
 | ind n ih =>
  rw [Lib.decDigits, dec]
  by_cases h : n < 10
  ·rw [dif_pos h, if_pos h]
  ·rw [dif_neg h, if_neg h, ih (n / 10) (by omega)]
theorem itoa_calls (m : Nat) (hm : m ≤ 1000001) (w : World) (ht : Tab10 w) :
  Calls Tryz.prog 50 #[.int .i64 (m : Int)] w fun e w' => e = .returned (.string (B (dec m))) ∧ Below w.heap.size w w' :=
 (Tryz.strconv_Itoa (m : Int) (by omega) (by omega) w ht).mono fun e w' ⟨he, k, os, hw⟩ => by
  subst hw
  refine ⟨?_, Lib.below_grow _ w (Nat.le_refl _) k os⟩
  rw [he]
  unfold Lib.itoa B
  rw [if_neg (by omega), Int.toNat_natCast, decDigits_dec]
def dtext (t : Int) : Nat → List S93 → Int → ByteArray → Option ByteArray
 | 0, _, _, _ => none
 | k + 1, xs, i, acc => if i < (xs.length : Int) then (if 0 ≤ i then (if (rd_T93 xs i).f0 = t then dtext t k xs (wrap64 (i + 1)) acc else (if acc.size + (rd_T93 xs i).f1.size ≤ 140737488355328 then dtext t k xs (wrap64 (i + 1)) (acc ++ (rd_T93 xs i).f1) else none)) else none) else some acc
theorem ba_eta (a : ByteArray) : (⟨a.data.toList.toArray⟩ : ByteArray) = a := by
 obtain ⟨d⟩ := a
 simp
theorem ba_data_append (a b : ByteArray) : (a ++ b).data.toList = a.data.toList ++ b.data.toList := by
 simp [ByteArray.data_append]
def p_DiffText1.f (k : Nat) (a0 : Nat) (l1 : List S93) : Option ByteArray := dtext (1) k l1 0 (⟨#[]⟩ : ByteArray)
theorem p_DiffText1.calls (k : Nat) (a0 : Nat) (A1 : Option Addr) (c1 : Nat) (l1 : List (S93)) (r : ByteArray) (w : World) (hd0 : DmpAt w a0) (hr1 : Kd.C k93 w A1 l1.length l1) (hc1 : l1.length ≤ c1) (h : p_DiffText1.f k a0 l1 = some r) :
  Calls Tryz.prog 57 #[.pointer (some ⟨a0, 0, none⟩), .slice A1 l1.length c1] w fun e w' => e = .returned (.string r) ∧ Below w.heap.size w w' := by
 have hu100 := Tryz.underlying100
 have hu93 := Tryz.underlying93
 clear hd0
 have HR1 := Aside0.mk hr1
 clear hr1
 have H' := Aside0.mk (show dtext (1) k l1 0 (⟨#[]⟩ : ByteArray) = some r from h)
 clear h
 go_enter Tryz.func57, Tryz.ntmps57
 go_wp2
 go_loopg [10] k (fun kq v10 w' => ∃ (x10_1 : Int) (acc : ByteArray), v10 = .int .i64 x10_1 ∧ Aside0 (dtext (1) kq l1 x10_1 acc = some r) ∧ Aside0 (kq ≤ k) ∧ Aside0 (Lib.IsBuffer 100 5 w.heap.size w.heap.size (Lib.byteCells acc.data.toList) w') ∧ Aside0 (Below w.heap.size w w'))
 case atStart => exact ⟨0, ⟨#[]⟩, rfl, H', ⟨Nat.le_refl _⟩, ⟨Lib.fresh_isBuffer 100 5 w⟩, ⟨Below.alloc (Below.refl _ _) (Nat.le_refl _) _⟩⟩
 case round =>
  clear H'
  obtain ⟨x10_1, acc, rfl, HA, HK1, IB, HB⟩ := hrel
  cases gk with
  | zero => exact absurd HA.out (by simp [dtext])
  | succ k1 =>
   have H := HA.out; clear HA
   simp only [dtext] at H
   by_cases c4 : x10_1 < (l1.length : Int)
   ·rw [if_pos c4] at H
    have c4b0 : decide (x10_1 < (l1.length : Int)) = true := decide_eq_true c4
    by_cases c5 : 0 ≤ x10_1
    ·rw [if_pos c5] at H
     have c5b0 : decide (0 ≤ x10_1) = true := decide_eq_true c5
     obtain ⟨ad195, e195, hx195_0, hx195_1⟩ := at_T93 HR1.out x10_1 c5 c4
     cases e195
     replace hx195_0 := (HB.out.cell (World.block_lt_of_cell? w _ hx195_0)).trans hx195_0
     replace hx195_1 := (HB.out.cell (World.block_lt_of_cell? w _ hx195_1)).trans hx195_1
     have p195 := eq_true c5
     have q195 := eq_true c4
     clear c4 c5
     by_cases c7 : ((rd_T93 l1 x10_1).f0) = 1
     ·rw [if_pos c7] at H
      have c7b0 : (((rd_T93 l1 x10_1).f0) == 1) = true := beq_iff_eq.mpr c7
      have c7b1 : (((rd_T93 l1 x10_1).f0) != 1) = false := bne_eq_false_iff_eq.mpr c7
      clear c7
      have H' := Aside0.mk H
      clear H
      go_wp2
      go_roundg k1
      case measure => have := HK1.out; omega
      case rel => exact ⟨_, acc, rfl, H', ⟨by have := HK1.out; omega⟩, ⟨Lib.IsBuffer.alloc IB.out _⟩, ⟨Below.alloc HB.out HB.out.size _⟩⟩
     ·rw [if_neg c7] at H
      have c7b0 : (((rd_T93 l1 x10_1).f0) == 1) = false := beq_eq_false_iff_ne.mpr c7
      have c7b1 : (((rd_T93 l1 x10_1).f0) != 1) = true := bne_iff_ne.mpr c7
      clear c7
      by_cases c8 : acc.size + (rd_T93 l1 x10_1).f1.size ≤ 140737488355328
      ·rw [if_pos c8] at H
       have H' := Aside0.mk H
       have C8 := Aside0.mk c8
       clear H c8
       go_wp2_with ((go_at_call 46; refine (Tryz.Buffer_WriteString w.heap.size w.heap.size (Lib.byteCells acc.data.toList) (rd_T93 l1 x10_1).f1 _ (Lib.IsBuffer.alloc IB.out _) (Below.alloc HB.out HB.out.size _).size (Lib.byteCells_one _) (by rw [Lib.byteCells_length]; exact C8.out)).mono ?_; rintro e w46 ⟨rfl, ib46, hb46⟩; have IB46 := Aside0.mk ib46; have HB46 := Aside0.mk (Below.trans (Below.alloc HB.out HB.out.size _) hb46); clear ib46 hb46))
       go_roundg k1
       case measure => have := HK1.out; omega
       case rel => exact ⟨_, acc ++ (rd_T93 l1 x10_1).f1, rfl, H', ⟨by have := HK1.out; omega⟩, ⟨by rw [ba_data_append, Lib.byteCells_append]; exact IB46.out⟩, HB46⟩
      ·rw [if_neg c8] at H
       exact absurd H (by simp)
    ·rw [if_neg c5] at H
     exact absurd H (by simp)
   ·rw [if_neg c4] at H
    have c4b0 : decide (x10_1 < (l1.length : Int)) = false := decide_eq_false c4
    clear c4
    obtain rfl := Option.some.inj H
    go_wp2_with ((go_at_call 47; refine (Tryz.Buffer_String w.heap.size w.heap.size acc.data.toList _ IB.out).mono ?_; rintro e w47 ⟨rfl, nd, rfl⟩))
    go_ret
    exact ⟨by rw [ba_eta]; rfl, bN_ HB.out _⟩
def p_DiffText2.f (k : Nat) (a0 : Nat) (l1 : List S93) : Option ByteArray := dtext (-1) k l1 0 (⟨#[]⟩ : ByteArray)
theorem p_DiffText2.calls (k : Nat) (a0 : Nat) (A1 : Option Addr) (c1 : Nat) (l1 : List (S93)) (r : ByteArray) (w : World) (hd0 : DmpAt w a0) (hr1 : Kd.C k93 w A1 l1.length l1) (hc1 : l1.length ≤ c1) (h : p_DiffText2.f k a0 l1 = some r) :
  Calls Tryz.prog 60 #[.pointer (some ⟨a0, 0, none⟩), .slice A1 l1.length c1] w fun e w' => e = .returned (.string r) ∧ Below w.heap.size w w' := by
 have hu100 := Tryz.underlying100
 have hu93 := Tryz.underlying93
 clear hd0
 have HR1 := Aside0.mk hr1
 clear hr1
 have H' := Aside0.mk (show dtext (-1) k l1 0 (⟨#[]⟩ : ByteArray) = some r from h)
 clear h
 go_enter Tryz.func60, Tryz.ntmps60
 go_wp2
 go_loopg [10] k (fun kq v10 w' => ∃ (x10_1 : Int) (acc : ByteArray), v10 = .int .i64 x10_1 ∧ Aside0 (dtext (-1) kq l1 x10_1 acc = some r) ∧ Aside0 (kq ≤ k) ∧ Aside0 (Lib.IsBuffer 100 5 w.heap.size w.heap.size (Lib.byteCells acc.data.toList) w') ∧ Aside0 (Below w.heap.size w w'))
 case atStart => exact ⟨0, ⟨#[]⟩, rfl, H', ⟨Nat.le_refl _⟩, ⟨Lib.fresh_isBuffer 100 5 w⟩, ⟨Below.alloc (Below.refl _ _) (Nat.le_refl _) _⟩⟩
 case round =>
  clear H'
  obtain ⟨x10_1, acc, rfl, HA, HK1, IB, HB⟩ := hrel
  cases gk with
  | zero => exact absurd HA.out (by simp [dtext])
  | succ k1 =>
   have H := HA.out; clear HA
   simp only [dtext] at H
   by_cases c4 : x10_1 < (l1.length : Int)
   ·rw [if_pos c4] at H
    have c4b0 : decide (x10_1 < (l1.length : Int)) = true := decide_eq_true c4
    by_cases c5 : 0 ≤ x10_1
    ·rw [if_pos c5] at H
     have c5b0 : decide (0 ≤ x10_1) = true := decide_eq_true c5
     obtain ⟨ad195, e195, hx195_0, hx195_1⟩ := at_T93 HR1.out x10_1 c5 c4
     cases e195
     replace hx195_0 := (HB.out.cell (World.block_lt_of_cell? w _ hx195_0)).trans hx195_0
     replace hx195_1 := (HB.out.cell (World.block_lt_of_cell? w _ hx195_1)).trans hx195_1
     have p195 := eq_true c5
     have q195 := eq_true c4
     clear c4 c5
     by_cases c7 : ((rd_T93 l1 x10_1).f0) = -1
     ·rw [if_pos c7] at H
      have c7b0 : (((rd_T93 l1 x10_1).f0) == -1) = true := beq_iff_eq.mpr c7
      have c7b1 : (((rd_T93 l1 x10_1).f0) != -1) = false := bne_eq_false_iff_eq.mpr c7
      clear c7
      have H' := Aside0.mk H
      clear H
      go_wp2
      go_roundg k1
      case measure => have := HK1.out; omega
      case rel => exact ⟨_, acc, rfl, H', ⟨by have := HK1.out; omega⟩, ⟨Lib.IsBuffer.alloc IB.out _⟩, ⟨Below.alloc HB.out HB.out.size _⟩⟩
     ·rw [if_neg c7] at H
      have c7b0 : (((rd_T93 l1 x10_1).f0) == -1) = false := beq_eq_false_iff_ne.mpr c7
      have c7b1 : (((rd_T93 l1 x10_1).f0) != -1) = true := bne_iff_ne.mpr c7
      clear c7
      by_cases c8 : acc.size + (rd_T93 l1 x10_1).f1.size ≤ 140737488355328
      ·rw [if_pos c8] at H
       have H' := Aside0.mk H
       have C8 := Aside0.mk c8
       clear H c8
       go_wp2_with ((go_at_call 46; refine (Tryz.Buffer_WriteString w.heap.size w.heap.size (Lib.byteCells acc.data.toList) (rd_T93 l1 x10_1).f1 _ (Lib.IsBuffer.alloc IB.out _) (Below.alloc HB.out HB.out.size _).size (Lib.byteCells_one _) (by rw [Lib.byteCells_length]; exact C8.out)).mono ?_; rintro e w46 ⟨rfl, ib46, hb46⟩; have IB46 := Aside0.mk ib46; have HB46 := Aside0.mk (Below.trans (Below.alloc HB.out HB.out.size _) hb46); clear ib46 hb46))
       go_roundg k1
       case measure => have := HK1.out; omega
       case rel => exact ⟨_, acc ++ (rd_T93 l1 x10_1).f1, rfl, H', ⟨by have := HK1.out; omega⟩, ⟨by rw [ba_data_append, Lib.byteCells_append]; exact IB46.out⟩, HB46⟩
      ·rw [if_neg c8] at H
       exact absurd H (by simp)
    ·rw [if_neg c5] at H
     exact absurd H (by simp)
   ·rw [if_neg c4] at H
    have c4b0 : decide (x10_1 < (l1.length : Int)) = false := decide_eq_false c4
    clear c4
    obtain rfl := Option.some.inj H
    go_wp2_with ((go_at_call 47; refine (Tryz.Buffer_String w.heap.size w.heap.size acc.data.toList _ IB.out).mono ?_; rintro e w47 ⟨rfl, nd, rfl⟩))
    go_ret
    exact ⟨by rw [ba_eta]; rfl, bN_ HB.out _⟩
mutual
def q_zzQueryEscape.l0 : Nat → ByteArray → List Int → Int → Option (ByteArray)
 | 0, _, _, _ => none
 | k + 1, x0, x3, x4 => if x4 < (x0.size : Int) then (if 0 ≤ x4 then (if 97 ≤ (bt x0 x4) then (if (bt x0 x4) ≤ 122 then (q_zzQueryEscape.j1 k x0 x3 x4 (bt x0 x4) true) else (if 65 ≤ (bt x0 x4) then (if (bt x0 x4) ≤ 90 then (q_zzQueryEscape.j1 k x0 x3 x4 (bt x0 x4) true) else (if 48 ≤ (bt x0 x4) then (if (bt x0 x4) ≤ 57 then (q_zzQueryEscape.j1 k x0 x3 x4 (bt x0 x4) true) else (if (bt x0 x4) = 45 then (q_zzQueryEscape.j1 k x0 x3 x4 (bt x0 x4) true) else (if (bt x0 x4) = 95 then (q_zzQueryEscape.j1 k x0 x3 x4 (bt x0 x4) true) else (if (bt x0 x4) = 46 then (q_zzQueryEscape.j1 k x0 x3 x4 (bt x0 x4) true) else (q_zzQueryEscape.j1 k x0 x3 x4 (bt x0 x4) ((bt x0 x4) == 126)))))) else (if (bt x0 x4) = 45 then (q_zzQueryEscape.j1 k x0 x3 x4 (bt x0 x4) true) else (if (bt x0 x4) = 95 then (q_zzQueryEscape.j1 k x0 x3 x4 (bt x0 x4) true) else (if (bt x0 x4) = 46 then (q_zzQueryEscape.j1 k x0 x3 x4 (bt x0 x4) true) else (q_zzQueryEscape.j1 k x0 x3 x4 (bt x0 x4) ((bt x0 x4) == 126))))))) else (if 48 ≤ (bt x0 x4) then (if (bt x0 x4) ≤ 57 then (q_zzQueryEscape.j1 k x0 x3 x4 (bt x0 x4) true) else (if (bt x0 x4) = 45 then (q_zzQueryEscape.j1 k x0 x3 x4 (bt x0 x4) true) else (if (bt x0 x4) = 95 then (q_zzQueryEscape.j1 k x0 x3 x4 (bt x0 x4) true) else (if (bt x0 x4) = 46 then (q_zzQueryEscape.j1 k x0 x3 x4 (bt x0 x4) true) else (q_zzQueryEscape.j1 k x0 x3 x4 (bt x0 x4) ((bt x0 x4) == 126)))))) else (if (bt x0 x4) = 45 then (q_zzQueryEscape.j1 k x0 x3 x4 (bt x0 x4) true) else (if (bt x0 x4) = 95 then (q_zzQueryEscape.j1 k x0 x3 x4 (bt x0 x4) true) else (if (bt x0 x4) = 46 then (q_zzQueryEscape.j1 k x0 x3 x4 (bt x0 x4) true) else (q_zzQueryEscape.j1 k x0 x3 x4 (bt x0 x4) ((bt x0 x4) == 126)))))))) else (if 65 ≤ (bt x0 x4) then (if (bt x0 x4) ≤ 90 then (q_zzQueryEscape.j1 k x0 x3 x4 (bt x0 x4) true) else (if 48 ≤ (bt x0 x4) then (if (bt x0 x4) ≤ 57 then (q_zzQueryEscape.j1 k x0 x3 x4 (bt x0 x4) true) else (if (bt x0 x4) = 45 then (q_zzQueryEscape.j1 k x0 x3 x4 (bt x0 x4) true) else (if (bt x0 x4) = 95 then (q_zzQueryEscape.j1 k x0 x3 x4 (bt x0 x4) true) else (if (bt x0 x4) = 46 then (q_zzQueryEscape.j1 k x0 x3 x4 (bt x0 x4) true) else (q_zzQueryEscape.j1 k x0 x3 x4 (bt x0 x4) ((bt x0 x4) == 126)))))) else (if (bt x0 x4) = 45 then (q_zzQueryEscape.j1 k x0 x3 x4 (bt x0 x4) true) else (if (bt x0 x4) = 95 then (q_zzQueryEscape.j1 k x0 x3 x4 (bt x0 x4) true) else (if (bt x0 x4) = 46 then (q_zzQueryEscape.j1 k x0 x3 x4 (bt x0 x4) true) else (q_zzQueryEscape.j1 k x0 x3 x4 (bt x0 x4) ((bt x0 x4) == 126))))))) else (if 48 ≤ (bt x0 x4) then (if (bt x0 x4) ≤ 57 then (q_zzQueryEscape.j1 k x0 x3 x4 (bt x0 x4) true) else (if (bt x0 x4) = 45 then (q_zzQueryEscape.j1 k x0 x3 x4 (bt x0 x4) true) else (if (bt x0 x4) = 95 then (q_zzQueryEscape.j1 k x0 x3 x4 (bt x0 x4) true) else (if (bt x0 x4) = 46 then (q_zzQueryEscape.j1 k x0 x3 x4 (bt x0 x4) true) else (q_zzQueryEscape.j1 k x0 x3 x4 (bt x0 x4) ((bt x0 x4) == 126)))))) else (if (bt x0 x4) = 45 then (q_zzQueryEscape.j1 k x0 x3 x4 (bt x0 x4) true) else (if (bt x0 x4) = 95 then (q_zzQueryEscape.j1 k x0 x3 x4 (bt x0 x4) true) else (if (bt x0 x4) = 46 then (q_zzQueryEscape.j1 k x0 x3 x4 (bt x0 x4) true) else (q_zzQueryEscape.j1 k x0 x3 x4 (bt x0 x4) ((bt x0 x4) == 126)))))))) else (none)) else (some (strOfNums x3))
def q_zzQueryEscape.j1 : Nat → ByteArray → List Int → Int → Int → Bool → Option (ByteArray)
 | 0, _, _, _, _, _ => none
 | k + 1, x0, x3, x4, x5, x24 => if x24 = true then (if x3.length < 140737488355328 then (q_zzQueryEscape.l0 k x0 (x3 ++ [x5]) (wrap64 (x4 + 1))) else (none)) else (if x5 = 32 then (if x3.length < 140737488355328 then (q_zzQueryEscape.l0 k x0 (x3 ++ [43]) (wrap64 (x4 + 1))) else (none)) else (if 0 ≤ (x5 / 16) then (if (x5 / 16) < 16 then (if 0 ≤ (Go.bits .and .u8 x5 15) then (if (Go.bits .and .u8 x5 15) < 16 then ((some (([37, bt (⟨#[48, 49, 50, 51, 52, 53, 54, 55, 56, 57, 65, 66, 67, 68, 69, 70]⟩ : ByteArray) (x5 / 16), bt (⟨#[48, 49, 50, 51, 52, 53, 54, 55, 56, 57, 65, 66, 67, 68, 69, 70]⟩ : ByteArray) (Go.bits .and .u8 x5 15)] : List Int) : List Int)).bind fun y846 => (if x3.length + y846.length < 140737488355328 then (q_zzQueryEscape.l0 k x0 (x3 ++ y846) (wrap64 (x4 + 1))) else (none))) else (none)) else (none)) else (none)) else (none)))
end
def q_zzQueryEscape.f (k : Nat) (a0 : ByteArray) : Option (ByteArray) := q_zzQueryEscape.l0 k a0 ([] : List Int) 0
def q_zzQueryEscape.T6 : Bool × List (List Nat × List Nat) := (true, [([], []), ([], []), ([1], [1]), ([2], [2]), ([], []), ([4], [4]), ([5], [5]), ([3, 6], [3, 6]), ([0, 7], [0, 7]), ([8, 8, 0, 1, 2, 3, 4, 5, 6, 7, 8], [0, 8])])
def q_zzQueryEscape.B6 : List Nat := [0, 0, 2, 6, 0, 16, 48, 126, 255, 511]
theorem q_zzQueryEscape.tab6 : rtab .any (opsOf Tryz.f51 6) = q_zzQueryEscape.T6 := by kernel_rfl
theorem q_zzQueryEscape.bits6 : waitsOk q_zzQueryEscape.T6.2 q_zzQueryEscape.B6 = true := by kernel_rfl
theorem q_zzQueryEscape.calls (k : Nat) (a0 : ByteArray) (r : ByteArray) (w : World) (h : q_zzQueryEscape.f k a0 = some r) :
  Calls Tryz.prog 51 #[.string a0] w fun e w' => e = .returned (.string r) ∧ Below w.heap.size w w' := by
 have HB := aS_ (Below.refl w.heap.size w)
 have H : (q_zzQueryEscape.l0 k a0 ([] : List Int) 0) = some r := h
 clear h
 have H' := Aside0.mk H
 clear H
 go_enter Tryz.func51, Tryz.ntmps51
 go_wp2
 go_loopg [3, 4] k (fun kq v3 v4 w' => ∃ (x3_1 : List Int) (x4_1 : Int), v4 = .int .i64 x4_1 ∧ Aside0 (q_zzQueryEscape.l0 kq a0 x3_1 x4_1 = some r) ∧ Aside0 (kq ≤ k) ∧ Aside0 (Kd.R (Kd.int .u8) 5 w' w.heap.size (fun _ => True) v3 x3_1) ∧ Aside0 (Below w.heap.size w w'))
 case atStart => exact ⟨(([] : List Int)), (0), (by rfl), H', ⟨Nat.le_refl _⟩, ⟨by exact Kd.R_nil _ _ _ _ _⟩, ⟨bel_ HB.out⟩⟩
 case round =>
  clear H'
  obtain ⟨x3_1, x4_1, rfl, HA, HK1, HO_3, HB⟩ := hrel
  cases gk with
  | zero => exact absurd HA.out (by simp [q_zzQueryEscape.l0])
  | succ k1 =>
   have H := HA.out; clear HA
   simp only [q_zzQueryEscape.l0] at H
   by_cases c2 : x4_1 < (a0.size : Int)
   ·rw [if_pos c2] at H
    have c2b0 := decide_eq_true c2
    clear c2
    replace H := yes_ H; obtain ⟨c3, H⟩ := H
    have c3b0 := decide_eq_true c3
    clear c3
    have HC5 := Aside0.mk H
    clear H
    have p4 : 0 ≤ (x4_1 : Int) := of_decide_eq_true (by assumption)
    have q4 : x4_1 < (a0.size : Int) := of_decide_eq_true (by assumption)
    have hx4 := bt_at a0 x4_1
    replace p4 := eq_true p4
    replace q4 := eq_true q4
    go_upto_region 7 with (fail)
    go_cut [24] (fun v24 wc => ∃ (kq : Nat) (x24_4 : Bool), v24 = .bool x24_4 ∧ Aside0 (q_zzQueryEscape.j1 kq a0 x3_1 x4_1 (bt a0 x4_1) x24_4 = some r) ∧ Aside0 (kq ≤ k1) ∧ Aside0 (Kd.R (Kd.int .u8) 5 wc w.heap.size (fun _ => True) u3 x3_1) ∧ Aside0 (Below w.heap.size w wc))
    case first =>
     have H := HC5.out
     clear HC5
     by_cases c6 : 97 ≤ (bt a0 x4_1)
     ·rw [if_pos c6] at H
      have c6b0 := decide_eq_true c6
      clear c6
      by_cases c7 : (bt a0 x4_1) ≤ 122
      ·rw [if_pos c7] at H
       have c7b0 := decide_eq_true c7
       clear c7
       have H' := Aside0.mk H
       clear H
       go_wp2
       go_meet
       case rel => exact ⟨_, (true), (by rfl), H', ⟨by have := HK1.out; omega⟩, ⟨Kd.R_st HO_3.out⟩, ⟨bel_ HB.out⟩⟩
      ·rw [if_neg c7] at H
       have c7b0 := decide_eq_false c7
       clear c7
       by_cases c8 : 65 ≤ (bt a0 x4_1)
       ·rw [if_pos c8] at H
        have c8b0 := decide_eq_true c8
        clear c8
        by_cases c9 : (bt a0 x4_1) ≤ 90
        ·rw [if_pos c9] at H
         have c9b0 := decide_eq_true c9
         clear c9
         have H' := Aside0.mk H
         clear H
         go_wp2
         go_meet
         case rel => exact ⟨_, (true), (by rfl), H', ⟨by have := HK1.out; omega⟩, ⟨Kd.R_st HO_3.out⟩, ⟨bel_ HB.out⟩⟩
        ·rw [if_neg c9] at H
         have c9b0 := decide_eq_false c9
         clear c9
         by_cases c10 : 48 ≤ (bt a0 x4_1)
         ·rw [if_pos c10] at H
          have c10b0 := decide_eq_true c10
          clear c10
          by_cases c11 : (bt a0 x4_1) ≤ 57
          ·rw [if_pos c11] at H
           have c11b0 := decide_eq_true c11
           clear c11
           have H' := Aside0.mk H
           clear H
           go_wp2
           go_meet
           case rel => exact ⟨_, (true), (by rfl), H', ⟨by have := HK1.out; omega⟩, ⟨Kd.R_st HO_3.out⟩, ⟨bel_ HB.out⟩⟩
          ·rw [if_neg c11] at H
           have c11b0 := decide_eq_false c11
           clear c11
           by_cases c12 : (bt a0 x4_1) = 45
           ·rw [if_pos c12] at H
            have c12b0 := beq_iff_eq.mpr c12
            have c12b1 := bne_eq_false_iff_eq.mpr c12
            clear c12
            have H' := Aside0.mk H
            clear H
            go_wp2
            go_meet
            case rel => exact ⟨_, (true), (by rfl), H', ⟨by have := HK1.out; omega⟩, ⟨Kd.R_st HO_3.out⟩, ⟨bel_ HB.out⟩⟩
           ·rw [if_neg c12] at H
            have c12b0 := beq_eq_false_iff_ne.mpr c12
            have c12b1 := bne_iff_ne.mpr c12
            by_cases c13 : (bt a0 x4_1) = 95
            ·rw [if_pos c13] at H
             have c13b0 := beq_iff_eq.mpr c13
             have c13b1 := bne_eq_false_iff_eq.mpr c13
             clear c13
             have H' := Aside0.mk H
             clear H
             go_wp2
             go_meet
             case rel => exact ⟨_, (true), (by rfl), H', ⟨by have := HK1.out; omega⟩, ⟨Kd.R_st HO_3.out⟩, ⟨bel_ HB.out⟩⟩
            ·rw [if_neg c13] at H
             have c13b0 := beq_eq_false_iff_ne.mpr c13
             have c13b1 := bne_iff_ne.mpr c13
             by_cases c14 : (bt a0 x4_1) = 46
             ·rw [if_pos c14] at H
              have c14b0 := beq_iff_eq.mpr c14
              have c14b1 := bne_eq_false_iff_eq.mpr c14
              clear c14
              have H' := Aside0.mk H
              clear H
              go_wp2
              go_meet
              case rel => exact ⟨_, (true), (by rfl), H', ⟨by have := HK1.out; omega⟩, ⟨Kd.R_st HO_3.out⟩, ⟨bel_ HB.out⟩⟩
             ·rw [if_neg c14] at H
              have c14b0 := beq_eq_false_iff_ne.mpr c14
              have c14b1 := bne_iff_ne.mpr c14
              have H' := Aside0.mk H
              clear H
              go_wp2
              go_meet
              case rel => exact ⟨_, (((bt a0 x4_1) == 126)), (by rfl), H', ⟨by have := HK1.out; omega⟩, ⟨Kd.R_st HO_3.out⟩, ⟨bel_ HB.out⟩⟩
         ·rw [if_neg c10] at H
          have c10b0 := decide_eq_false c10
          clear c10
          by_cases c15 : (bt a0 x4_1) = 45
          ·rw [if_pos c15] at H
           have c15b0 := beq_iff_eq.mpr c15
           have c15b1 := bne_eq_false_iff_eq.mpr c15
           clear c15
           have H' := Aside0.mk H
           clear H
           go_wp2
           go_meet
           case rel => exact ⟨_, (true), (by rfl), H', ⟨by have := HK1.out; omega⟩, ⟨Kd.R_st HO_3.out⟩, ⟨bel_ HB.out⟩⟩
          ·rw [if_neg c15] at H
           have c15b0 := beq_eq_false_iff_ne.mpr c15
           have c15b1 := bne_iff_ne.mpr c15
           by_cases c16 : (bt a0 x4_1) = 95
           ·rw [if_pos c16] at H
            have c16b0 := beq_iff_eq.mpr c16
            have c16b1 := bne_eq_false_iff_eq.mpr c16
            clear c16
            have H' := Aside0.mk H
            clear H
            go_wp2
            go_meet
            case rel => exact ⟨_, (true), (by rfl), H', ⟨by have := HK1.out; omega⟩, ⟨Kd.R_st HO_3.out⟩, ⟨bel_ HB.out⟩⟩
           ·rw [if_neg c16] at H
            have c16b0 := beq_eq_false_iff_ne.mpr c16
            have c16b1 := bne_iff_ne.mpr c16
            by_cases c17 : (bt a0 x4_1) = 46
            ·rw [if_pos c17] at H
             have c17b0 := beq_iff_eq.mpr c17
             have c17b1 := bne_eq_false_iff_eq.mpr c17
             clear c17
             have H' := Aside0.mk H
             clear H
             go_wp2
             go_meet
             case rel => exact ⟨_, (true), (by rfl), H', ⟨by have := HK1.out; omega⟩, ⟨Kd.R_st HO_3.out⟩, ⟨bel_ HB.out⟩⟩
            ·rw [if_neg c17] at H
             have c17b0 := beq_eq_false_iff_ne.mpr c17
             have c17b1 := bne_iff_ne.mpr c17
             have H' := Aside0.mk H
             clear H
             go_wp2
             go_meet
             case rel => exact ⟨_, (((bt a0 x4_1) == 126)), (by rfl), H', ⟨by have := HK1.out; omega⟩, ⟨Kd.R_st HO_3.out⟩, ⟨bel_ HB.out⟩⟩
       ·rw [if_neg c8] at H
        have c8b0 := decide_eq_false c8
        clear c8
        by_cases c18 : 48 ≤ (bt a0 x4_1)
        ·rw [if_pos c18] at H
         have c18b0 := decide_eq_true c18
         clear c18
         by_cases c19 : (bt a0 x4_1) ≤ 57
         ·rw [if_pos c19] at H
          have c19b0 := decide_eq_true c19
          clear c19
          have H' := Aside0.mk H
          clear H
          go_wp2
          go_meet
          case rel => exact ⟨_, (true), (by rfl), H', ⟨by have := HK1.out; omega⟩, ⟨Kd.R_st HO_3.out⟩, ⟨bel_ HB.out⟩⟩
         ·rw [if_neg c19] at H
          have c19b0 := decide_eq_false c19
          clear c19
          by_cases c20 : (bt a0 x4_1) = 45
          ·rw [if_pos c20] at H
           have c20b0 := beq_iff_eq.mpr c20
           have c20b1 := bne_eq_false_iff_eq.mpr c20
           clear c20
           have H' := Aside0.mk H
           clear H
           go_wp2
           go_meet
           case rel => exact ⟨_, (true), (by rfl), H', ⟨by have := HK1.out; omega⟩, ⟨Kd.R_st HO_3.out⟩, ⟨bel_ HB.out⟩⟩
          ·rw [if_neg c20] at H
           have c20b0 := beq_eq_false_iff_ne.mpr c20
           have c20b1 := bne_iff_ne.mpr c20
           by_cases c21 : (bt a0 x4_1) = 95
           ·rw [if_pos c21] at H
            have c21b0 := beq_iff_eq.mpr c21
            have c21b1 := bne_eq_false_iff_eq.mpr c21
            clear c21
            have H' := Aside0.mk H
            clear H
            go_wp2
            go_meet
            case rel => exact ⟨_, (true), (by rfl), H', ⟨by have := HK1.out; omega⟩, ⟨Kd.R_st HO_3.out⟩, ⟨bel_ HB.out⟩⟩
           ·rw [if_neg c21] at H
            have c21b0 := beq_eq_false_iff_ne.mpr c21
            have c21b1 := bne_iff_ne.mpr c21
            by_cases c22 : (bt a0 x4_1) = 46
            ·rw [if_pos c22] at H
             have c22b0 := beq_iff_eq.mpr c22
             have c22b1 := bne_eq_false_iff_eq.mpr c22
             clear c22
             have H' := Aside0.mk H
             clear H
             go_wp2
             go_meet
             case rel => exact ⟨_, (true), (by rfl), H', ⟨by have := HK1.out; omega⟩, ⟨Kd.R_st HO_3.out⟩, ⟨bel_ HB.out⟩⟩
            ·rw [if_neg c22] at H
             have c22b0 := beq_eq_false_iff_ne.mpr c22
             have c22b1 := bne_iff_ne.mpr c22
             have H' := Aside0.mk H
             clear H
             go_wp2
             go_meet
             case rel => exact ⟨_, (((bt a0 x4_1) == 126)), (by rfl), H', ⟨by have := HK1.out; omega⟩, ⟨Kd.R_st HO_3.out⟩, ⟨bel_ HB.out⟩⟩
        ·rw [if_neg c18] at H
         have c18b0 := decide_eq_false c18
         clear c18
         by_cases c23 : (bt a0 x4_1) = 45
         ·rw [if_pos c23] at H
          have c23b0 := beq_iff_eq.mpr c23
          have c23b1 := bne_eq_false_iff_eq.mpr c23
          clear c23
          have H' := Aside0.mk H
          clear H
          go_wp2
          go_meet
          case rel => exact ⟨_, (true), (by rfl), H', ⟨by have := HK1.out; omega⟩, ⟨Kd.R_st HO_3.out⟩, ⟨bel_ HB.out⟩⟩
         ·rw [if_neg c23] at H
          have c23b0 := beq_eq_false_iff_ne.mpr c23
          have c23b1 := bne_iff_ne.mpr c23
          by_cases c24 : (bt a0 x4_1) = 95
          ·rw [if_pos c24] at H
           have c24b0 := beq_iff_eq.mpr c24
           have c24b1 := bne_eq_false_iff_eq.mpr c24
           clear c24
           have H' := Aside0.mk H
           clear H
           go_wp2
           go_meet
           case rel => exact ⟨_, (true), (by rfl), H', ⟨by have := HK1.out; omega⟩, ⟨Kd.R_st HO_3.out⟩, ⟨bel_ HB.out⟩⟩
          ·rw [if_neg c24] at H
           have c24b0 := beq_eq_false_iff_ne.mpr c24
           have c24b1 := bne_iff_ne.mpr c24
           by_cases c25 : (bt a0 x4_1) = 46
           ·rw [if_pos c25] at H
            have c25b0 := beq_iff_eq.mpr c25
            have c25b1 := bne_eq_false_iff_eq.mpr c25
            clear c25
            have H' := Aside0.mk H
            clear H
            go_wp2
            go_meet
            case rel => exact ⟨_, (true), (by rfl), H', ⟨by have := HK1.out; omega⟩, ⟨Kd.R_st HO_3.out⟩, ⟨bel_ HB.out⟩⟩
           ·rw [if_neg c25] at H
            have c25b0 := beq_eq_false_iff_ne.mpr c25
            have c25b1 := bne_iff_ne.mpr c25
            have H' := Aside0.mk H
            clear H
            go_wp2
            go_meet
            case rel => exact ⟨_, (((bt a0 x4_1) == 126)), (by rfl), H', ⟨by have := HK1.out; omega⟩, ⟨Kd.R_st HO_3.out⟩, ⟨bel_ HB.out⟩⟩
     ·rw [if_neg c6] at H
      have c6b0 := decide_eq_false c6
      clear c6
      by_cases c26 : 65 ≤ (bt a0 x4_1)
      ·rw [if_pos c26] at H
       have c26b0 := decide_eq_true c26
       clear c26
       by_cases c27 : (bt a0 x4_1) ≤ 90
       ·rw [if_pos c27] at H
        have c27b0 := decide_eq_true c27
        clear c27
        have H' := Aside0.mk H
        clear H
        go_wp2
        go_meet
        case rel => exact ⟨_, (true), (by rfl), H', ⟨by have := HK1.out; omega⟩, ⟨Kd.R_st HO_3.out⟩, ⟨bel_ HB.out⟩⟩
       ·rw [if_neg c27] at H
        have c27b0 := decide_eq_false c27
        clear c27
        by_cases c28 : 48 ≤ (bt a0 x4_1)
        ·rw [if_pos c28] at H
         have c28b0 := decide_eq_true c28
         clear c28
         by_cases c29 : (bt a0 x4_1) ≤ 57
         ·rw [if_pos c29] at H
          have c29b0 := decide_eq_true c29
          clear c29
          have H' := Aside0.mk H
          clear H
          go_wp2
          go_meet
          case rel => exact ⟨_, (true), (by rfl), H', ⟨by have := HK1.out; omega⟩, ⟨Kd.R_st HO_3.out⟩, ⟨bel_ HB.out⟩⟩
         ·rw [if_neg c29] at H
          have c29b0 := decide_eq_false c29
          clear c29
          by_cases c30 : (bt a0 x4_1) = 45
          ·rw [if_pos c30] at H
           have c30b0 := beq_iff_eq.mpr c30
           have c30b1 := bne_eq_false_iff_eq.mpr c30
           clear c30
           have H' := Aside0.mk H
           clear H
           go_wp2
           go_meet
           case rel => exact ⟨_, (true), (by rfl), H', ⟨by have := HK1.out; omega⟩, ⟨Kd.R_st HO_3.out⟩, ⟨bel_ HB.out⟩⟩
          ·rw [if_neg c30] at H
           have c30b0 := beq_eq_false_iff_ne.mpr c30
           have c30b1 := bne_iff_ne.mpr c30
           by_cases c31 : (bt a0 x4_1) = 95
           ·rw [if_pos c31] at H
            have c31b0 := beq_iff_eq.mpr c31
            have c31b1 := bne_eq_false_iff_eq.mpr c31
            clear c31
            have H' := Aside0.mk H
            clear H
            go_wp2
            go_meet
            case rel => exact ⟨_, (true), (by rfl), H', ⟨by have := HK1.out; omega⟩, ⟨Kd.R_st HO_3.out⟩, ⟨bel_ HB.out⟩⟩
           ·rw [if_neg c31] at H
            have c31b0 := beq_eq_false_iff_ne.mpr c31
            have c31b1 := bne_iff_ne.mpr c31
            by_cases c32 : (bt a0 x4_1) = 46
            ·rw [if_pos c32] at H
             have c32b0 := beq_iff_eq.mpr c32
             have c32b1 := bne_eq_false_iff_eq.mpr c32
             clear c32
             have H' := Aside0.mk H
             clear H
             go_wp2
             go_meet
             case rel => exact ⟨_, (true), (by rfl), H', ⟨by have := HK1.out; omega⟩, ⟨Kd.R_st HO_3.out⟩, ⟨bel_ HB.out⟩⟩
            ·rw [if_neg c32] at H
             have c32b0 := beq_eq_false_iff_ne.mpr c32
             have c32b1 := bne_iff_ne.mpr c32
             have H' := Aside0.mk H
             clear H
             go_wp2
             go_meet
             case rel => exact ⟨_, (((bt a0 x4_1) == 126)), (by rfl), H', ⟨by have := HK1.out; omega⟩, ⟨Kd.R_st HO_3.out⟩, ⟨bel_ HB.out⟩⟩
        ·rw [if_neg c28] at H
         have c28b0 := decide_eq_false c28
         clear c28
         by_cases c33 : (bt a0 x4_1) = 45
         ·rw [if_pos c33] at H
          have c33b0 := beq_iff_eq.mpr c33
          have c33b1 := bne_eq_false_iff_eq.mpr c33
          clear c33
          have H' := Aside0.mk H
          clear H
          go_wp2
          go_meet
          case rel => exact ⟨_, (true), (by rfl), H', ⟨by have := HK1.out; omega⟩, ⟨Kd.R_st HO_3.out⟩, ⟨bel_ HB.out⟩⟩
         ·rw [if_neg c33] at H
          have c33b0 := beq_eq_false_iff_ne.mpr c33
          have c33b1 := bne_iff_ne.mpr c33
          by_cases c34 : (bt a0 x4_1) = 95
          ·rw [if_pos c34] at H
           have c34b0 := beq_iff_eq.mpr c34
           have c34b1 := bne_eq_false_iff_eq.mpr c34
           clear c34
           have H' := Aside0.mk H
           clear H
           go_wp2
           go_meet
           case rel => exact ⟨_, (true), (by rfl), H', ⟨by have := HK1.out; omega⟩, ⟨Kd.R_st HO_3.out⟩, ⟨bel_ HB.out⟩⟩
          ·rw [if_neg c34] at H
           have c34b0 := beq_eq_false_iff_ne.mpr c34
           have c34b1 := bne_iff_ne.mpr c34
           by_cases c35 : (bt a0 x4_1) = 46
           ·rw [if_pos c35] at H
            have c35b0 := beq_iff_eq.mpr c35
            have c35b1 := bne_eq_false_iff_eq.mpr c35
            clear c35
            have H' := Aside0.mk H
            clear H
            go_wp2
            go_meet
            case rel => exact ⟨_, (true), (by rfl), H', ⟨by have := HK1.out; omega⟩, ⟨Kd.R_st HO_3.out⟩, ⟨bel_ HB.out⟩⟩
           ·rw [if_neg c35] at H
            have c35b0 := beq_eq_false_iff_ne.mpr c35
            have c35b1 := bne_iff_ne.mpr c35
            have H' := Aside0.mk H
            clear H
            go_wp2
            go_meet
            case rel => exact ⟨_, (((bt a0 x4_1) == 126)), (by rfl), H', ⟨by have := HK1.out; omega⟩, ⟨Kd.R_st HO_3.out⟩, ⟨bel_ HB.out⟩⟩
      ·rw [if_neg c26] at H
       have c26b0 := decide_eq_false c26
       clear c26
       by_cases c36 : 48 ≤ (bt a0 x4_1)
       ·rw [if_pos c36] at H
        have c36b0 := decide_eq_true c36
        clear c36
        by_cases c37 : (bt a0 x4_1) ≤ 57
        ·rw [if_pos c37] at H
         have c37b0 := decide_eq_true c37
         clear c37
         have H' := Aside0.mk H
         clear H
         go_wp2
         go_meet
         case rel => exact ⟨_, (true), (by rfl), H', ⟨by have := HK1.out; omega⟩, ⟨Kd.R_st HO_3.out⟩, ⟨bel_ HB.out⟩⟩
        ·rw [if_neg c37] at H
         have c37b0 := decide_eq_false c37
         clear c37
         by_cases c38 : (bt a0 x4_1) = 45
         ·rw [if_pos c38] at H
          have c38b0 := beq_iff_eq.mpr c38
          have c38b1 := bne_eq_false_iff_eq.mpr c38
          clear c38
          have H' := Aside0.mk H
          clear H
          go_wp2
          go_meet
          case rel => exact ⟨_, (true), (by rfl), H', ⟨by have := HK1.out; omega⟩, ⟨Kd.R_st HO_3.out⟩, ⟨bel_ HB.out⟩⟩
         ·rw [if_neg c38] at H
          have c38b0 := beq_eq_false_iff_ne.mpr c38
          have c38b1 := bne_iff_ne.mpr c38
          by_cases c39 : (bt a0 x4_1) = 95
          ·rw [if_pos c39] at H
           have c39b0 := beq_iff_eq.mpr c39
           have c39b1 := bne_eq_false_iff_eq.mpr c39
           clear c39
           have H' := Aside0.mk H
           clear H
           go_wp2
           go_meet
           case rel => exact ⟨_, (true), (by rfl), H', ⟨by have := HK1.out; omega⟩, ⟨Kd.R_st HO_3.out⟩, ⟨bel_ HB.out⟩⟩
          ·rw [if_neg c39] at H
           have c39b0 := beq_eq_false_iff_ne.mpr c39
           have c39b1 := bne_iff_ne.mpr c39
           by_cases c40 : (bt a0 x4_1) = 46
           ·rw [if_pos c40] at H
            have c40b0 := beq_iff_eq.mpr c40
            have c40b1 := bne_eq_false_iff_eq.mpr c40
            clear c40
            have H' := Aside0.mk H
            clear H
            go_wp2
            go_meet
            case rel => exact ⟨_, (true), (by rfl), H', ⟨by have := HK1.out; omega⟩, ⟨Kd.R_st HO_3.out⟩, ⟨bel_ HB.out⟩⟩
           ·rw [if_neg c40] at H
            have c40b0 := beq_eq_false_iff_ne.mpr c40
            have c40b1 := bne_iff_ne.mpr c40
            have H' := Aside0.mk H
            clear H
            go_wp2
            go_meet
            case rel => exact ⟨_, (((bt a0 x4_1) == 126)), (by rfl), H', ⟨by have := HK1.out; omega⟩, ⟨Kd.R_st HO_3.out⟩, ⟨bel_ HB.out⟩⟩
       ·rw [if_neg c36] at H
        have c36b0 := decide_eq_false c36
        clear c36
        by_cases c41 : (bt a0 x4_1) = 45
        ·rw [if_pos c41] at H
         have c41b0 := beq_iff_eq.mpr c41
         have c41b1 := bne_eq_false_iff_eq.mpr c41
         clear c41
         have H' := Aside0.mk H
         clear H
         go_wp2
         go_meet
         case rel => exact ⟨_, (true), (by rfl), H', ⟨by have := HK1.out; omega⟩, ⟨Kd.R_st HO_3.out⟩, ⟨bel_ HB.out⟩⟩
        ·rw [if_neg c41] at H
         have c41b0 := beq_eq_false_iff_ne.mpr c41
         have c41b1 := bne_iff_ne.mpr c41
         by_cases c42 : (bt a0 x4_1) = 95
         ·rw [if_pos c42] at H
          have c42b0 := beq_iff_eq.mpr c42
          have c42b1 := bne_eq_false_iff_eq.mpr c42
          clear c42
          have H' := Aside0.mk H
          clear H
          go_wp2
          go_meet
          case rel => exact ⟨_, (true), (by rfl), H', ⟨by have := HK1.out; omega⟩, ⟨Kd.R_st HO_3.out⟩, ⟨bel_ HB.out⟩⟩
         ·rw [if_neg c42] at H
          have c42b0 := beq_eq_false_iff_ne.mpr c42
          have c42b1 := bne_iff_ne.mpr c42
          by_cases c43 : (bt a0 x4_1) = 46
          ·rw [if_pos c43] at H
           have c43b0 := beq_iff_eq.mpr c43
           have c43b1 := bne_eq_false_iff_eq.mpr c43
           clear c43
           have H' := Aside0.mk H
           clear H
           go_wp2
           go_meet
           case rel => exact ⟨_, (true), (by rfl), H', ⟨by have := HK1.out; omega⟩, ⟨Kd.R_st HO_3.out⟩, ⟨bel_ HB.out⟩⟩
          ·rw [if_neg c43] at H
           have c43b0 := beq_eq_false_iff_ne.mpr c43
           have c43b1 := bne_iff_ne.mpr c43
           have H' := Aside0.mk H
           clear H
           go_wp2
           go_meet
           case rel => exact ⟨_, (((bt a0 x4_1) == 126)), (by rfl), H', ⟨by have := HK1.out; omega⟩, ⟨Kd.R_st HO_3.out⟩, ⟨bel_ HB.out⟩⟩
    case rest =>
     clear HC5
     obtain ⟨kq, x24_4, rfl, HA, HJ4, HO_3, HB⟩ := hcut
     cases kq with
     | zero => exact absurd HA.out (by simp [q_zzQueryEscape.j1])
     | succ kj4 =>
      have H := HA.out; clear HA
      simp only [q_zzQueryEscape.j1] at H
      by_cases c44 : x24_4 = true
      ·subst c44
       rw [if_pos rfl] at H
       replace H := yes_ H; obtain ⟨c45, H⟩ := H
       have LMc45 := Aside0.mk c45
       clear c45
       obtain ⟨y840, hy840⟩ : ∃ y_ : List Int, y_ = (x3_1 ++ [(bt a0 x4_1)]) := ⟨_, rfl⟩
       replace H : (q_zzQueryEscape.l0 kj4 a0 y840 (wrap64 (x4_1 + 1))) = some r := by (rw [hy840]; with_reducible exact H)
       have Ny840 := Aside0.mk hy840
       clear hy840
       have H' := Aside0.mk H
       clear H
       go_wp2_with (((with_reducible refine gate_builtin (b := .append) (xs := #[.tmp 63, .tmp 65]) rfl ?_); at_builtin; refine Kd.R_append (Kd.int .u8) (w0 := w) w.heap.size rfl (.tmp 63) (.tmp 65) 97 5 (.int .u8 0) 1 rfl Tryz.underlying97 info5 rfl (by decide) (by omega) u3 x3_1 (bt a0 x4_1) [.int .u8 (bt a0 x4_1)] (fun _ => True) (fun _ => False) rfl rfl ?aP (fun _ hk => hk.elim) ?aF ?aO ?aB ?aS ?aL ?_; (case aP => exact rfl); (case aB => exact (bel_ HB.out)); (case aF => exact (fun _ _ => trivial)); (case aO => exact (Kd.R_st HO_3.out)); (case aS => exact (bz_ (bel_ HB.out))); (case aL => have := LMc45.out; omega); intro v841 w46 ho hb hg hat; rw [← Ny840.out] at ho; replace HB := aS_ (hb); have HO842 := aS_ (ho); clear HO_3; clear ho hb hg hat))
       go_roundg kj4
       case measure => have := HK1.out; have := HJ4.out; omega
       case rel => exact ⟨(y840), (wrap64 (x4_1 + 1)), (by rfl), H', ⟨by have := HK1.out; have := HJ4.out; omega⟩, ⟨Kd.R_st HO842.out⟩, ⟨bel_ HB.out⟩⟩
      ·replace c44 := Bool.eq_false_iff.mpr c44
       subst c44
       rw [if_neg (show ¬ (false = true) by decide)] at H
       by_cases c47 : (bt a0 x4_1) = 32
       ·rw [if_pos c47] at H
        have c47b0 := beq_iff_eq.mpr c47
        have c47b1 := bne_eq_false_iff_eq.mpr c47
        clear c47
        replace H := yes_ H; obtain ⟨c48, H⟩ := H
        have LMc48 := Aside0.mk c48
        clear c48
        obtain ⟨y843, hy843⟩ : ∃ y_ : List Int, y_ = (x3_1 ++ [43]) := ⟨_, rfl⟩
        replace H : (q_zzQueryEscape.l0 kj4 a0 y843 (wrap64 (x4_1 + 1))) = some r := by (rw [hy843]; with_reducible exact H)
        have Ny843 := Aside0.mk hy843
        clear hy843
        have H' := Aside0.mk H
        clear H
        go_wp2_with (((with_reducible refine gate_builtin (b := .append) (xs := #[.tmp 70, .tmp 71]) rfl ?_); at_builtin; refine Kd.R_append (Kd.int .u8) (w0 := w) w.heap.size rfl (.tmp 70) (.tmp 71) 97 5 (.int .u8 0) 1 rfl Tryz.underlying97 info5 rfl (by decide) (by omega) u3 x3_1 43 [.int .u8 43] (fun _ => True) (fun _ => False) rfl rfl ?aP (fun _ hk => hk.elim) ?aF ?aO ?aB ?aS ?aL ?_; (case aP => exact rfl); (case aB => exact (bel_ HB.out)); (case aF => exact (fun _ _ => trivial)); (case aO => exact (Kd.R_st HO_3.out)); (case aS => exact (bz_ (bel_ HB.out))); (case aL => have := LMc48.out; omega); intro v844 w49 ho hb hg hat; rw [← Ny843.out] at ho; replace HB := aS_ (hb); have HO845 := aS_ (ho); clear HO_3; clear ho hb hg hat))
        go_roundg kj4
        case measure => have := HK1.out; have := HJ4.out; omega
        case rel => exact ⟨(y843), (wrap64 (x4_1 + 1)), (by rfl), H', ⟨by have := HK1.out; have := HJ4.out; omega⟩, ⟨Kd.R_st HO845.out⟩, ⟨bel_ HB.out⟩⟩
       ·rw [if_neg c47] at H
        have c47b0 := beq_eq_false_iff_ne.mpr c47
        have c47b1 := bne_iff_ne.mpr c47
        obtain ⟨ji50, hji50⟩ : ∃ j_ : Int, ((bt a0 x4_1) / 16) = j_ := ⟨_, rfl⟩
        rw [hji50] at H
        replace H := yes_ H; obtain ⟨c51, H⟩ := H
        have c51b0 := decide_eq_true c51
        clear c51
        replace H := yes_ H; obtain ⟨c52, H⟩ := H
        have c52b0 := decide_eq_true c52
        clear c52
        replace H := yes_ H; obtain ⟨c54, H⟩ := H
        have c54b0 := decide_eq_true c54
        clear c54
        replace H := yes_ H; obtain ⟨c55, H⟩ := H
        have c55b0 := decide_eq_true c55
        clear c55
        obtain ⟨y846, hy846, H⟩ := bindc_ H
        have Ny846 := Aside0.mk hy846
        clear hy846
        replace H := yes_ H; obtain ⟨c57, H⟩ := H
        have LMc57 := Aside0.mk c57
        clear c57
        obtain ⟨y849, hy849⟩ : ∃ y_ : List Int, y_ = (x3_1 ++ y846) := ⟨_, rfl⟩
        replace H : (q_zzQueryEscape.l0 kj4 a0 y849 (wrap64 (x4_1 + 1))) = some r := by (rw [hy849]; with_reducible exact H)
        have Ny849 := Aside0.mk hy849
        clear hy849
        have H' := Aside0.mk H
        clear H
        try go_wp2
        replace HO_3 := aS_ (Kd.R_drew HO_3.out)
        replace HB := aS_ (bD_ HB.out)
        have p53 : 0 ≤ ((ji50) : Int) := of_decide_eq_true (by assumption)
        have q53 : (ji50) < (16 : Int) := of_decide_eq_true (by assumption)
        have hx53 := bt_at (⟨#[48, 49, 50, 51, 52, 53, 54, 55, 56, 57, 65, 66, 67, 68, 69, 70]⟩ : ByteArray) (ji50)
        replace p53 := eq_true p53
        replace q53 := eq_true q53
        have p56 : 0 ≤ ((Go.bits .and .u8 (bt a0 x4_1) 15) : Int) := of_decide_eq_true (by assumption)
        have q56 : (Go.bits .and .u8 (bt a0 x4_1) 15) < (16 : Int) := of_decide_eq_true (by assumption)
        have hx56 := bt_at (⟨#[48, 49, 50, 51, 52, 53, 54, 55, 56, 57, 65, 66, 67, 68, 69, 70]⟩ : ByteArray) (Go.bits .and .u8 (bt a0 x4_1) 15)
        replace p56 := eq_true p56
        replace q56 := eq_true q56
        refine sA_ (fun w' => True) [] q_zzQueryEscape.tab6 q_zzQueryEscape.bits6 trivial (fun hHeld HT_ HW_ => ?_)
        generalize wc.drew = w58 at HO_3 HB hHeld ⊢
        refine pA_ 0 (h:=pA_ 1 (h:=pA_ 2 (h:=pA_ 4 (h:=pA_ 5 (h:=tA_ 3 (h:=tA_ 6 (h:=?_)))))))
        refine oA_ 7 (some 22) (h:=fun K hK => ?_)
        refine Kd.R_lit_step (Kd.int .u8) _ 5 ?hg (N := 22) ?hd (xs := ([37, bt (⟨#[48, 49, 50, 51, 52, 53, 54, 55, 56, 57, 65, 66, 67, 68, 69, 70]⟩ : ByteArray) (ji50), bt (⟨#[48, 49, 50, 51, 52, 53, 54, 55, 56, 57, 65, 66, 67, 68, 69, 70]⟩ : ByteArray) (Go.bits .and .u8 (bt a0 x4_1) 15)] : List Int)) (inner := [.int .u8 37, .int .u8 (bt (⟨#[48, 49, 50, 51, 52, 53, 54, 55, 56, 57, 65, 66, 67, 68, 69, 70]⟩ : ByteArray) (ji50)), .int .u8 (bt (⟨#[48, 49, 50, 51, 52, 53, 54, 55, 56, 57, 65, 66, 67, 68, 69, 70]⟩ : ByteArray) (Go.bits .and .u8 (bt a0 x4_1) 15))]) (ok := fun _ => True) (okp := fun _ => True) ?hr ?hp (fun _ hk => hk) trivial (Below.refl _ _) (Nat.le_refl _) (by simp) ?_; (case hd => rfl); (case hg => rfl); (case hr => (go_simp; done)); (case hp => exact (Reps.one (show Kd.M (Kd.int .u8) _ _ _ 37 [.int .u8 37] from rfl) (Reps.one (show Kd.M (Kd.int .u8) _ _ _ (bt (⟨#[48, 49, 50, 51, 52, 53, 54, 55, 56, 57, 65, 66, 67, 68, 69, 70]⟩ : ByteArray) (ji50)) [.int .u8 (bt (⟨#[48, 49, 50, 51, 52, 53, 54, 55, 56, 57, 65, 66, 67, 68, 69, 70]⟩ : ByteArray) (ji50))] from rfl) (Reps.one (show Kd.M (Kd.int .u8) _ _ _ (bt (⟨#[48, 49, 50, 51, 52, 53, 54, 55, 56, 57, 65, 66, 67, 68, 69, 70]⟩ : ByteArray) (Go.bits .and .u8 (bt a0 x4_1) 15)) [.int .u8 (bt (⟨#[48, 49, 50, 51, 52, 53, 54, 55, 56, 57, 65, 66, 67, 68, 69, 70]⟩ : ByteArray) (Go.bits .and .u8 (bt a0 x4_1) 15))] from rfl) (Reps.none _ _)))))
        intro v847 w59 ho60 hb hg_ hnew_
        clear hg_ hnew_
        (rw [← Ny846.out] at ho60)
        have HO848 := aS_ (Kd.R_lower (Kd.R_new' ho60 (Kd.R_lt (Kd.R_st HO_3.out))) (bz_ (bel_ HB.out)))
        replace HO_3 := aS_ (Kd.R_elder' (Kd.R_st HO_3.out) (Kd.R_base ho60) hb)
        replace HB := aS_ (bt_ (bel_ HB.out) hb)
        clear hb ho60
        obtain ⟨Ao62, co62, eo62⟩ := Kd.R_slice HO848.out
        (subst eo62)
        refine hK.out _ _ trivial (fun hHeld => ?_)
        clear hK K
        refine nA_ (h:=?_)
        refine oA_ 8 (some 23) (h:=fun K hK => ?_)
        refine Kd.R_append_rows_step (Kd.int .u8) (w0 := w) w.heap.size (by rfl) (.tmp 15) (.tmp 22) 97 5 (.int .u8 0) 1 rfl Tryz.underlying97 info5 rfl (by decide) (by omega) u3 x3_1 y846 _ _ _ (fun k_ => some k_ ≠ (.slice Ao62 y846.length co62 : Value).ownBlock) (fun _ => False) rfl rfl ?aO ?aR (fun _ _ h => h) (fun _ h => h.elim) ?aF ?aB ?aS ?aL ?_
        (case aR => repeat (exact (Kd.R_reads' HO848.out).2.2))
        (case aB => exact (bel_ HB.out))
        (case aF => exact (fun k_ hk => Kd.fresh' (Kd.R_lt (Kd.R_st HO848.out)) k_ hk))
        (case aO => exact (Kd.R_st (Kd.R_mono HO_3.out (fun _ hk => hk.2))))
        (case aS => exact (bz_ (bel_ HB.out)))
        (case aL => have := LMc57.out; omega)
        intro v850 w61 ho hb hg hat
        rw [← Ny849.out] at ho
        replace HO848 := aS_ (Kd.R_after (ok := (fun _ => True)) (Kd.R_st HO848.out) hg hat)
        replace HB := aS_ (hb)
        have HO851 := aS_ (ho)
        clear HO_3
        clear ho hb hg hat
        refine hK.out _ _ trivial (fun hHeld => ?_)
        clear hK K
        refine nA_ (h:=?_)
        refine pA_ 9 (h:=?_)
        refine done_ (done_of HT_.out (by kernel_rfl)) ?_
        try go_wp2
        go_roundg kj4
        case measure => have := HK1.out; have := HJ4.out; omega
        case rel => exact ⟨(y849), (wrap64 (x4_1 + 1)), (by rfl), H', ⟨by have := HK1.out; have := HJ4.out; omega⟩, ⟨Kd.R_st (Kd.R_mono HO851.out (fun _ hk => trivial))⟩, ⟨bel_ HB.out⟩⟩
   ·rw [if_neg c2] at H
    have c2b0 := decide_eq_false c2
    clear c2
    obtain rfl := Option.some.inj H
    have hcv63 := own_string (P := Tryz.prog) Tryz.underlying97 Tryz.underlying5 Tryz.underlying9 (Kd.own_of_R HO_3.out)
    go_wp2
    go_ret
    exact ⟨by rfl, bel_ HB.out⟩
def q_zzUnescaped.f (a0 : ByteArray) : Option (Int) := if a0.toList = ([50, 49] : List UInt8) then (some 33) else (if a0.toList = ([55, 69] : List UInt8) then (some 126) else (if a0.toList = ([50, 55] : List UInt8) then (some 39) else (if a0.toList = ([50, 56] : List UInt8) then (some 40) else (if a0.toList = ([50, 57] : List UInt8) then (some 41) else (if a0.toList = ([51, 66] : List UInt8) then (some 59) else (if a0.toList = ([50, 70] : List UInt8) then (some 47) else (if a0.toList = ([51, 70] : List UInt8) then (some 63) else (if a0.toList = ([51, 65] : List UInt8) then (some 58) else (if a0.toList = ([52, 48] : List UInt8) then (some 64) else (if a0.toList = ([50, 54] : List UInt8) then (some 38) else (if a0.toList = ([51, 68] : List UInt8) then (some 61) else (if a0.toList = ([50, 66] : List UInt8) then (some 43) else (if a0.toList = ([50, 52] : List UInt8) then (some 36) else (if a0.toList = ([50, 67] : List UInt8) then (some 44) else (if a0.toList = ([50, 51] : List UInt8) then (some 35) else (if a0.toList = ([50, 65] : List UInt8) then (some 42) else (some 0)))))))))))))))))
theorem q_zzUnescaped.calls (a0 : ByteArray) (r : Int) (w : World) (h : q_zzUnescaped.f a0 = some r) :
  Calls Tryz.prog 80 #[.string a0] w fun e w' => e = .returned (.int .u8 r) ∧ Drawn0 w w' := by
 have H : (if a0.toList = ([50, 49] : List UInt8) then (some 33) else (if a0.toList = ([55, 69] : List UInt8) then (some 126) else (if a0.toList = ([50, 55] : List UInt8) then (some 39) else (if a0.toList = ([50, 56] : List UInt8) then (some 40) else (if a0.toList = ([50, 57] : List UInt8) then (some 41) else (if a0.toList = ([51, 66] : List UInt8) then (some 59) else (if a0.toList = ([50, 70] : List UInt8) then (some 47) else (if a0.toList = ([51, 70] : List UInt8) then (some 63) else (if a0.toList = ([51, 65] : List UInt8) then (some 58) else (if a0.toList = ([52, 48] : List UInt8) then (some 64) else (if a0.toList = ([50, 54] : List UInt8) then (some 38) else (if a0.toList = ([51, 68] : List UInt8) then (some 61) else (if a0.toList = ([50, 66] : List UInt8) then (some 43) else (if a0.toList = ([50, 52] : List UInt8) then (some 36) else (if a0.toList = ([50, 67] : List UInt8) then (some 44) else (if a0.toList = ([50, 51] : List UInt8) then (some 35) else (if a0.toList = ([50, 65] : List UInt8) then (some 42) else (some 0)))))))))))))))))) = some r := h
 clear h
 by_cases c2 : a0.toList = ([50, 49] : List UInt8)
 ·rw [if_pos c2] at H
  have c2b0 := beq_iff_eq.mpr c2
  have c2b1 := bne_eq_false_iff_eq.mpr c2
  clear c2
  obtain rfl := Option.some.inj H
  go_enter Tryz.func80, Tryz.ntmps80
  go_wp2
  go_ret
  exact ⟨by rfl, by repeat (exact Drawn0.refl _)⟩
 ·rw [if_neg c2] at H
  have c2b0 := beq_eq_false_iff_ne.mpr c2
  have c2b1 := bne_iff_ne.mpr c2
  by_cases c3 : a0.toList = ([55, 69] : List UInt8)
  ·rw [if_pos c3] at H
   have c3b0 := beq_iff_eq.mpr c3
   have c3b1 := bne_eq_false_iff_eq.mpr c3
   clear c3
   obtain rfl := Option.some.inj H
   go_enter Tryz.func80, Tryz.ntmps80
   go_wp2
   go_ret
   exact ⟨by rfl, by repeat (exact Drawn0.refl _)⟩
  ·rw [if_neg c3] at H
   have c3b0 := beq_eq_false_iff_ne.mpr c3
   have c3b1 := bne_iff_ne.mpr c3
   by_cases c4 : a0.toList = ([50, 55] : List UInt8)
   ·rw [if_pos c4] at H
    have c4b0 := beq_iff_eq.mpr c4
    have c4b1 := bne_eq_false_iff_eq.mpr c4
    clear c4
    obtain rfl := Option.some.inj H
    go_enter Tryz.func80, Tryz.ntmps80
    go_wp2
    go_ret
    exact ⟨by rfl, by repeat (exact Drawn0.refl _)⟩
   ·rw [if_neg c4] at H
    have c4b0 := beq_eq_false_iff_ne.mpr c4
    have c4b1 := bne_iff_ne.mpr c4
    by_cases c5 : a0.toList = ([50, 56] : List UInt8)
    ·rw [if_pos c5] at H
     have c5b0 := beq_iff_eq.mpr c5
     have c5b1 := bne_eq_false_iff_eq.mpr c5
     clear c5
     obtain rfl := Option.some.inj H
     go_enter Tryz.func80, Tryz.ntmps80
     go_wp2
     go_ret
     exact ⟨by rfl, by repeat (exact Drawn0.refl _)⟩
    ·rw [if_neg c5] at H
     have c5b0 := beq_eq_false_iff_ne.mpr c5
     have c5b1 := bne_iff_ne.mpr c5
     by_cases c6 : a0.toList = ([50, 57] : List UInt8)
     ·rw [if_pos c6] at H
      have c6b0 := beq_iff_eq.mpr c6
      have c6b1 := bne_eq_false_iff_eq.mpr c6
      clear c6
      obtain rfl := Option.some.inj H
      go_enter Tryz.func80, Tryz.ntmps80
      go_wp2
      go_ret
      exact ⟨by rfl, by repeat (exact Drawn0.refl _)⟩
     ·rw [if_neg c6] at H
      have c6b0 := beq_eq_false_iff_ne.mpr c6
      have c6b1 := bne_iff_ne.mpr c6
      by_cases c7 : a0.toList = ([51, 66] : List UInt8)
      ·rw [if_pos c7] at H
       have c7b0 := beq_iff_eq.mpr c7
       have c7b1 := bne_eq_false_iff_eq.mpr c7
       clear c7
       obtain rfl := Option.some.inj H
       go_enter Tryz.func80, Tryz.ntmps80
       go_wp2
       go_ret
       exact ⟨by rfl, by repeat (exact Drawn0.refl _)⟩
      ·rw [if_neg c7] at H
       have c7b0 := beq_eq_false_iff_ne.mpr c7
       have c7b1 := bne_iff_ne.mpr c7
       by_cases c8 : a0.toList = ([50, 70] : List UInt8)
       ·rw [if_pos c8] at H
        have c8b0 := beq_iff_eq.mpr c8
        have c8b1 := bne_eq_false_iff_eq.mpr c8
        clear c8
        obtain rfl := Option.some.inj H
        go_enter Tryz.func80, Tryz.ntmps80
        go_wp2
        go_ret
        exact ⟨by rfl, by repeat (exact Drawn0.refl _)⟩
       ·rw [if_neg c8] at H
        have c8b0 := beq_eq_false_iff_ne.mpr c8
        have c8b1 := bne_iff_ne.mpr c8
        by_cases c9 : a0.toList = ([51, 70] : List UInt8)
        ·rw [if_pos c9] at H
         have c9b0 := beq_iff_eq.mpr c9
         have c9b1 := bne_eq_false_iff_eq.mpr c9
         clear c9
         obtain rfl := Option.some.inj H
         go_enter Tryz.func80, Tryz.ntmps80
         go_wp2
         go_ret
         exact ⟨by rfl, by repeat (exact Drawn0.refl _)⟩
        ·rw [if_neg c9] at H
         have c9b0 := beq_eq_false_iff_ne.mpr c9
         have c9b1 := bne_iff_ne.mpr c9
         by_cases c10 : a0.toList = ([51, 65] : List UInt8)
         ·rw [if_pos c10] at H
          have c10b0 := beq_iff_eq.mpr c10
          have c10b1 := bne_eq_false_iff_eq.mpr c10
          clear c10
          obtain rfl := Option.some.inj H
          go_enter Tryz.func80, Tryz.ntmps80
          go_wp2
          go_ret
          exact ⟨by rfl, by repeat (exact Drawn0.refl _)⟩
         ·rw [if_neg c10] at H
          have c10b0 := beq_eq_false_iff_ne.mpr c10
          have c10b1 := bne_iff_ne.mpr c10
          by_cases c11 : a0.toList = ([52, 48] : List UInt8)
          ·rw [if_pos c11] at H
           have c11b0 := beq_iff_eq.mpr c11
           have c11b1 := bne_eq_false_iff_eq.mpr c11
           clear c11
           obtain rfl := Option.some.inj H
           go_enter Tryz.func80, Tryz.ntmps80
           go_wp2
           go_ret
           exact ⟨by rfl, by repeat (exact Drawn0.refl _)⟩
          ·rw [if_neg c11] at H
           have c11b0 := beq_eq_false_iff_ne.mpr c11
           have c11b1 := bne_iff_ne.mpr c11
           by_cases c12 : a0.toList = ([50, 54] : List UInt8)
           ·rw [if_pos c12] at H
            have c12b0 := beq_iff_eq.mpr c12
            have c12b1 := bne_eq_false_iff_eq.mpr c12
            clear c12
            obtain rfl := Option.some.inj H
            go_enter Tryz.func80, Tryz.ntmps80
            go_wp2
            go_ret
            exact ⟨by rfl, by repeat (exact Drawn0.refl _)⟩
           ·rw [if_neg c12] at H
            have c12b0 := beq_eq_false_iff_ne.mpr c12
            have c12b1 := bne_iff_ne.mpr c12
            by_cases c13 : a0.toList = ([51, 68] : List UInt8)
            ·rw [if_pos c13] at H
             have c13b0 := beq_iff_eq.mpr c13
             have c13b1 := bne_eq_false_iff_eq.mpr c13
             clear c13
             obtain rfl := Option.some.inj H
             go_enter Tryz.func80, Tryz.ntmps80
             go_wp2
             go_ret
             exact ⟨by rfl, by repeat (exact Drawn0.refl _)⟩
            ·rw [if_neg c13] at H
             have c13b0 := beq_eq_false_iff_ne.mpr c13
             have c13b1 := bne_iff_ne.mpr c13
             by_cases c14 : a0.toList = ([50, 66] : List UInt8)
             ·rw [if_pos c14] at H
              have c14b0 := beq_iff_eq.mpr c14
              have c14b1 := bne_eq_false_iff_eq.mpr c14
              clear c14
              obtain rfl := Option.some.inj H
              go_enter Tryz.func80, Tryz.ntmps80
              go_wp2
              go_ret
              exact ⟨by rfl, by repeat (exact Drawn0.refl _)⟩
             ·rw [if_neg c14] at H
              have c14b0 := beq_eq_false_iff_ne.mpr c14
              have c14b1 := bne_iff_ne.mpr c14
              by_cases c15 : a0.toList = ([50, 52] : List UInt8)
              ·rw [if_pos c15] at H
               have c15b0 := beq_iff_eq.mpr c15
               have c15b1 := bne_eq_false_iff_eq.mpr c15
               clear c15
               obtain rfl := Option.some.inj H
               go_enter Tryz.func80, Tryz.ntmps80
               go_wp2
               go_ret
               exact ⟨by rfl, by repeat (exact Drawn0.refl _)⟩
              ·rw [if_neg c15] at H
               have c15b0 := beq_eq_false_iff_ne.mpr c15
               have c15b1 := bne_iff_ne.mpr c15
               by_cases c16 : a0.toList = ([50, 67] : List UInt8)
               ·rw [if_pos c16] at H
                have c16b0 := beq_iff_eq.mpr c16
                have c16b1 := bne_eq_false_iff_eq.mpr c16
                clear c16
                obtain rfl := Option.some.inj H
                go_enter Tryz.func80, Tryz.ntmps80
                go_wp2
                go_ret
                exact ⟨by rfl, by repeat (exact Drawn0.refl _)⟩
               ·rw [if_neg c16] at H
                have c16b0 := beq_eq_false_iff_ne.mpr c16
                have c16b1 := bne_iff_ne.mpr c16
                by_cases c17 : a0.toList = ([50, 51] : List UInt8)
                ·rw [if_pos c17] at H
                 have c17b0 := beq_iff_eq.mpr c17
                 have c17b1 := bne_eq_false_iff_eq.mpr c17
                 clear c17
                 obtain rfl := Option.some.inj H
                 go_enter Tryz.func80, Tryz.ntmps80
                 go_wp2
                 go_ret
                 exact ⟨by rfl, by repeat (exact Drawn0.refl _)⟩
                ·rw [if_neg c17] at H
                 have c17b0 := beq_eq_false_iff_ne.mpr c17
                 have c17b1 := bne_iff_ne.mpr c17
                 by_cases c18 : a0.toList = ([50, 65] : List UInt8)
                 ·rw [if_pos c18] at H
                  have c18b0 := beq_iff_eq.mpr c18
                  have c18b1 := bne_eq_false_iff_eq.mpr c18
                  clear c18
                  obtain rfl := Option.some.inj H
                  go_enter Tryz.func80, Tryz.ntmps80
                  go_wp2
                  go_ret
                  exact ⟨by rfl, by repeat (exact Drawn0.refl _)⟩
                 ·rw [if_neg c18] at H
                  have c18b0 := beq_eq_false_iff_ne.mpr c18
                  have c18b1 := bne_iff_ne.mpr c18
                  obtain rfl := Option.some.inj H
                  go_enter Tryz.func80, Tryz.ntmps80
                  go_wp2
                  go_ret
                  exact ⟨by rfl, by repeat (exact Drawn0.refl _)⟩
mutual
def q_zzUnescape.l0 : Nat → ByteArray → List Int → Int → Option (ByteArray)
 | 0, _, _, _ => none
 | k + 1, x0, x3, x4 => if x4 < (x0.size : Int) then (if 0 ≤ x4 then (if (bt x0 x4) = 37 then (q_zzUnescape.j1 k x0 x3 x4 (decide ((wrap64 (x4 + 2)) < (x0.size : Int)))) else (q_zzUnescape.j1 k x0 x3 x4 false)) else (none)) else (some (strOfNums x3))
def q_zzUnescape.j1 : Nat → ByteArray → List Int → Int → Bool → Option (ByteArray)
 | 0, _, _, _, _ => none
 | k + 1, x0, x3, x4, x22 => if x22 = true then (if 0 ≤ (wrap64 (x4 + 1)) then (if (wrap64 (x4 + 1)) ≤ (wrap64 (x4 + 3)) then (if (wrap64 (x4 + 3)) ≤ (x0.size : Int) then ((q_zzUnescaped.f (x0.extract ((wrap64 (x4 + 1)) : Int).toNat ((wrap64 (x4 + 3)) : Int).toNat)).bind fun t852 => (if t852 = 0 then (if 0 ≤ x4 then (if x4 < (x0.size : Int) then (if x3.length < 140737488355328 then (q_zzUnescape.l0 k x0 (x3 ++ [bt x0 x4]) (wrap64 (x4 + 1))) else (none)) else (none)) else (none)) else (if x3.length < 140737488355328 then (q_zzUnescape.l0 k x0 (x3 ++ [t852]) (wrap64 ((wrap64 (x4 + 2)) + 1))) else (none)))) else (none)) else (none)) else (none)) else (if 0 ≤ x4 then (if x4 < (x0.size : Int) then (if x3.length < 140737488355328 then (q_zzUnescape.l0 k x0 (x3 ++ [bt x0 x4]) (wrap64 (x4 + 1))) else (none)) else (none)) else (none))
end
def q_zzUnescape.f (k : Nat) (a0 : ByteArray) : Option (ByteArray) := q_zzUnescape.l0 k a0 ([] : List Int) 0
theorem q_zzUnescape.calls (k : Nat) (a0 : ByteArray) (r : ByteArray) (w : World) (h : q_zzUnescape.f k a0 = some r) :
  Calls Tryz.prog 52 #[.string a0] w fun e w' => e = .returned (.string r) ∧ Below w.heap.size w w' := by
 have HB := aS_ (Below.refl w.heap.size w)
 have H : (q_zzUnescape.l0 k a0 ([] : List Int) 0) = some r := h
 clear h
 have H' := Aside0.mk H
 clear H
 go_enter Tryz.func52, Tryz.ntmps52
 go_wp2
 go_loopg [3, 4] k (fun kq v3 v4 w' => ∃ (x3_1 : List Int) (x4_1 : Int), v4 = .int .i64 x4_1 ∧ Aside0 (q_zzUnescape.l0 kq a0 x3_1 x4_1 = some r) ∧ Aside0 (kq ≤ k) ∧ Aside0 (Kd.R (Kd.int .u8) 5 w' w.heap.size (fun _ => True) v3 x3_1) ∧ Aside0 (Below w.heap.size w w'))
 case atStart => exact ⟨(([] : List Int)), (0), (by rfl), H', ⟨Nat.le_refl _⟩, ⟨by exact Kd.R_nil _ _ _ _ _⟩, ⟨bel_ HB.out⟩⟩
 case round =>
  clear H'
  obtain ⟨x3_1, x4_1, rfl, HA, HK1, HO_3, HB⟩ := hrel
  cases gk with
  | zero => exact absurd HA.out (by simp [q_zzUnescape.l0])
  | succ k1 =>
   have H := HA.out; clear HA
   simp only [q_zzUnescape.l0] at H
   by_cases c2 : x4_1 < (a0.size : Int)
   ·rw [if_pos c2] at H
    have c2b0 := decide_eq_true c2
    clear c2
    have HC3 := Aside0.mk H
    clear H
    go_upto_region 5 with (fail)
    go_cut [22] (fun v22 wc => ∃ (kq : Nat) (x22_2 : Bool), v22 = .bool x22_2 ∧ Aside0 (q_zzUnescape.j1 kq a0 x3_1 x4_1 x22_2 = some r) ∧ Aside0 (kq ≤ k1) ∧ Aside0 (Kd.R (Kd.int .u8) 5 wc w.heap.size (fun _ => True) u3 x3_1) ∧ Aside0 (Below w.heap.size w wc))
    case first =>
     have H := HC3.out
     clear HC3
     replace H := yes_ H; obtain ⟨c4, H⟩ := H
     have c4b0 := decide_eq_true c4
     clear c4
     by_cases c6 : (bt a0 x4_1) = 37
     ·rw [if_pos c6] at H
      have c6b0 := beq_iff_eq.mpr c6
      have c6b1 := bne_eq_false_iff_eq.mpr c6
      clear c6
      have H' := Aside0.mk H
      clear H
      have p5 : 0 ≤ (x4_1 : Int) := of_decide_eq_true (by assumption)
      have q5 : x4_1 < (a0.size : Int) := of_decide_eq_true (by assumption)
      have hx5 := bt_at a0 x4_1
      replace p5 := eq_true p5
      replace q5 := eq_true q5
      go_wp2
      go_meet
      case rel => exact ⟨_, (decide ((wrap64 (x4_1 + 2)) < (a0.size : Int))), (by rfl), H', ⟨by have := HK1.out; omega⟩, ⟨Kd.R_st HO_3.out⟩, ⟨bel_ HB.out⟩⟩
     ·rw [if_neg c6] at H
      have c6b0 := beq_eq_false_iff_ne.mpr c6
      have c6b1 := bne_iff_ne.mpr c6
      have H' := Aside0.mk H
      clear H
      have p5 : 0 ≤ (x4_1 : Int) := of_decide_eq_true (by assumption)
      have q5 : x4_1 < (a0.size : Int) := of_decide_eq_true (by assumption)
      have hx5 := bt_at a0 x4_1
      replace p5 := eq_true p5
      replace q5 := eq_true q5
      go_wp2
      go_meet
      case rel => exact ⟨_, (false), (by rfl), H', ⟨by have := HK1.out; omega⟩, ⟨Kd.R_st HO_3.out⟩, ⟨bel_ HB.out⟩⟩
    case rest =>
     clear HC3
     obtain ⟨kq, x22_2, rfl, HA, HJ2, HO_3, HB⟩ := hcut
     cases kq with
     | zero => exact absurd HA.out (by simp [q_zzUnescape.j1])
     | succ kj2 =>
      have H := HA.out; clear HA
      simp only [q_zzUnescape.j1] at H
      by_cases c7 : x22_2 = true
      ·subst c7
       rw [if_pos rfl] at H
       obtain ⟨ji8, hji8⟩ : ∃ j_ : Int, (wrap64 (x4_1 + 1)) = j_ := ⟨_, rfl⟩
       rw [hji8] at H
       have hji8w : (IntKind.i64.wrap (x4_1 + 1)) = ji8 := (i64_w _).trans hji8
       replace H := yes_ H; obtain ⟨c9, H⟩ := H
       have c9b0 := eq_true c9
       have c9b1 := decide_eq_true c9
       clear c9
       replace H := yes_ H; obtain ⟨c10, H⟩ := H
       have c10b0 := eq_true c10
       have c10b1 := decide_eq_true c10
       replace H := yes_ H; obtain ⟨c11, H⟩ := H
       have c11b0 := eq_true c11
       have c11b1 := decide_eq_true c11
       replace H := Option.bind_eq_some_iff.mp H
       obtain ⟨t852, A120, H⟩ := H
       have A12 := Aside0.mk A120
       clear A120
       by_cases c13 : t852 = 0
       ·rw [if_pos c13] at H
        have c13b0 := beq_iff_eq.mpr c13
        have c13b1 := bne_eq_false_iff_eq.mpr c13
        clear c13
        replace H := yes_ H; obtain ⟨c14, H⟩ := H
        have c14b0 := decide_eq_true c14
        clear c14
        replace H := yes_ H; obtain ⟨c15, H⟩ := H
        have c15b0 := decide_eq_true c15
        clear c15
        replace H := yes_ H; obtain ⟨c17, H⟩ := H
        have LMc17 := Aside0.mk c17
        clear c17
        obtain ⟨y853, hy853⟩ : ∃ y_ : List Int, y_ = (x3_1 ++ [bt a0 x4_1]) := ⟨_, rfl⟩
        replace H : (q_zzUnescape.l0 kj2 a0 y853 ji8) = some r := by (rw [hy853]; with_reducible exact H)
        have Ny853 := Aside0.mk hy853
        clear hy853
        have H' := Aside0.mk H
        clear H
        go_wp2_with (first | ((with_reducible refine gate_callee (f := 80) rfl ?_); refine goesL_ (some 29) rfl rfl Tryz.func80 (by kernel_rfl) rfl #[.string (a0.extract ((ji8) : Int).toNat ((wrap64 (x4_1 + 3)) : Int).toNat)] rfl (by (try simp only [List.map_toArray, List.map_cons, List.map_nil]); rfl) ?_; (with_reducible refine (q_zzUnescaped.calls (a0.extract ((ji8) : Int).toNat ((wrap64 (x4_1 + 3)) : Int).toNat) t852 _ A12.out).mono ?_); rintro e w' ⟨rfl, ⟨nd, rfl⟩⟩; refine ⟨_, rfl, ?_⟩; have p16 : 0 ≤ (x4_1 : Int) := of_decide_eq_true (by assumption); have q16 : x4_1 < (a0.size : Int) := of_decide_eq_true (by assumption); have hx16 := bt_at a0 x4_1; replace p16 := eq_true p16; replace q16 := eq_true q16) | ((with_reducible refine gate_builtin (b := .append) (xs := #[.tmp 38, .tmp 42]) rfl ?_); (try (refine gate_guard (by rfl) ?_; dsimp only)); at_builtin; refine Kd.R_append (Kd.int .u8) (w0 := w) w.heap.size rfl (.tmp 38) (.tmp 42) 97 5 (.int .u8 0) 1 rfl Tryz.underlying97 info5 rfl (by decide) (by omega) u3 x3_1 (bt a0 x4_1) [.int .u8 (bt a0 x4_1)] (fun _ => True) (fun _ => False) rfl rfl ?aP (fun _ hk => hk.elim) ?aF ?aO ?aB ?aS ?aL ?_; (case aP => exact rfl); (case aB => exact (bel_ HB.out)); (case aF => exact (fun _ _ => trivial)); (case aO => exact (Kd.R_st HO_3.out)); (case aS => exact (bz_ (bel_ HB.out))); (case aL => have := LMc17.out; omega); intro v854 w18 ho hb hg hat; rw [← Ny853.out] at ho; replace HB := aS_ (hb); have HO855 := aS_ (ho); clear HO_3; clear ho hb hg hat))
        go_roundg kj2
        case measure => have := HK1.out; have := HJ2.out; omega
        case rel => exact ⟨(y853), (ji8), (by rfl), H', ⟨by have := HK1.out; have := HJ2.out; omega⟩, ⟨Kd.R_st HO855.out⟩, ⟨bel_ HB.out⟩⟩
       ·rw [if_neg c13] at H
        have c13b0 := beq_eq_false_iff_ne.mpr c13
        have c13b1 := bne_iff_ne.mpr c13
        replace H := yes_ H; obtain ⟨c19, H⟩ := H
        have LMc19 := Aside0.mk c19
        clear c19
        obtain ⟨y856, hy856⟩ : ∃ y_ : List Int, y_ = (x3_1 ++ [t852]) := ⟨_, rfl⟩
        replace H : (q_zzUnescape.l0 kj2 a0 y856 (wrap64 ((wrap64 (x4_1 + 2)) + 1))) = some r := by (rw [hy856]; with_reducible exact H)
        have Ny856 := Aside0.mk hy856
        clear hy856
        have H' := Aside0.mk H
        clear H
        go_wp2_with (first | ((with_reducible refine gate_callee (f := 80) rfl ?_); refine goesL_ (some 29) rfl rfl Tryz.func80 (by kernel_rfl) rfl #[.string (a0.extract ((ji8) : Int).toNat ((wrap64 (x4_1 + 3)) : Int).toNat)] rfl (by (try simp only [List.map_toArray, List.map_cons, List.map_nil]); rfl) ?_; (with_reducible refine (q_zzUnescaped.calls (a0.extract ((ji8) : Int).toNat ((wrap64 (x4_1 + 3)) : Int).toNat) t852 _ A12.out).mono ?_); rintro e w' ⟨rfl, ⟨nd, rfl⟩⟩; refine ⟨_, rfl, ?_⟩) | ((with_reducible refine gate_builtin (b := .append) (xs := #[.tmp 32, .tmp 34]) rfl ?_); (try (refine gate_guard (by rfl) ?_; dsimp only)); at_builtin; refine Kd.R_append (Kd.int .u8) (w0 := w) w.heap.size rfl (.tmp 32) (.tmp 34) 97 5 (.int .u8 0) 1 rfl Tryz.underlying97 info5 rfl (by decide) (by omega) u3 x3_1 t852 [.int .u8 t852] (fun _ => True) (fun _ => False) rfl rfl ?aP (fun _ hk => hk.elim) ?aF ?aO ?aB ?aS ?aL ?_; (case aP => exact rfl); (case aB => exact (bel_ HB.out)); (case aF => exact (fun _ _ => trivial)); (case aO => exact (Kd.R_st HO_3.out)); (case aS => exact (bz_ (bel_ HB.out))); (case aL => have := LMc19.out; omega); intro v857 w20 ho hb hg hat; rw [← Ny856.out] at ho; replace HB := aS_ (hb); have HO858 := aS_ (ho); clear HO_3; clear ho hb hg hat))
        go_roundg kj2
        case measure => have := HK1.out; have := HJ2.out; omega
        case rel => exact ⟨(y856), (wrap64 ((wrap64 (x4_1 + 2)) + 1)), (by rfl), H', ⟨by have := HK1.out; have := HJ2.out; omega⟩, ⟨Kd.R_st HO858.out⟩, ⟨bel_ HB.out⟩⟩
      ·replace c7 := Bool.eq_false_iff.mpr c7
       subst c7
       rw [if_neg (show ¬ (false = true) by decide)] at H
       replace H := yes_ H; obtain ⟨c21, H⟩ := H
       have c21b0 := decide_eq_true c21
       clear c21
       replace H := yes_ H; obtain ⟨c22, H⟩ := H
       have c22b0 := decide_eq_true c22
       clear c22
       replace H := yes_ H; obtain ⟨c24, H⟩ := H
       have LMc24 := Aside0.mk c24
       clear c24
       obtain ⟨y859, hy859⟩ : ∃ y_ : List Int, y_ = (x3_1 ++ [bt a0 x4_1]) := ⟨_, rfl⟩
       replace H : (q_zzUnescape.l0 kj2 a0 y859 (wrap64 (x4_1 + 1))) = some r := by (rw [hy859]; with_reducible exact H)
       have Ny859 := Aside0.mk hy859
       clear hy859
       have H' := Aside0.mk H
       clear H
       have p23 : 0 ≤ (x4_1 : Int) := of_decide_eq_true (by assumption)
       have q23 : x4_1 < (a0.size : Int) := of_decide_eq_true (by assumption)
       have hx23 := bt_at a0 x4_1
       replace p23 := eq_true p23
       replace q23 := eq_true q23
       go_wp2_with (((with_reducible refine gate_builtin (b := .append) (xs := #[.tmp 38, .tmp 42]) rfl ?_); (try (refine gate_guard (by rfl) ?_; dsimp only)); at_builtin; refine Kd.R_append (Kd.int .u8) (w0 := w) w.heap.size rfl (.tmp 38) (.tmp 42) 97 5 (.int .u8 0) 1 rfl Tryz.underlying97 info5 rfl (by decide) (by omega) u3 x3_1 (bt a0 x4_1) [.int .u8 (bt a0 x4_1)] (fun _ => True) (fun _ => False) rfl rfl ?aP (fun _ hk => hk.elim) ?aF ?aO ?aB ?aS ?aL ?_; (case aP => exact rfl); (case aB => exact (bel_ HB.out)); (case aF => exact (fun _ _ => trivial)); (case aO => exact (Kd.R_st HO_3.out)); (case aS => exact (bz_ (bel_ HB.out))); (case aL => have := LMc24.out; omega); intro v860 w25 ho hb hg hat; rw [← Ny859.out] at ho; replace HB := aS_ (hb); have HO861 := aS_ (ho); clear HO_3; clear ho hb hg hat))
       go_roundg kj2
       case measure => have := HK1.out; have := HJ2.out; omega
       case rel => exact ⟨(y859), (wrap64 (x4_1 + 1)), (by rfl), H', ⟨by have := HK1.out; have := HJ2.out; omega⟩, ⟨Kd.R_st HO861.out⟩, ⟨bel_ HB.out⟩⟩
   ·rw [if_neg c2] at H
    have c2b0 := decide_eq_false c2
    clear c2
    obtain rfl := Option.some.inj H
    have hcv26 := own_string (P := Tryz.prog) Tryz.underlying97 Tryz.underlying5 Tryz.underlying9 (Kd.own_of_R HO_3.out)
    go_wp2
    go_ret
    exact ⟨by rfl, bel_ HB.out⟩
theorem buf_write (B b : Nat) (acc : Bs) (s : ByteArray) (w : World) (h : Lib.IsBuffer 100 5 B b (Lib.byteCells acc) w) (hB : B ≤ w.heap.size) (hl : acc.length + s.size ≤ 140737488355328) :
  Calls Tryz.prog 46 #[.pointer (some ⟨b, 0, none⟩), .string s] w fun e w' => e = .returned (.tuple #[.int .i64 s.size, .nilIface]) ∧ Lib.IsBuffer 100 5 B b (Lib.byteCells (acc ++ s.data.toList)) w' ∧ Below B w w' ∧ Lib.OthersKept 5 (some b) w w' :=
 (Any.Buffer_WriteString_kept Tryz.laysM178 B b (Lib.byteCells acc) s w h hB (Lib.byteCells_one _) (by rw [Lib.byteCells_length]; exact hl)).mono fun e w' h => by rw [Lib.byteCells_append]; exact h
theorem itoa_z (z : Int) (m : Nat) (hz : z = (m : Int)) (hm : m ≤ 1000001) (w : World) (ht : Tab10 w) :
  Calls Tryz.prog 50 #[.int .i64 z] w fun e w' => e = .returned (.string (B (dec m))) ∧ Below w.heap.size w w' := hz ▸ itoa_calls m hm w ht
def hdrS (s1 s2 n1 n2 : Nat) : Bs := [64, 64, 32, 45] ++ span s1 n1 ++ [32, 43] ++ span s2 n2 ++ [32, 64, 64, 10]
def lineS (Q : S93 → Bs) (d : S93) : Bs := signB d.f0 :: Q d ++ [10]
def pst.T6 : Bool × List (List Nat × List Nat) := (true, [([], []), ([0], [0]), ([1], [1]), ([2], [2]), ([3], [3]), ([4], [4]), ([5], [5]), ([], []), ([7], [7]), ([8], [8]), ([9], [9]), ([10, 5], [10]), ([6, 11], [6, 11]), ([12, 11, 0, 1, 2, 3, 4, 5, 6, 7, 8, 9, 10, 11, 12], [12])])
def pst.B6 : List Nat := [0, 1, 3, 7, 15, 31, 63, 0, 128, 384, 896, 1983, 4095, 8191]
theorem pst.tab6 : rtab .any (opsOf Tryz.f28 6) = pst.T6 := by kernel_rfl
theorem pst.bits6 : waitsOk pst.T6.2 pst.B6 = true := by kernel_rfl
def pst.T11 : Bool × List (List Nat × List Nat) := (true, [([], []), ([0], [0]), ([1], [1]), ([2], [2]), ([3], [3]), ([4], [4]), ([5], [5]), ([], []), ([7], [7]), ([8], [8]), ([9], [9]), ([10, 5], [10]), ([6, 11], [6, 11]), ([12, 11, 0, 1, 2, 3, 4, 5, 6, 7, 8, 9, 10, 11, 12], [12])])
def pst.B11 : List Nat := [0, 1, 3, 7, 15, 31, 63, 0, 128, 384, 896, 1983, 4095, 8191]
theorem pst.tab11 : rtab .any (opsOf Tryz.f28 11) = pst.T11 := by kernel_rfl
theorem pst.bits11 : waitsOk pst.T11.2 pst.B11 = true := by kernel_rfl
def Buf (G : Nat) (acc : Bs) (n : Nat) (w : World) : Prop := Lib.IsBuffer 100 5 G G (Lib.byteCells acc) w ∧ acc.length ≤ n ∧ G ≤ w.heap.size
theorem Buf.fresh (w : World) : Buf w.heap.size [] 0 (w.alloc (.cells #[.slice none 0 0, .int .i64 0, .int .i8 0] 100)) := ⟨Lib.fresh_isBuffer 100 5 w, Nat.le_refl _, by simp⟩
theorem Buf.alloc {G n : Nat} {acc : Bs} {w : World} (h : Buf G acc n w) (o : Obj) : Buf G acc n (w.alloc o) := ⟨Lib.IsBuffer.alloc h.1 o, h.2.1, Nat.le_trans h.2.2 (by simp)⟩
theorem Buf.below {G n : Nat} {acc : Bs} {w w' : World} (h : Buf G acc n w) (hb : Below w.heap.size w w') : Buf G acc n w' := ⟨Lib.IsBuffer.old h.1 hb, h.2.1, Nat.le_trans h.2.2 hb.size⟩
theorem Buf.drewN {G n : Nat} {acc : Bs} {w : World} (h : Buf G acc n w) (m : Nat) : Buf G acc n (w.drewN m) := ⟨Lib.IsBuffer.drewN h.1 m, h.2.1, h.2.2⟩
theorem Buf.le {G n m : Nat} {acc : Bs} {w : World} (h : Buf G acc n w) (hm : n ≤ m) : Buf G acc m w := ⟨h.1, Nat.le_trans h.2.1 hm, h.2.2⟩
theorem buf_w {G n : Nat} {acc : Bs} (s : ByteArray) {w : World} (h : Buf G acc n w) (hn : n ≤ 100000000) (hs : s.size ≤ 10000) :
  Calls Tryz.prog 46 #[.pointer (some ⟨G, 0, none⟩), .string s] w fun e w' => e = .returned (.tuple #[.int .i64 s.size, .nilIface]) ∧ Buf G (acc ++ s.data.toList) (n + 10000) w' ∧ Below G w w' ∧ Lib.OthersKept 5 (some G) w w' :=
 (buf_write G G acc s w h.1 h.2.2 (by have := h.2.1; omega)).mono fun e w' ⟨h1, h2, h3, h4⟩ => ⟨h1, ⟨h2, by rw [List.length_append, ← size_data]; have := h.2.1; omega, Nat.le_trans h.2.2 h3.size⟩, h3, h4⟩
theorem nolim {a b : Nat} (h : a + b ≤ 1000000) : (9223372036854775807 < a + b) = False := eq_false (by omega)
theorem cel_ {w w' : World} (hb : Below w.heap.size w w') {a : Addr} {v : Value} (hc : w.cell? a = some v) : w'.cell? a = some v := (hb.cell (World.block_lt_of_cell? w a hc)).trans hc
theorem dec_len7 (m : Nat) (h : m ≤ 1000001) : (B (dec m)).size ≤ 7 := by rw [B_size]; exact dec_len 6 m (by omega)
theorem pstr_calls (k g c : Nat) (A : Option Addr) (l : List S93) (s1 s2 n1 n2 : Nat) (hs1 : s1 ≤ 1000000) (hs2 : s2 ≤ 1000000) (hn1 : n1 ≤ 1000000) (hn2 : n2 ≤ 1000000) (Q : S93 → Bs) (r : ByteArray) (w : World)
  (hbk : w.heap[g]? = some (.cells #[.slice A l.length c, .int .i64 (s1 : Int), .int .i64 (s2 : Int), .int .i64 (n1 : Int), .int .i64 (n2 : Int)] 67 (0, 0)))
  (hr : Kd.C k93 w A l.length l) (hlc : l.length ≤ c) (ht : Tab10 w) (hl : l.length ≤ 100)
  (hq : ∀ d ∈ l, (d.f0 = -1 ∨ d.f0 = 0 ∨ d.f0 = 1) ∧ (Q d).length ≤ 1000 ∧ ∃ q, q_zzQueryEscape.f k d.f1 = some q ∧ q_zzReplace.f k q ⟨#[43]⟩ ⟨#[32]⟩ = some (B (Q d)))
  (hu : q_zzUnescape.f k (B (hdrS s1 s2 n1 n2 ++ l.flatMap (lineS Q))) = some r) :
  Calls Tryz.prog 28 #[.pointer (some ⟨g, 0, none⟩)] w fun e w' => e = .returned (.string r) ∧ Below w.heap.size w w' := by
 have hc1 := cell_of hbk (i := 1) rfl
 have hc2 := cell_of hbk (i := 2) rfl
 have hc3 := cell_of hbk (i := 3) rfl
 have hc4 := cell_of hbk (i := 4) rfl
 have HBK := Aside0.mk hbk
 have HR := Aside0.mk hr
 have HC := Aside0.mk hlc
 have HL := Aside0.mk hl
 have HQ := Aside0.mk hq
 have HU := Aside0.mk hu
 have HT0 := Aside0.mk ht
 have HN := Aside0.mk (And.intro hs1 (And.intro hs2 (And.intro hn1 hn2)))
 clear hbk hr hlc hl hq hu ht
 go_enter Tryz.func28, Tryz.ntmps28
 go_upto_if 12 with (fail)
 go_cut [3] (fun v3 wc => v3 = .string (B (span s1 n1)) ∧ Aside0 (Below w.heap.size w wc))
 case first =>
  by_cases e0 : n1 = 0
  ·have d0 : ((n1 : Int) == 0) = true := by rw [e0]; rfl
   have d1 : ((n1 : Int) != 0) = false := by rw [e0]; rfl
   have z0 := nolim (a := (B (dec s1)).size) (b := 2) (by have := dec_len7 s1 (by omega); omega)
   go_wp2_with ((go_at_call 50; refine (itoa_z _ s1 rfl (by omega) _ HT0.out).mono ?_; rintro e w1 ⟨rfl, hb1⟩))
   go_meet
   case rel => exact ⟨by unfold span; rw [if_pos e0, ← B_append]; rfl, ⟨hb1⟩⟩
  ·have d0 : ((n1 : Int) == 0) = false := beq_eq_false_iff_ne.mpr (by omega)
   have d1 : ((n1 : Int) != 0) = true := bne_iff_ne.mpr (by omega)
   by_cases e1 : n1 = 1
   ·have d2 : ((n1 : Int) == 1) = true := by rw [e1]; rfl
    have d3 : ((n1 : Int) != 1) = false := by rw [e1]; rfl
    go_wp2_with ((go_at_call 50; refine (itoa_z _ (s1 + 1) (by omega) (by omega) _ HT0.out).mono ?_; rintro e w1 ⟨rfl, hb1⟩))
    go_meet
    case rel => exact ⟨by unfold span; rw [if_neg e0, if_pos e1], ⟨hb1⟩⟩
   ·have d2 : ((n1 : Int) == 1) = false := beq_eq_false_iff_ne.mpr (by omega)
    have d3 : ((n1 : Int) != 1) = true := bne_iff_ne.mpr (by omega)
    go_wp2
    refine sA_ (fun w' => w'.cell? ⟨g, 1, none⟩ = some (.int .i64 (s1 : Int)) ∧ w'.cell? ⟨g, 3, none⟩ = some (.int .i64 (n1 : Int))) [] pst.tab6 pst.bits6 ⟨hc1, hc3⟩ (fun hHeld HT_ HW_ => ?_)
    refine pA_ 0 (h:=pA_ 1 (h:=pA_ 2 (h:=pA_ 7 (h:=pA_ 8 (h:=pA_ 9 (h:=tA_ 3 (h:=tA_ 10 (h:=pA_ 4 (h:=?_)))))))))
    have hbw := bD_ (Below.refl w.heap.size w)
    have htw := HT0.out.below (bD_ (Below.refl _ _))
    generalize w.drew = W at hHeld hbw htw ⊢
    refine oA_ 5 (some 35) (h:=fun K hK => ?_)
    refine gA_ Tryz.func50 #[.int .i64 (wrap64 ((s1 : Int) + 1))] ?_
    refine (itoa_z _ (s1 + 1) (by unfold wrap64; omega) (by omega) _ htw).mono ?_
    rintro e w1 ⟨rfl, hb1⟩
    refine ⟨_, rfl, ?_⟩
    have hbw1 := bh_ hbw hbw.size hb1
    have ht1 := htw.below hb1
    refine hK.out _ _ ⟨cel_ hb1 hHeld.1, cel_ hb1 hHeld.2⟩ (fun hHeld => ?_)
    clear hK K
    refine nA_ (h:=?_)
    have z1 := nolim (a := (B (dec (s1 + 1))).size) (b := 1) (by have := dec_len7 (s1 + 1) (by omega); omega)
    refine pA_ 6 (h:=?_)
    refine oA_ 11 (some 41) (h:=fun K hK => ?_)
    refine gA_ Tryz.func50 #[.int .i64 (n1 : Int)] ?_
    refine (itoa_z _ n1 rfl (by omega) _ ht1).mono ?_
    rintro e w2 ⟨rfl, hb2⟩
    refine ⟨_, rfl, ?_⟩
    have hbw2 := bh_ hbw1 hbw1.size hb2
    refine hK.out _ _ ⟨cel_ hb2 hHeld.1, cel_ hb2 hHeld.2⟩ (fun hHeld => ?_)
    clear hK K
    refine nA_ (h:=?_)
    have z2 := nolim (a := (B (dec (s1 + 1))).size + 1) (b := (B (dec n1)).size) (by have := dec_len7 (s1 + 1) (by omega); have := dec_len7 n1 (by omega); omega)
    refine pA_ 12 (h:=pA_ 13 (h:=?_))
    refine dA_ (h:=?_)
    go_wp2
    go_meet
    case rel => exact ⟨by unfold span; rw [if_neg e0, if_neg e1, ← B_append, ← B_append]; rfl, ⟨hbw2⟩⟩
 case rest =>
  obtain ⟨rfl, hb0⟩ := hcut
  have HB := hb0
  clear hb0
  replace hc2 := cel_ HB.out hc2
  replace hc4 := cel_ HB.out hc4
  have HT1 := Aside0.mk (HT0.out.below HB.out)
  clear HT0 hc1 hc3
  go_upto_if 47 with (fail)
  go_cut [4, 3] (fun v4 v3 wc => v4 = .string (B (span s2 n2)) ∧ .string (B (span s1 n1)) = v3 ∧ Aside0 (Below w.heap.size w wc))
  case first =>
   by_cases e0 : n2 = 0
   ·have d0 : ((n2 : Int) == 0) = true := by rw [e0]; rfl
    have d1 : ((n2 : Int) != 0) = false := by rw [e0]; rfl
    have z0 := nolim (a := (B (dec s2)).size) (b := 2) (by have := dec_len7 s2 (by omega); omega)
    go_wp2_with ((go_at_call 50; refine (itoa_z _ s2 rfl (by omega) _ HT1.out).mono ?_; rintro e w1 ⟨rfl, hb1⟩))
    go_meet
    case rel => exact ⟨by unfold span; rw [if_pos e0, ← B_append]; rfl, rfl, ⟨bh_ HB.out HB.out.size hb1⟩⟩
   ·have d0 : ((n2 : Int) == 0) = false := beq_eq_false_iff_ne.mpr (by omega)
    have d1 : ((n2 : Int) != 0) = true := bne_iff_ne.mpr (by omega)
    by_cases e1 : n2 = 1
    ·have d2 : ((n2 : Int) == 1) = true := by rw [e1]; rfl
     have d3 : ((n2 : Int) != 1) = false := by rw [e1]; rfl
     go_wp2_with ((go_at_call 50; refine (itoa_z _ (s2 + 1) (by omega) (by omega) _ HT1.out).mono ?_; rintro e w1 ⟨rfl, hb1⟩))
     go_meet
     case rel => exact ⟨by unfold span; rw [if_neg e0, if_pos e1], rfl, ⟨bh_ HB.out HB.out.size hb1⟩⟩
    ·have d2 : ((n2 : Int) == 1) = false := beq_eq_false_iff_ne.mpr (by omega)
     have d3 : ((n2 : Int) != 1) = true := bne_iff_ne.mpr (by omega)
     go_wp2
     refine sA_ (fun w' => w'.cell? ⟨g, 2, none⟩ = some (.int .i64 (s2 : Int)) ∧ w'.cell? ⟨g, 4, none⟩ = some (.int .i64 (n2 : Int))) [] pst.tab11 pst.bits11 ⟨hc2, hc4⟩ (fun hHeld HT_ HW_ => ?_)
     refine pA_ 0 (h:=pA_ 1 (h:=pA_ 2 (h:=pA_ 7 (h:=pA_ 8 (h:=pA_ 9 (h:=tA_ 3 (h:=tA_ 10 (h:=pA_ 4 (h:=?_)))))))))
     have hbw := bD_ HB.out
     have htw := HT1.out.below (bD_ (Below.refl _ _))
     generalize wc.drew = W at hHeld hbw htw ⊢
     refine oA_ 5 (some 70) (h:=fun K hK => ?_)
     refine gA_ Tryz.func50 #[.int .i64 (wrap64 ((s2 : Int) + 1))] ?_
     refine (itoa_z _ (s2 + 1) (by unfold wrap64; omega) (by omega) _ htw).mono ?_
     rintro e w1 ⟨rfl, hb1⟩
     refine ⟨_, rfl, ?_⟩
     have hbw1 := bh_ hbw hbw.size hb1
     have ht1 := htw.below hb1
     refine hK.out _ _ ⟨cel_ hb1 hHeld.1, cel_ hb1 hHeld.2⟩ (fun hHeld => ?_)
     clear hK K
     refine nA_ (h:=?_)
     have z1 := nolim (a := (B (dec (s2 + 1))).size) (b := 1) (by have := dec_len7 (s2 + 1) (by omega); omega)
     refine pA_ 6 (h:=?_)
     refine oA_ 11 (some 76) (h:=fun K hK => ?_)
     refine gA_ Tryz.func50 #[.int .i64 (n2 : Int)] ?_
     refine (itoa_z _ n2 rfl (by omega) _ ht1).mono ?_
     rintro e w2 ⟨rfl, hb2⟩
     refine ⟨_, rfl, ?_⟩
     have hbw2 := bh_ hbw1 hbw1.size hb2
     refine hK.out _ _ ⟨cel_ hb2 hHeld.1, cel_ hb2 hHeld.2⟩ (fun hHeld => ?_)
     clear hK K
     refine nA_ (h:=?_)
     have z2 := nolim (a := (B (dec (s2 + 1))).size + 1) (b := (B (dec n2)).size) (by have := dec_len7 (s2 + 1) (by omega); have := dec_len7 n2 (by omega); omega)
     refine pA_ 12 (h:=pA_ 13 (h:=?_))
     refine dA_ (h:=?_)
     go_wp2
     go_meet
     case rel => exact ⟨by unfold span; rw [if_neg e0, if_neg e1, ← B_append, ← B_append]; rfl, rfl, ⟨hbw2⟩⟩
  case rest =>
   clear HB hc2 hc4
   obtain ⟨rfl, rfl, HB⟩ := hcut
   have l1 := span_len s1 n1 hs1 hn1
   have l2 := span_len s2 n2 hs2 hn2
   have z0 := nolim (a := 4) (b := (B (span s1 n1)).size) (by rw [B_size]; omega)
   have z1 := nolim (a := 4 + (B (span s1 n1)).size) (b := 2) (by rw [B_size]; omega)
   have z2 := nolim (a := 4 + (B (span s1 n1)).size + 2) (b := (B (span s2 n2)).size) (by rw [B_size, B_size]; omega)
   have z3 := nolim (a := 4 + (B (span s1 n1)).size + 2 + (B (span s2 n2)).size) (b := 4) (by rw [B_size, B_size]; omega)
   have hc0 := cel_ HB.out (cell_of HBK.out (i := 0) rfl)
   have hbf := Buf.fresh wc
   have BF := Aside0.mk hbf
   clear hbf
   have HGW := Aside0.mk HB.out.size
   have HCG := Aside0.mk (World.block_lt_of_cell? wc ⟨g, 0, none⟩ hc0)
   go_upto_region 14 with ((go_at_call 46; refine (buf_w _ BF.out (by omega) (by simp only [ByteArray.size_append, B_size]; show 4 + (span s1 n1).length + 2 + (span s2 n2).length + 4 ≤ 10000; omega)).mono ?_; rintro e w3 ⟨rfl, bf3, hb3, ok3⟩; have BF3 := Aside0.mk bf3; have HB3 := Aside0.mk (Below.trans (Below.alloc HB.out HB.out.size _) (hb3.mono HB.out.size)); clear bf3; replace hc0 := (hb3.cell (p := ⟨g, 0, none⟩) HCG.out).trans (cel_ (Below.alloc (Below.refl _ _) (Nat.le_refl _) _) hc0); clear hb3 ok3 BF HB))
   clear z0 z1 z2 z3 l1 l2
   generalize wc.heap.size = G at *
   have BF4 := Aside0.mk (show Buf G (hdrS s1 s2 n1 n2 ++ (l.take 0).flatMap (lineS Q)) (10000 + 30000 * 0) w3 from by
    have h_ := BF3.out
    simpa [hdrS, ByteArray.data_append, B] using h_)
   clear BF3
   go_wp2
   go_loopg [93] l.length (fun kq v93 w' => ∃ i : Nat, v93 = .int .i64 (i : Int) ∧ Aside0 (i + kq = l.length) ∧ Aside0 (Buf G (hdrS s1 s2 n1 n2 ++ (l.take i).flatMap (lineS Q)) (10000 + 30000 * i) w') ∧ Aside0 (Below w.heap.size w w'))
   case atStart => exact ⟨0, rfl, ⟨by omega⟩, BF4, HB3⟩
   case round =>
    clear BF4 HB3 hc0
    obtain ⟨i, rfl, HI, BF, HB⟩ := hrel
    by_cases ci : i < l.length
    ·cases gk with
     | zero => exact absurd HI.out (by omega)
     | succ k1 =>
      have c0 : decide ((i : Int) < (l.length : Int)) = true := decide_eq_true (by omega)
      have c1 : decide (i < l.length) = true := decide_eq_true ci
      obtain ⟨ad, e_, hx0, hx1⟩ := at_T93 HR.out (i : Int) (by omega) (by omega)
      cases e_
      replace hx0 := cel_ HB.out hx0
      replace hx1 := cel_ HB.out hx1
      have p1 := eq_true (show (0 : Int) ≤ (i : Int) by omega)
      have q1 := eq_true (show (i : Int) < (l.length : Int) by omega)
      have hrd : rd_T93 l (i : Int) = l[i] := by unfold rd_T93; exact getD_nat l _ i ci
      rw [hrd] at hx0 hx1
      simp only [Int.toNat_natCast] at hx0 hx1
      have htk : hdrS s1 s2 n1 n2 ++ (l.take (i + 1)).flatMap (lineS Q) = (hdrS s1 s2 n1 n2 ++ (l.take i).flatMap (lineS Q)) ++ lineS Q l[i] := by rw [List.take_succ_eq_append_getElem ci, List.flatMap_append, List.append_assoc, List.flatMap_singleton]
      obtain ⟨hty, hlen, q, hq1, hq2⟩ := HQ.out l[i] (List.getElem_mem ci)
      generalize l[i] = d at hx0 hx1 htk hty hlen hq1 hq2
      generalize hdrS s1 s2 n1 n2 ++ (l.take i).flatMap (lineS Q) = acc at BF htk
      have TK := Aside0.mk htk
      have TY := Aside0.mk hty
      have QL := Aside0.mk hlen
      have Q1 := Aside0.mk hq1
      have Q2 := Aside0.mk hq2
      have CI := Aside0.mk ci
      have LL := HL.out
      clear htk hty hlen hq1 hq2 ci hrd
      go_upto_block 2 with (fail)
      have HD := Aside0.mk (blk_new wr (.cells #[.int .i8 d.f0, .string d.f1] 93))
      have BF1 := Aside0.mk (BF.out.alloc (.cells #[.int .i8 d.f0, .string d.f1] 93))
      have HB1 := Aside0.mk (Below.alloc HB.out HB.out.size (.cells #[.int .i8 d.f0, .string d.f1] 93))
      have hgd := Lib.IsBuffer.lt BF.out.1
      clear BF HB hx0 hx1
      generalize wr.heap.size = gd at HD hgd ⊢
      refine wp_at (fun W => Buf G acc (10000 + 30000 * i) W ∧ W.heap[gd]? = some (.cells #[.int .i8 d.f0, .string d.f1] 93 (0, 0)) ∧ Below w.heap.size w W) ⟨BF1.out, HD.out, HB1.out⟩ ?_
      clear HD BF1 HB1
      rintro W ⟨bf0, hd0, hb0⟩
      have BF := Aside0.mk bf0
      have HD := Aside0.mk hd0
      have HB := Aside0.mk hb0
      have NG := Aside0.mk (show some gd ≠ some G from fun h => by cases h; omega)
      clear bf0 hd0 hb0 hgd
      go_cut [] (fun wc => Aside0 (Buf G (acc ++ [signB d.f0]) (20000 + 30000 * i) wc) ∧ Aside0 (wc.heap[gd]? = some (.cells #[.int .i8 d.f0, .string d.f1] 93 (0, 0))) ∧ Aside0 (Below w.heap.size w wc))
      case first =>
       rcases TY.out with e | e | e
       ·have c0 : (d.f0 == 1) = false := by rw [e]; rfl
        have c1 : (d.f0 == -1) = true := by rw [e]; rfl
        have c2 : (d.f0 == 0) = false := by rw [e]; rfl
        clear e
        go_wp2_with ((go_at_call 46; refine (buf_w _ BF.out (by have := CI.out; omega) (by decide)).mono ?_; rintro e w4 ⟨rfl, bf4, hb4, ok4⟩))
        go_meet
        case rel => exact ⟨⟨by unfold signB; simp only [beq_iff_eq, beq_eq_false_iff_ne] at c0 c1 c2; simp only [c0, c1, c2, if_true, if_false]; exact bf4.le (by omega)⟩, ⟨ok4 gd _ HD.out NG.out (by simp)⟩, ⟨Below.trans HB.out (hb4.mono HGW.out)⟩⟩
       ·have c0 : (d.f0 == 1) = false := by rw [e]; rfl
        have c1 : (d.f0 == -1) = false := by rw [e]; rfl
        have c2 : (d.f0 == 0) = true := by rw [e]; rfl
        clear e
        go_wp2_with ((go_at_call 46; refine (buf_w _ BF.out (by have := CI.out; omega) (by decide)).mono ?_; rintro e w4 ⟨rfl, bf4, hb4, ok4⟩))
        go_meet
        case rel => exact ⟨⟨by unfold signB; simp only [beq_iff_eq, beq_eq_false_iff_ne] at c0 c1 c2; simp only [c0, c1, c2, if_true, if_false]; exact bf4.le (by omega)⟩, ⟨ok4 gd _ HD.out NG.out (by simp)⟩, ⟨Below.trans HB.out (hb4.mono HGW.out)⟩⟩
       ·have c0 : (d.f0 == 1) = true := by rw [e]; rfl
        have c1 : (d.f0 == -1) = false := by rw [e]; rfl
        have c2 : (d.f0 == 0) = false := by rw [e]; rfl
        clear e
        go_wp2_with ((go_at_call 46; refine (buf_w _ BF.out (by have := CI.out; omega) (by decide)).mono ?_; rintro e w4 ⟨rfl, bf4, hb4, ok4⟩))
        go_meet
        case rel => exact ⟨⟨by unfold signB; simp only [beq_iff_eq, beq_eq_false_iff_ne] at c0 c1 c2; simp only [c0, c1, c2, if_true, if_false]; exact bf4.le (by omega)⟩, ⟨ok4 gd _ HD.out NG.out (by simp)⟩, ⟨Below.trans HB.out (hb4.mono HGW.out)⟩⟩
      case rest =>
       clear BF HD HB
       obtain ⟨BF, HD, HB⟩ := hcut
       have hd1 := cell_of HD.out (i := 1) rfl
       clear HD
       go_wp2_with (first | (go_at_call 51; refine (q_zzQueryEscape.calls k d.f1 q _ Q1.out).mono ?_; rintro e w5 ⟨rfl, hb5⟩; replace BF := Aside0.mk (BF.out.below hb5); replace HB := Aside0.mk (bt_ HB.out hb5); clear hb5) | (go_at_call 41; refine (q_zzReplace.calls k q _ _ _ _ Q2.out).mono ?_; rintro e w6 ⟨rfl, nd, rfl⟩; replace BF := Aside0.mk (BF.out.drewN nd); replace HB := Aside0.mk (bN_ HB.out nd)) | (go_at_call 46; refine (buf_w _ BF.out (by have := CI.out; omega) (by first | decide | (rw [B_size]; exact Nat.le_trans QL.out (by decide)))).mono ?_; rintro e w7 ⟨rfl, bf7, hb7, ok7⟩; replace BF := Aside0.mk bf7; replace HB := Aside0.mk (Below.trans HB.out (hb7.mono HGW.out)); clear bf7 hb7 ok7))
       go_roundg k1
       case measure => have := HI.out; omega
       case rel => exact ⟨i + 1, by rw [w64s i (by have := CI.out; omega)], ⟨by have := HI.out; omega⟩, ⟨by
        rw [TK.out]
        have h_ := BF.out.le (show _ ≤ 10000 + 30000 * (i + 1) by omega)
        simpa [lineS, B_data] using h_⟩, HB⟩
    ·have c0 : decide ((i : Int) < (l.length : Int)) = false := decide_eq_false (by omega)
     have c1 : decide (i < l.length) = false := decide_eq_false ci
     have hil : i = l.length := by have := HI.out; omega
     have BF' := Aside0.mk (show Lib.IsBuffer 100 5 G G (Lib.byteCells (hdrS s1 s2 n1 n2 ++ l.flatMap (lineS Q))) wr from by
      have h_ := BF.out.1
      rw [hil, List.take_length] at h_
      exact h_)
     clear BF hil ci
     go_wp2_with (first | (go_at_call 47; refine (Tryz.Buffer_String G G _ _ BF'.out).mono ?_; rintro e w8 ⟨rfl, nd, rfl⟩) | (go_at_call 52; refine (q_zzUnescape.calls k _ r _ HU.out).mono ?_; rintro e w9 ⟨rfl, hb9⟩))
     go_ret
     exact ⟨rfl, bt_ (bN_ HB.out _) hb9⟩
def PStr (k : Nat) (p : S67) (t : Bs) : Prop := t.length ≤ 10000 ∧ p.f0.length ≤ 100 ∧ ∃ s1 s2 n1 n2 : Nat, (p.f1 = s1 ∧ p.f2 = s2 ∧ p.f3 = n1 ∧ p.f4 = n2) ∧ s1 ≤ 1000000 ∧ s2 ≤ 1000000 ∧ n1 ≤ 1000000 ∧ n2 ≤ 1000000 ∧ ∃ Q : S93 → Bs,
  (∀ d ∈ p.f0, (d.f0 = -1 ∨ d.f0 = 0 ∨ d.f0 = 1) ∧ (Q d).length ≤ 1000 ∧ ∃ q, q_zzQueryEscape.f k d.f1 = some q ∧ q_zzReplace.f k q ⟨#[43]⟩ ⟨#[32]⟩ = some (B (Q d))) ∧ q_zzUnescape.f k (B (hdrS s1 s2 n1 n2 ++ p.f0.flatMap (lineS Q))) = some (B t)
theorem pstr_p (k g c : Nat) (A : Option Addr) (p : S67) (t : Bs) (w : World) (hbk : w.heap[g]? = some (.cells #[.slice A p.f0.length c, .int .i64 p.f1, .int .i64 p.f2, .int .i64 p.f3, .int .i64 p.f4] 67 (0, 0)))
  (hr : Kd.C k93 w A p.f0.length p.f0) (hlc : p.f0.length ≤ c) (ht : Tab10 w) (hp : PStr k p t) :
  Calls Tryz.prog 28 #[.pointer (some ⟨g, 0, none⟩)] w fun e w' => e = .returned (.string (B t)) ∧ Below w.heap.size w w' := by
 obtain ⟨_, hl, s1, s2, n1, n2, ⟨e1, e2, e3, e4⟩, h1, h2, h3, h4, Q, hq, hu⟩ := hp
 rw [e1, e2, e3, e4] at hbk
 exact pstr_calls k g c A p.f0 s1 s2 n1 n2 h1 h2 h3 h4 Q (B t) w hbk hr hlc ht hl hq hu
theorem ptext_calls (k c : Nat) (A : Option Addr) (v0 : Value) (l : List S67) (R : S67 → Bs) (w : World) (hr : Kd.C k67 w A l.length l) (hlc : l.length ≤ c) (ht : Tab10 w) (hl : l.length ≤ 100) (hR : ∀ p ∈ l, PStr k p (R p)) :
  Calls Tryz.prog 25 #[v0, .slice A l.length c] w fun e w' => e = .returned (.string (B (l.flatMap R))) ∧ Below w.heap.size w w' := by
 have hu100 := Tryz.underlying100
 have HR := Aside0.mk hr
 have HL := Aside0.mk hl
 have HP := Aside0.mk hR
 have HT := Aside0.mk ht
 clear hr hlc hl hR ht
 have BF4 := Aside0.mk (show Buf w.heap.size ((l.take 0).flatMap R) (0 + 10000 * 0) _ from Buf.fresh w)
 have HB3 := Aside0.mk (Below.alloc (Below.refl w.heap.size w) (Nat.le_refl _) (.cells #[.slice none 0 0, .int .i64 0, .int .i8 0] 100))
 go_enter Tryz.func25, Tryz.ntmps25
 go_wp2
 go_loopg [10] l.length (fun kq v10 w' => ∃ i : Nat, v10 = .int .i64 (i : Int) ∧ Aside0 (i + kq = l.length) ∧ Aside0 (Buf w.heap.size ((l.take i).flatMap R) (0 + 10000 * i) w') ∧ Aside0 (Below w.heap.size w w'))
 case atStart => exact ⟨0, rfl, ⟨by omega⟩, BF4, HB3⟩
 case round =>
  clear BF4 HB3
  obtain ⟨i, rfl, HI, BF, HB⟩ := hrel
  by_cases ci : i < l.length
  ·cases gk with
   | zero => exact absurd HI.out (by omega)
   | succ k1 =>
    have c0 : decide ((i : Int) < (l.length : Int)) = true := decide_eq_true (by omega)
    have c1 : decide (i < l.length) = true := decide_eq_true ci
    obtain ⟨ad, A1, c2, e_, hx0, hx1, hx2, hx3, hx4, hl1, hi1⟩ := at_T67 HR.out (i : Int) (by omega) (by omega)
    cases e_
    replace hx0 := cel_ HB.out hx0
    replace hx1 := cel_ HB.out hx1
    replace hx2 := cel_ HB.out hx2
    replace hx3 := cel_ HB.out hx3
    replace hx4 := cel_ HB.out hx4
    have p1 := eq_true (show (0 : Int) ≤ (i : Int) by omega)
    have q1 := eq_true (show (i : Int) < (l.length : Int) by omega)
    have hrd : rd_T67 l (i : Int) = l[i] := by unfold rd_T67; exact getD_nat l _ i ci
    rw [hrd] at hx0 hx1 hx2 hx3 hx4 hl1 hi1
    simp only [Int.toNat_natCast] at hx0 hx1 hx2 hx3 hx4
    have htk : (l.take (i + 1)).flatMap R = (l.take i).flatMap R ++ R l[i] := by rw [List.take_succ_eq_append_getElem ci, List.flatMap_append, List.flatMap_singleton]
    have hps := HP.out l[i] (List.getElem_mem ci)
    generalize l[i] = d at hx0 hx1 hx2 hx3 hx4 htk hps hl1 hi1
    generalize (l.take i).flatMap R = acc at BF htk
    have TK := Aside0.mk htk
    have PS := Aside0.mk hps
    have CI := Aside0.mk ci
    have H1 := Aside0.mk hl1
    have HI1 := Aside0.mk hi1
    have LL := HL.out
    clear htk hps ci hrd hl1 hi1
    go_upto_region 5 with (fail)
    have HD := Aside0.mk (blk_new wr (.cells #[.slice A1 d.f0.length c2, .int .i64 d.f1, .int .i64 d.f2, .int .i64 d.f3, .int .i64 d.f4] 67))
    have BF1 := Aside0.mk (BF.out.alloc (.cells #[.slice A1 d.f0.length c2, .int .i64 d.f1, .int .i64 d.f2, .int .i64 d.f3, .int .i64 d.f4] 67))
    have HB1 := Aside0.mk (Below.alloc HB.out HB.out.size (.cells #[.slice A1 d.f0.length c2, .int .i64 d.f1, .int .i64 d.f2, .int .i64 d.f3, .int .i64 d.f4] 67))
    clear BF HB hx0 hx1 hx2 hx3 hx4
    generalize wr.heap.size = gd at HD ⊢
    refine wp_at (fun W => Buf w.heap.size acc (0 + 10000 * i) W ∧ W.heap[gd]? = some (.cells #[.slice A1 d.f0.length c2, .int .i64 d.f1, .int .i64 d.f2, .int .i64 d.f3, .int .i64 d.f4] 67 (0, 0)) ∧ Below w.heap.size w W) ⟨BF1.out, HD.out, HB1.out⟩ ?_
    clear HD BF1 HB1
    rintro W ⟨bf0, hd0, hb0⟩
    have BF := Aside0.mk bf0
    have HD := Aside0.mk hd0
    have HB := Aside0.mk hb0
    clear bf0 hd0 hb0
    go_wp2_with (first | (go_at_call 28; refine (pstr_p k gd c2 A1 d (R d) _ HD.out (Kd.C_below HI1.out HB.out) H1.out (HT.out.below HB.out) PS.out).mono ?_; rintro e w5 ⟨rfl, hb5⟩; replace BF := Aside0.mk (BF.out.below hb5); replace HB := Aside0.mk (bt_ HB.out hb5); clear hb5) | (go_at_call 46; refine (buf_w _ BF.out (by have := CI.out; omega) (by rw [B_size]; exact PS.out.1)).mono ?_; rintro e w7 ⟨rfl, bf7, hb7, ok7⟩; replace BF := Aside0.mk bf7; replace HB := Aside0.mk (Below.trans HB.out hb7); clear bf7 hb7 ok7))
    go_roundg k1
    case measure => have := HI.out; omega
    case rel => exact ⟨i + 1, by rw [w64s i (by have := CI.out; omega)], ⟨by have := HI.out; omega⟩, ⟨by
     rw [TK.out]
     have h_ := BF.out.le (show _ ≤ 0 + 10000 * (i + 1) by omega)
     rw [B_data] at h_
     exact h_⟩, HB⟩
  ·have c0 : decide ((i : Int) < (l.length : Int)) = false := decide_eq_false (by omega)
   have c1 : decide (i < l.length) = false := decide_eq_false ci
   have hil : i = l.length := by have := HI.out; omega
   have BF' := Aside0.mk (show Lib.IsBuffer 100 5 w.heap.size w.heap.size (Lib.byteCells (l.flatMap R)) wr from by
    have h_ := BF.out.1
    rw [hil, List.take_length] at h_
    exact h_)
   clear BF hil ci
   go_wp2_with ((go_at_call 47; refine (Tryz.Buffer_String w.heap.size w.heap.size _ _ BF'.out).mono ?_; rintro e w8 ⟨rfl, nd, rfl⟩))
   go_ret
   exact ⟨rfl, bN_ HB.out _⟩
def alnQ (c : Int) : Bool := (decide (97 ≤ c) && decide (c ≤ 122)) || (decide (65 ≤ c) && decide (c ≤ 90)) || (decide (48 ≤ c) && decide (c ≤ 57)) || c == 45 || c == 95 || c == 46 || c == 126
def queryB (c : UInt8) : Bs := if alnQ (c.toNat : Int) then [c] else if c = 32 then [43] else [37, hexd (c.toNat / 16), hexd (c.toNat % 16)]
def nums (l : Bs) : List Int := l.map fun c => (c.toNat : Int)
theorem nums_app (a b : Bs) : nums (a ++ b) = nums a ++ nums b := List.map_append
theorem hex_bt (n : Nat) (h : n < 16) : bt (⟨#[48, 49, 50, 51, 52, 53, 54, 55, 56, 57, 65, 66, 67, 68, 69, 70]⟩ : ByteArray) (n : Int) = ((hexd n).toNat : Int) := by
 have e : (⟨#[48, 49, 50, 51, 52, 53, 54, 55, 56, 57, 65, 66, 67, 68, 69, 70]⟩ : ByteArray) = B hexL := rfl
 rw [e, B_bt hexL n h, hexd, List.getD_eq_getElem?_getD, List.getElem?_eq_getElem h, Option.getD_some]
theorem queryB_len (c : UInt8) : (queryB c).length ≤ 3 := by
 unfold queryB
 split
 ·simp
 ·split <;> simp
theorem foldl_nums (f : UInt8 → Bs) : ∀ (l : Bs) (s : List Int), l.foldl (fun x c => x ++ nums (f c)) s = s ++ nums (l.flatMap f)
 | [], s => by simp [nums]
 | c :: l, s => by rw [List.foldl_cons, foldl_nums f l, List.flatMap_cons, nums_app, List.append_assoc]
theorem ev_query (s : ByteArray) (hs : s.size ≤ 1000) : Ev (fun k => q_zzQueryEscape.f k s) (B (s.data.toList.flatMap queryB)) := by
 have hsz := size_data s
 have key := fold_loop0 (fun k x i => q_zzQueryEscape.l0 k s x i) s.data.toList (fun x c => x ++ nums (queryB c)) (fun i x => x.length ≤ 3 * i) strOfNums [] (by simp)
  (fun i hi x hx => by
   have := queryB_len s.data.toList[i]
   simp only [List.length_append, nums, List.length_map]; omega) ?_ ?_
 ·rw [foldl_nums, List.nil_append] at key
  unfold nums at key
  rw [strOfNums_bytes] at key
  exact key
 ·intro x hx
  exact Ev.succ ⟨0, fun k _ => by simp only [q_zzQueryEscape.l0]; rw [if_neg (by omega)]⟩
 ·intro i hi x r hx hr
  refine Ev.succ ?_
  simp only [q_zzQueryEscape.l0]
  have hb := bt_nat s i hi
  have hlt := UInt8.toNat_lt s.data.toList[i]
  have hfin : ∀ b : Bool, b = alnQ (s.data.toList[i].toNat : Int) → Ev (fun k => q_zzQueryEscape.j1 k s x (i : Int) (s.data.toList[i].toNat : Int) b) r := by
   intro b hb
   refine Ev.succ ?_
   simp only [q_zzQueryEscape.j1, Option.bind_some]
   unfold queryB at hr
   rw [← hb] at hr
   cases b with
   | true => exact Ev.if_pos rfl (Ev.if_pos (by omega) (by rw [w64s i (by omega)]; exact hr))
   | false =>
    refine Ev.if_neg (by simp) ?_
    rw [if_neg (by simp)] at hr
    by_cases h32 : s.data.toList[i] = 32
    ·rw [if_pos h32] at hr
     exact Ev.if_pos (by rw [h32]; rfl) (Ev.if_pos (by omega) (by rw [w64s i (by omega)]; exact hr))
    ·rw [if_neg h32] at hr
     refine Ev.if_neg (fun h => h32 (UInt8.toNat_inj.1 (show s.data.toList[i].toNat = 32 by omega))) ?_
     rw [and15 _ hlt, show (s.data.toList[i].toNat : Int) / 16 = ((s.data.toList[i].toNat / 16 : Nat) : Int) by omega, hex_bt _ (by omega), hex_bt _ (by omega)]
     exact Ev.if_pos (by omega) (Ev.if_pos (by omega) (Ev.if_pos (by omega) (Ev.if_pos (by omega) (Ev.if_pos (by simp only [List.length_cons, List.length_nil]; omega) (by rw [w64s i (by omega)]; exact hr)))))
  rw [hb]
  refine Ev.if_pos (by omega) (Ev.if_pos (by omega) ?_)
  generalize hc : (s.data.toList[i].toNat : Int) = c at hfin ⊢
  by_cases a7 : c = 45
  ·subst a7
   simpa using hfin true rfl
  by_cases a8 : c = 95
  ·subst a8
   simpa using hfin true rfl
  by_cases a9 : c = 46
  ·subst a9
   simpa using hfin true rfl
  by_cases a1 : 97 ≤ c <;> by_cases a2 : c ≤ 122 <;> by_cases a3 : 65 ≤ c <;> by_cases a4 : c ≤ 90 <;> by_cases a5 : 48 ≤ c <;> by_cases a6 : c ≤ 57 <;>
   first
   | (exfalso; omega)
   | (simp only [a1, a2, a3, a4, a5, a6, a7, a8, a9, if_true, if_false]; exact hfin _ (by simp [alnQ, a1, a2, a3, a4, a5, a6, a7, a8, a9]))
def unqO (l : Bs) : Option Int := if l = ([50, 49]) then (some 33) else (if l = ([55, 69]) then (some 126) else (if l = ([50, 55]) then (some 39) else (if l = ([50, 56]) then (some 40) else (if l = ([50, 57]) then (some 41) else (if l = ([51, 66]) then (some 59) else (if l = ([50, 70]) then (some 47) else (if l = ([51, 70]) then (some 63) else (if l = ([51, 65]) then (some 58) else (if l = ([52, 48]) then (some 64) else (if l = ([50, 54]) then (some 38) else (if l = ([51, 68]) then (some 61) else (if l = ([50, 66]) then (some 43) else (if l = ([50, 52]) then (some 36) else (if l = ([50, 67]) then (some 44) else (if l = ([50, 51]) then (some 35) else (if l = ([50, 65]) then (some 42) else (some 0)))))))))))))))))
theorem unescaped_B (l : Bs) : q_zzUnescaped.f (B l) = unqO l := by
 unfold q_zzUnescaped.f unqO
 simp only [B_toList]
def UnitU (u v : Bs) : Prop := (∃ c, u = [c] ∧ v = [c] ∧ c ≠ 37) ∨ (∃ h l c : UInt8, u = [37, h, l] ∧ v = [c] ∧ unqO [h, l] = some (c.toNat : Int) ∧ c ≠ 0) ∨ ∃ h l : UInt8, u = [37, h, l] ∧ v = [37, h, l] ∧ unqO [h, l] = some 0 ∧ h ≠ 37 ∧ l ≠ 37
abbrev UL0 := q_zzUnescape.l0
theorem un_pass (m : Bs) (hm : m.length ≤ 1000000) (r : ByteArray) (i : Nat) (acc : List Int) (ha : acc.length ≤ 2000000) (c : UInt8) (t : Bs) (hd : m.drop i = c :: t) (hc : c ≠ 37) (h : Ev (fun k => UL0 k (B m) (acc ++ [(c.toNat : Int)]) ((i + 1 : Nat) : Int)) r) : Ev (fun k => UL0 k (B m) acc (i : Int)) r := by
 obtain ⟨hi, hci, _⟩ := at_drop hd
 have hb : bt (B m) (i : Int) = (c.toNat : Int) := by rw [B_bt m i hi, hci]
 have n1 : ¬ (c.toNat : Int) = 37 := fun h_ => hc (UInt8.toNat_inj.1 (show c.toNat = 37 by omega))
 refine Ev.succ ?_
 simp only [UL0, q_zzUnescape.l0, B_size]
 rw [hb]
 refine Ev.if_pos (by omega) (Ev.if_pos (by omega) (Ev.if_neg n1 (Ev.succ ?_)))
 simp only [q_zzUnescape.j1, B_size]
 rw [hb, w64s i (by omega)]
 exact Ev.if_neg (by simp) (Ev.if_pos (by omega) (Ev.if_pos (by omega) (Ev.if_pos (by omega) h)))
theorem un_pct (m : Bs) (hm : m.length ≤ 1000000) (r : ByteArray) (i : Nat) (acc : List Int) (ha : acc.length ≤ 2000000) (h l : UInt8) (t : Bs) (hd : m.drop i = 37 :: h :: l :: t) (v : Int) (hv : unqO [h, l] = some v)
  (h0 : v = 0 → Ev (fun k => UL0 k (B m) (acc ++ [37]) ((i + 1 : Nat) : Int)) r) (h1 : v ≠ 0 → Ev (fun k => UL0 k (B m) (acc ++ [v]) ((i + 3 : Nat) : Int)) r) : Ev (fun k => UL0 k (B m) acc (i : Int)) r := by
 obtain ⟨hi, hci, hd1⟩ := at_drop hd
 obtain ⟨hi1, hci1, hd2⟩ := at_drop hd1
 obtain ⟨hi2, hci2, hd3⟩ := at_drop hd2
 have hb : bt (B m) (i : Int) = 37 := by rw [B_bt m i hi, hci]; rfl
 have hx : (B m).extract (i + 1) (i + 3) = B [h, l] := by rw [B_extract, hd1, show i + 3 - (i + 1) = 2 by omega]; rfl
 have w1 := w64s i (by omega)
 have w2 : wrap64 ((i : Int) + 2) = ((i + 2 : Nat) : Int) := w64 (i + 2) (by omega)
 have w3 : wrap64 ((i : Int) + 3) = ((i + 3 : Nat) : Int) := w64 (i + 3) (by omega)
 have w4 : wrap64 (((i + 2 : Nat) : Int) + 1) = ((i + 3 : Nat) : Int) := w64s (i + 2) (by omega)
 refine Ev.succ ?_
 simp only [UL0, q_zzUnescape.l0, B_size]
 rw [hb, w2, decide_eq_true (show ((i + 2 : Nat) : Int) < (m.length : Int) by omega)]
 refine Ev.if_pos (by omega) (Ev.if_pos (by omega) (Ev.if_pos rfl (Ev.succ ?_)))
 simp only [q_zzUnescape.j1, B_size]
 rw [w1, w2, w3, w4, hb, Int.toNat_natCast, Int.toNat_natCast, hx, unescaped_B, hv]
 refine Ev.if_pos (by simp) (Ev.if_pos (by omega) (Ev.if_pos (by omega) (Ev.if_pos (by omega) ?_)))
 simp only [Option.bind_some]
 by_cases hz : v = 0
 ·exact Ev.if_pos hz (Ev.if_pos (by omega) (Ev.if_pos (by omega) (Ev.if_pos (by omega) (h0 hz))))
 ·exact Ev.if_neg hz (Ev.if_pos (by omega) (h1 hz))
theorem un_all (m : Bs) (hm : m.length ≤ 1000000) : ∀ (us : List (Bs × Bs)) (i : Nat) (acc : List Int), (∀ x ∈ us, UnitU x.1 x.2) → m.drop i = us.flatMap (·.1) → acc.length + 3 * us.length ≤ 2000000 →
  Ev (fun k => UL0 k (B m) acc (i : Int)) (strOfNums (acc ++ nums (us.flatMap (·.2))))
 | [], i, acc, hu, hd, ha => by
  refine Ev.succ ?_
  simp only [UL0, q_zzUnescape.l0, B_size]
  have : ¬ i < m.length := by
   intro hi
   rw [List.drop_eq_getElem_cons hi] at hd
   cases hd
  exact Ev.if_neg (by omega) (by simpa [nums] using Ev.const _)
 | (u, v) :: us, i, acc, hu, hd, ha => by
  have hl : ((u, v) :: us).length = us.length + 1 := rfl
  have ih := fun j acc' => un_all m hm us j acc' (fun x hx => hu x (List.mem_cons_of_mem _ hx))
  have hres : acc ++ nums (((u, v) :: us).flatMap (·.2)) = (acc ++ nums v) ++ nums (us.flatMap (·.2)) := by rw [List.flatMap_cons, nums_app, List.append_assoc]
  rw [hres]
  rcases hu _ List.mem_cons_self with ⟨c, e, ev, hc⟩ | ⟨h, l, c, e, ev, hq, hc⟩ | ⟨h, l, e, ev, hq, hh, hl2⟩
  ·obtain rfl : u = [c] := e
   obtain rfl : v = [c] := ev
   have hd' : m.drop i = c :: us.flatMap (·.1) := by simpa using hd
   exact un_pass m hm _ i acc (by omega) c _ hd' hc (ih (i + 1) _ (at_drop hd').2.2 (by simp only [nums, List.length_append, List.length_map, List.length_cons, List.length_nil]; omega))
  ·obtain rfl : u = [37, h, l] := e
   obtain rfl : v = [c] := ev
   have hd' : m.drop i = 37 :: h :: l :: us.flatMap (·.1) := by simpa using hd
   have hd3 := (at_drop (at_drop (at_drop hd').2.2).2.2).2.2
   exact un_pct m hm _ i acc (by omega) h l _ hd' _ hq (fun h0 => absurd (UInt8.toNat_inj.1 (show c.toNat = 0 by omega)) hc) fun _ => ih (i + 3) _ hd3 (by simp only [nums, List.length_append, List.length_map, List.length_cons, List.length_nil]; omega)
  ·obtain rfl : u = [37, h, l] := e
   obtain rfl : v = [37, h, l] := ev
   have hd' : m.drop i = 37 :: h :: l :: us.flatMap (·.1) := by simpa using hd
   have hd1 := (at_drop hd').2.2
   have hd2 := (at_drop hd1).2.2
   have hd3 := (at_drop hd2).2.2
   refine un_pct m hm _ i acc (by omega) h l _ hd' _ hq (fun _ => ?_) fun h1 => absurd rfl h1
   refine un_pass m hm _ (i + 1) _ (by simp only [List.length_append, List.length_cons, List.length_nil]; omega) h _ hd1 hh ?_
   refine un_pass m hm _ (i + 1 + 1) _ (by simp only [List.length_append, List.length_cons, List.length_nil]; omega) l _ hd2 hl2 ?_
   have := ih (i + 1 + 1 + 1) (acc ++ nums [37, h, l]) hd3 (by simp only [nums, List.length_append, List.length_map, List.length_cons, List.length_nil]; omega)
   simpa [nums] using this
theorem ev_unesc (us : List (Bs × Bs)) (hu : ∀ x ∈ us, UnitU x.1 x.2) (hl : us.length ≤ 100000) (hm : (us.flatMap (·.1)).length ≤ 1000000) : Ev (fun k => q_zzUnescape.f k (B (us.flatMap (·.1)))) (B (us.flatMap (·.2))) := by
 have := un_all (us.flatMap (·.1)) hm us 0 [] hu (by simp) (by simp only [List.length_nil]; omega)
 rw [List.nil_append] at this
 unfold nums at this
 rw [strOfNums_bytes] at this
 exact this
def rB (c : UInt8) : Bs := replW [32] (queryB c)
def unitUOk (n : Nat) : Bool :=
 let b := UInt8.ofNat n; let v := escB b
 match rB b with
 | [c] => !(c == 37) && v == [c]
 | [37, h, l] => match unqO [h, l] with
  | some z => (z == 0 && v == [37, h, l] && !(h == 37) && !(l == 37)) || (match v with
   | [c] => (c.toNat : Int) == z && !(c == 0)
   | _ => false)
  | none => false
 | _ => false
theorem unitU_all : (List.range 256).all unitUOk = true := by kernel_rfl
theorem unitU_esc (c : UInt8) : UnitU (rB c) (escB c) := by
 have h := List.all_eq_true.1 unitU_all c.toNat (List.mem_range.2 (UInt8.toNat_lt c))
 unfold unitUOk at h
 simp only [UInt8.ofNat_toNat] at h
 generalize rB c = u at h
 generalize escB c = v at h
 split at h
 ·rename_i x
  simp only [Bool.and_eq_true, Bool.not_eq_true', beq_eq_false_iff_ne, beq_iff_eq] at h
  exact .inl ⟨x, rfl, h.2, h.1⟩
 ·rename_i x y
  split at h
  ·rename_i z hz
   rcases Bool.or_eq_true_iff.1 h with h | h
   ·simp only [Bool.and_eq_true, Bool.not_eq_true', beq_eq_false_iff_ne, beq_iff_eq] at h
    obtain ⟨⟨⟨rfl, h2⟩, h3⟩, h4⟩ := h
    exact .inr (.inr ⟨x, y, rfl, h2, hz, h3, h4⟩)
   ·split at h
    ·rename_i w _
     simp only [Bool.and_eq_true, Bool.not_eq_true', beq_eq_false_iff_ne, beq_iff_eq] at h
     obtain ⟨rfl, h2⟩ := h
     exact .inr (.inl ⟨x, y, w, rfl, rfl, hz, h2⟩)
    ·cases h
  ·cases h
 ·cases h
theorem UnitU.len {u v : Bs} (h : UnitU u v) : u.length ≤ 3 := by
 rcases h with ⟨c, rfl, _⟩ | ⟨h, l, c, rfl, _⟩ | ⟨h, l, rfl, _⟩ <;> simp
theorem units_len : ∀ us : List (Bs × Bs), (∀ x ∈ us, UnitU x.1 x.2) → (us.flatMap (·.1)).length ≤ 3 * us.length
 | [], _ => by simp
 | x :: us, h => by
  have h1 := (h x List.mem_cons_self).len
  have h2 := units_len us fun y hy => h y (List.mem_cons_of_mem _ hy)
  simp only [List.flatMap_cons, List.length_append, List.length_cons]
  omega
def same1 (l : Bs) : List (Bs × Bs) := l.map fun c => ([c], [c])
theorem same1_1 : ∀ l : Bs, (same1 l).flatMap (·.1) = l
 | [] => rfl
 | c :: l => by simp only [same1, List.map_cons, List.flatMap_cons]; rw [show (l.map fun c => (([c], [c]) : Bs × Bs)) = same1 l from rfl, same1_1 l]; rfl
theorem same1_2 : ∀ l : Bs, (same1 l).flatMap (·.2) = l
 | [] => rfl
 | c :: l => by simp only [same1, List.map_cons, List.flatMap_cons]; rw [show (l.map fun c => (([c], [c]) : Bs × Bs)) = same1 l from rfl, same1_2 l]; rfl
theorem same1_unit {l : Bs} (h : 37 ∉ l) : ∀ x ∈ same1 l, UnitU x.1 x.2 := fun x hx => by
 obtain ⟨c, hc, rfl⟩ := List.mem_map.1 hx
 exact .inl ⟨c, rfl, rfl, fun e => h (e ▸ hc)⟩
theorem span_37 (s l : Nat) : 37 ∉ span s l := by
 have hd : ∀ n, 37 ∉ dec n := fun n h => by
  have := dec_digs n 37 h
  unfold isDig at this
  exact absurd this (by decide)
 unfold span
 split
 ·simp [hd]
 ·split
  ·exact hd _
  ·simp [hd]
def Qd (d : S93) : Bs := d.f1.data.toList.flatMap rB
def un (q : S67) : S42 := ⟨q.f1, q.f2, q.f3, q.f4, q.f0.map fun d => ⟨d.f0, d.f1⟩⟩
def Rq (q : S67) : Bs := blockL false (linesL (un q))
theorem ev_list {β : Type} (P : Nat → β → Prop) : ∀ l : List β, (∀ d ∈ l, ∃ K, ∀ k, K ≤ k → P k d) → ∃ K, ∀ k, K ≤ k → ∀ d ∈ l, P k d
 | [], _ => ⟨0, fun _ _ _ h => by cases h⟩
 | x :: l, h => by
  obtain ⟨K1, h1⟩ := h x List.mem_cons_self
  obtain ⟨K2, h2⟩ := ev_list P l fun d hd => h d (List.mem_cons_of_mem _ hd)
  refine ⟨max K1 K2, fun k hk d hd => ?_⟩
  rcases List.mem_cons.1 hd with rfl | hd
  ·exact h1 k (by omega)
  ·exact h2 k (by omega) d hd
def lineU (d : S93) : List (Bs × Bs) := (([signB d.f0], [signB d.f0]) :: d.f1.data.toList.map fun c => (rB c, escB c)) ++ [([10], [10])]
theorem lineU_1 (d : S93) : (lineU d).flatMap (·.1) = lineS Qd d := by simp [lineU, lineS, Qd, List.flatMap_map]
theorem lineU_2 (d : S93) : (lineU d).flatMap (·.2) = lineL ⟨d.f0, d.f1⟩ ++ [10] := by simp [lineU, lineL, esc, List.flatMap_map]
theorem signB_37 (n : Int) : signB n ≠ 37 := by
 unfold signB
 split
 ·decide
 ·split <;> decide
theorem lineU_unit (d : S93) : ∀ x ∈ lineU d, UnitU x.1 x.2 := fun x hx => by
 rcases List.mem_append.1 hx with hx | hx
 ·rcases List.mem_cons.1 hx with rfl | hx
  ·exact .inl ⟨_, rfl, rfl, signB_37 _⟩
  ·obtain ⟨c, _, rfl⟩ := List.mem_map.1 hx
   exact unitU_esc c
 ·obtain rfl := List.mem_singleton.1 hx
  exact .inl ⟨10, rfl, rfl, by decide⟩
theorem replW_flat (w : Bs) (f : UInt8 → Bs) (l : Bs) : replW w (l.flatMap f) = l.flatMap fun c => replW w (f c) := by unfold replW; rw [List.flatMap_assoc]
theorem rB_len (c : UInt8) : (rB c).length ≤ 3 := (unitU_esc c).len
theorem flat_len (f : UInt8 → Bs) (h : ∀ c, (f c).length ≤ 3) : ∀ l : Bs, (l.flatMap f).length ≤ 3 * l.length
 | [] => by simp
 | c :: l => by
  have := flat_len f h l
  have := h c
  simp only [List.flatMap_cons, List.length_append, List.length_cons]
  omega
theorem lineU_len (d : S93) : (lineU d).length = d.f1.data.toList.length + 2 := by simp [lineU]
theorem linesU_len : ∀ l : List S93, (∀ d ∈ l, d.f1.size ≤ 40) → (l.flatMap lineU).length ≤ 42 * l.length
 | [], _ => by simp
 | d :: l, h => by
  have h1 := linesU_len l fun x hx => h x (List.mem_cons_of_mem _ hx)
  have h2 := h d List.mem_cons_self
  rw [size_data] at h2
  simp only [List.flatMap_cons, List.length_append, List.length_cons, lineU_len]
  omega
theorem ev_pstr (q : S67) (hq : okPiece (un q) = true) : ∃ K, ∀ k, K ≤ k → PStr k q (Rq q) := by
 obtain ⟨⟨a1, a2⟩, ⟨b1, b2⟩, ⟨c1, c2⟩, ⟨d1, d2⟩, h4, h5, h6⟩ := okPiece_facts hq
 simp only [un] at a1 a2 b1 b2 c1 c2 d1 d2 h5 h6
 rw [List.length_map] at h6
 have hd : ∀ d ∈ q.f0, (d.f0 = -1 ∨ d.f0 = 0 ∨ d.f0 = 1) ∧ d.f1.size ≤ 40 := fun d hm => by
  have := okDiff_facts (h5 _ (List.mem_map_of_mem hm))
  exact ⟨this.1, this.2.2.2⟩
 have e1 : q.f1 = (q.f1.toNat : Int) := by omega
 have e2 : q.f2 = (q.f2.toNat : Int) := by omega
 have e3 : q.f3 = (q.f3.toNat : Int) := by omega
 have e4 : q.f4 = (q.f4.toNat : Int) := by omega
 have hQl : ∀ d ∈ q.f0, (Qd d).length ≤ 1000 := fun d hm => by
  have h1 := flat_len rB rB_len d.f1.data.toList
  have h2 := (hd d hm).2
  rw [size_data] at h2
  unfold Qd
  omega
 obtain ⟨K1, hK1⟩ := ev_list (fun k d => ∃ z, q_zzQueryEscape.f k d.f1 = some z ∧ q_zzReplace.f k z ⟨#[43]⟩ ⟨#[32]⟩ = some (B (Qd d))) q.f0 fun d hm => by
  have h2 := (hd d hm).2
  obtain ⟨Ka, ha⟩ := ev_query d.f1 (by omega)
  have hl := flat_len queryB queryB_len d.f1.data.toList
  rw [size_data] at h2
  obtain ⟨Kb, hb⟩ := ev_replaceW [32] (by decide) (d.f1.data.toList.flatMap queryB) (by omega)
  rw [replW_flat] at hb
  exact ⟨max Ka Kb, fun k hk => ⟨_, ha k (by omega), hb k (by omega)⟩⟩
 have hus : ∀ x ∈ same1 (hdrS q.f1.toNat q.f2.toNat q.f3.toNat q.f4.toNat) ++ q.f0.flatMap lineU, UnitU x.1 x.2 := fun x hx => by
  rcases List.mem_append.1 hx with hx | hx
  ·refine same1_unit ?_ x hx
   simp [hdrS, span_37]
  ·obtain ⟨d, _, hxd⟩ := List.mem_flatMap.1 hx
   exact lineU_unit d x hxd
 have l1 := span_len q.f1.toNat q.f3.toNat (by omega) (by omega)
 have l2 := span_len q.f2.toNat q.f4.toNat (by omega) (by omega)
 have l3 := linesU_len q.f0 fun d hm => (hd d hm).2
 have hlen : (same1 (hdrS q.f1.toNat q.f2.toNat q.f3.toNat q.f4.toNat) ++ q.f0.flatMap lineU).length ≤ 1000 := by
  simp only [same1, hdrS, List.length_append, List.length_map, List.length_cons, List.length_nil]
  omega
 have hl3 := units_len _ hus
 obtain ⟨K2, hK2⟩ := ev_unesc _ hus (by omega) (by omega)
 have t1 : (same1 (hdrS q.f1.toNat q.f2.toNat q.f3.toNat q.f4.toNat) ++ q.f0.flatMap lineU).flatMap (·.1) = hdrS q.f1.toNat q.f2.toNat q.f3.toNat q.f4.toNat ++ q.f0.flatMap (lineS Qd) := by
  rw [List.flatMap_append, same1_1, List.flatMap_assoc]
  simp only [lineU_1]
 have t2 : (same1 (hdrS q.f1.toNat q.f2.toNat q.f3.toNat q.f4.toNat) ++ q.f0.flatMap lineU).flatMap (·.2) = Rq q := by
  rw [List.flatMap_append, same1_2, List.flatMap_assoc]
  simp only [lineU_2]
  simp [Rq, un, blockL, gapL, linesL, hdrL, hdrS, List.flatMap_map]
 rw [t1, t2] at hK2
 have hRl : (Rq q).length ≤ 10000 := by
  have g1 := linesL_len (un q) hq
  have g2 := block_len false _ g1.2
  unfold Rq
  omega
 refine ⟨max K1 K2, fun k hk => ⟨hRl, by omega, q.f1.toNat, q.f2.toNat, q.f3.toNat, q.f4.toNat, ⟨e1, e2, e3, e4⟩, by omega, by omega, by omega, by omega, Qd, fun d hm => ⟨(hd d hm).1, hQl d hm, hK1 k (by omega) d hm⟩, hK2 k (by omega)⟩⟩
theorem itext_calls (k c : Nat) (A : Option Addr) (l : List S33) (ps : List S67) (R : S67 → Bs) (w : World) (hr : Kd.C k33 w A l.length l) (hlc : l.length ≤ c) (ht : Tab10 w) (h : impl_patches.f k l = some ps) (hl : ps.length ≤ 100) (hR : ∀ p ∈ ps, PStr k p (R p)) :
  Calls Tryz.prog 11 #[.slice A l.length c] w fun e w' => e = .returned (.string (B (ps.flatMap R))) ∧ Below w.heap.size w w' := by
 have HR := Aside0.mk hr
 have HLC := Aside0.mk hlc
 have HT := Aside0.mk ht
 clear hr hlc ht
 go_enter Tryz.func11, Tryz.ntmps11
 go_wp2_with (first
  | (go_at_call 21; refine (plain_calls _).mono ?_; rintro e w1 ⟨g, rfl, hd1, hg1, hb1⟩)
  | (go_at_call 26; refine (impl_patches.calls k A c l ps _ (Kd.C_below HR.out hb1) HLC.out h).mono ?_; rintro e w2 ⟨v2, rfl, hs2, hb2⟩; obtain ⟨A2, c2, e2⟩ := Kd.S_slice hs2; subst e2)
  | (go_at_call 25; refine (ptext_calls k c2 A2 _ ps R _ (Kd.S_reads' hs2).2.2 (Kd.S_reads' hs2).2.1 (HT.out.below (bt_ hb1 hb2)) hl hR).mono ?_; rintro e w3 ⟨rfl, hb3⟩))
 go_ret
 exact ⟨rfl, bt_ (bt_ hb1 hb2) hb3⟩
theorem istr_calls (k c : Nat) (A : Option Addr) (p : S33) (q : S67) (t : Bs) (w : World) (hr : Kd.C k70 w A p.f4.length p.f4) (hlc : p.f4.length ≤ c) (ht : Tab10 w) (h : impl_patch.f k p.f0 p.f1 p.f2 p.f3 p.f4 = some (q.f0, q.f1, q.f2, q.f3, q.f4)) (hq : PStr k q t) :
  Calls Tryz.prog 12 #[.agg #[.int .i64 p.f0, .int .i64 p.f1, .int .i64 p.f2, .int .i64 p.f3, .slice A p.f4.length c]] w fun e w' => e = .returned (.string (B t)) ∧ Below w.heap.size w w' := by
 have hu := Tryz.underlying67
 have hu33 := Tryz.underlying33
 have HR := Aside0.mk hr
 have HLC := Aside0.mk hlc
 have HT := Aside0.mk ht
 have HB0 := Aside0.mk (Below.alloc (Below.refl w.heap.size w) (Nat.le_refl _) (.cells #[.int .i64 p.f0, .int .i64 p.f1, .int .i64 p.f2, .int .i64 p.f3, .slice A p.f4.length c] 33))
 clear hr hlc ht
 go_enter Tryz.func12, Tryz.ntmps12
 go_upto_region 2 with (first
  | (go_at_call 27; refine (impl_patch.calls k p.f0 p.f1 p.f2 p.f3 A c p.f4 q.f0 q.f1 q.f2 q.f3 q.f4 _ (Kd.C_below HR.out HB0.out) HLC.out h).mono ?_; rintro e w2 ⟨v2, rfl, hs2, hb2⟩; obtain ⟨A2, c2, e2⟩ := Kd.R_slice hs2; subst e2))
 have HD := Aside0.mk (blk_new w2 (.cells #[.slice A2 q.f0.length c2, .int .i64 q.f1, .int .i64 q.f2, .int .i64 q.f3, .int .i64 q.f4] 67))
 have HB1 := Aside0.mk (Below.alloc (bh_ HB0.out HB0.out.size hb2) (bh_ HB0.out HB0.out.size hb2).size (.cells #[.slice A2 q.f0.length c2, .int .i64 q.f1, .int .i64 q.f2, .int .i64 q.f3, .int .i64 q.f4] 67))
 have HK := Aside0.mk (Kd.C_below (Kd.R_reads' hs2).2.2 (Below.alloc (Below.refl w2.heap.size w2) (Nat.le_refl _) (.cells #[.slice A2 q.f0.length c2, .int .i64 q.f1, .int .i64 q.f2, .int .i64 q.f3, .int .i64 q.f4] 67)))
 have HC2 := Aside0.mk (Kd.R_reads' hs2).2.1
 clear hs2 hb2 HB0
 generalize w2.heap.size = gd at HD ⊢
 go_wp2_with (first
  | (go_at_call 28; refine (pstr_p k gd c2 A2 q t _ HD.out HK.out HC2.out (HT.out.below HB1.out) hq).mono ?_; rintro e w3 ⟨rfl, hb3⟩))
 go_ret
 exact ⟨rfl, bt_ HB1.out hb3⟩
theorem icopy_calls (k c : Nat) (A : Option Addr) (l : List S33) (ps qs : List S67) (bs : List S33) (w : World) (hr : Kd.C k33 w A l.length l) (hlc : l.length ≤ c) (h : impl_patches.f k l = some ps) (h2 : p_PatchDeepCopy.f k 0 ps = some qs) (h3 : bps.f k qs = some bs) :
  Calls Tryz.prog 14 #[.slice A l.length c] w fun e w' => ∃ v0_ : Value, e = .returned v0_ ∧ Kd.S k33 33 w' w.heap.size (fun _ => True) v0_ bs ∧ Below w.heap.size w w' := by
 have HR := Aside0.mk hr
 have HLC := Aside0.mk hlc
 clear hr hlc
 go_enter Tryz.func14, Tryz.ntmps14
 go_wp2_with (first
  | (go_at_call 21; refine (plain_calls _).mono ?_; rintro e w1 ⟨g, rfl, hd1, hg1, hb1⟩)
  | (go_at_call 26; refine (impl_patches.calls k A c l ps _ (Kd.C_below HR.out hb1) HLC.out h).mono ?_; rintro e w2 ⟨v2, rfl, hs2, hb2⟩; obtain ⟨A2, c2, e2⟩ := Kd.S_slice hs2; subst e2; replace hd1 := dmp_below hd1 hb2)
  | (go_at_call 29; refine (p_PatchDeepCopy.calls k g A2 c2 ps qs _ hd1 (Kd.S_reads' hs2).2.2 (Kd.S_reads' hs2).2.1 h2).mono ?_; rintro e w3 ⟨v3, rfl, hs3, hb3⟩; obtain ⟨A3, c3, e3⟩ := Kd.S_slice hs3; subst e3)
  | (go_at_call 23; refine (bps.calls k A3 c3 qs bs _ (Kd.S_reads' hs3).2.2 (Kd.S_reads' hs3).2.1 h3).mono ?_; rintro e w4 ⟨v4, rfl, hs4, hb4⟩))
 go_ret
 have hb := bt_ (bt_ hb1 hb2) hb3
 exact ⟨v4, rfl, Kd.S_lower hs4 hb.size, bt_ hb hb4⟩
def psm.T6 : Bool × List (List Nat × List Nat) := (true, [([], []), ([], []), ([0, 1], [0, 1]), ([2], [2]), ([], []), ([], []), ([4, 5], [4, 5]), ([6], [6]), ([], []), ([], []), ([8, 3, 0, 1, 2, 3, 8, 9], [3, 8]), ([9, 7, 10, 0, 1, 2, 3, 4, 5, 6, 7, 8, 9, 10], [7, 9])])
def psm.B6 : List Nat := [0, 0, 3, 7, 0, 0, 48, 112, 0, 0, 783, 2047]
theorem psm.tab6 : rtab .any (opsOf Tryz.f13 6) = psm.T6 := by kernel_rfl
theorem psm.bits6 : waitsOk psm.T6.2 psm.B6 = true := by kernel_rfl
def psm.T12 : Bool × List (List Nat × List Nat) := (true, [([], []), ([0], [0]), ([], []), ([1, 2], [1, 2]), ([3], [3]), ([], []), ([5], [5]), ([], []), ([6, 7], [6, 7]), ([8], [8]), ([4, 9], [4, 9])])
def psm.B12 : List Nat := [0, 1, 0, 7, 15, 0, 32, 0, 224, 480, 1023]
theorem psm.tab12 : rtab .any (opsOf Tryz.f13 12) = psm.T12 := by kernel_rfl
theorem psm.bits12 : waitsOk psm.T12.2 psm.B12 = true := by kernel_rfl
theorem cem_ {w w' : World} (hb : Below w.heap.size w w') {a : Addr} {v : Value} (hc : w.cell? a = some v) : w'.cell? a = some v := (hb.cell (World.block_lt_of_cell? w a hc)).trans hc
theorem wq_at {P : Program} {md : Region.Mode} {ops : Array Oper} {Q : Exit → Act → World → Prop} {S : World → Prop} {ds : List Nat} {n : Nat} {l : Array Bool} {a : Act} {W : World} (Φ : World → Prop) (h : Φ W) (k : ∀ W', Φ W' → wpAnyLast P md ops Q S ds n l a W') : wpAnyLast P md ops Q S ds n l a W := k W h
theorem same_calls (c1 c2 : Nat) (A B : Option Addr) (l : List S33) (w : World) (h1 : Kd.C k33 w A l.length l) (h2 : Kd.C k33 w B l.length l) (hl : l.length ≤ 1000) (hl2 : ∀ p ∈ l, p.f4.length ≤ 1000) :
  Calls Tryz.prog 13 #[.slice A l.length c1, .slice B l.length c2] w fun e w' => e = .returned (.bool true) ∧ Below w.heap.size w w' := by
 have hu33 := Tryz.underlying33
 have hu70 := Tryz.underlying70
 have HR1 := Aside0.mk h1
 have HR2 := Aside0.mk h2
 have HL := Aside0.mk hl
 have HL2 := Aside0.mk hl2
 clear h1 h2 hl hl2
 go_enter Tryz.func13, Tryz.ntmps13
 go_wp2
 go_loopg [16] l.length (fun kq v16 w' => ∃ i : Nat, v16 = .int .i64 (i : Int) ∧ Aside0 (i + kq = l.length) ∧ Aside0 (Below w.heap.size w w'))
 case atStart => exact ⟨0, rfl, ⟨by omega⟩, ⟨Below.refl _ _⟩⟩
 case round =>
  obtain ⟨i, rfl, HI, HB⟩ := hrel
  by_cases ci : i < l.length
  ·cases gk with
   | zero => exact absurd HI.out (by omega)
   | succ k1 =>
    have c0 : decide ((i : Int) < (l.length : Int)) = true := decide_eq_true (by omega)
    have cc1 : decide (i < l.length) = true := decide_eq_true ci
    obtain ⟨ad1, A1, d1, e_, x0, x1, x2, x3, x4, m1, i1⟩ := at_T33 HR1.out (i : Int) (by omega) (by omega)
    cases e_
    obtain ⟨ad2, A2, d2, e_, y0, y1, y2, y3, y4, m2, i2⟩ := at_T33 HR2.out (i : Int) (by omega) (by omega)
    cases e_
    have p1 := eq_true (show (0 : Int) ≤ (i : Int) by omega)
    have q1 := eq_true (show (i : Int) < (l.length : Int) by omega)
    have hrd : rd_T33 l (i : Int) = l[i] := by unfold rd_T33; exact getD_nat l _ i ci
    rw [hrd] at x0 x1 x2 x3 x4 y0 y1 y2 y3 y4 i1 i2
    simp only [Int.toNat_natCast] at x0 x1 x2 x3 x4 y0 y1 y2 y3 y4
    have hpl := HL2.out l[i] (List.getElem_mem ci)
    generalize l[i] = p at x0 x1 x2 x3 x4 y0 y1 y2 y3 y4 i1 i2 hpl
    have HS : ∀ W, Below w.heap.size w W → (W.cell? (ad1.add (i * 5)) = some (.int .i64 p.f0) ∧ W.cell? ⟨(ad1.add (i * 5)).block, (ad1.add (i * 5)).off + 1, none⟩ = some (.int .i64 p.f1) ∧ W.cell? ⟨(ad1.add (i * 5)).block, (ad1.add (i * 5)).off + 2, none⟩ = some (.int .i64 p.f2) ∧ W.cell? ⟨(ad1.add (i * 5)).block, (ad1.add (i * 5)).off + 3, none⟩ = some (.int .i64 p.f3) ∧ W.cell? ⟨(ad1.add (i * 5)).block, (ad1.add (i * 5)).off + 4, none⟩ = some (.slice A1 p.f4.length d1) ∧ W.cell? (ad2.add (i * 5)) = some (.int .i64 p.f0) ∧ W.cell? ⟨(ad2.add (i * 5)).block, (ad2.add (i * 5)).off + 1, none⟩ = some (.int .i64 p.f1) ∧ W.cell? ⟨(ad2.add (i * 5)).block, (ad2.add (i * 5)).off + 2, none⟩ = some (.int .i64 p.f2) ∧ W.cell? ⟨(ad2.add (i * 5)).block, (ad2.add (i * 5)).off + 3, none⟩ = some (.int .i64 p.f3) ∧ W.cell? ⟨(ad2.add (i * 5)).block, (ad2.add (i * 5)).off + 4, none⟩ = some (.slice A2 p.f4.length d2)) := fun W hb => ⟨cem_ hb x0, cem_ hb x1, cem_ hb x2, cem_ hb x3, cem_ hb x4, cem_ hb y0, cem_ hb y1, cem_ hb y2, cem_ hb y3, cem_ hb y4⟩
    have I1 := Aside0.mk i1
    have I2 := Aside0.mk i2
    have CI := Aside0.mk ci
    have PL := Aside0.mk hpl
    have LL := HL.out
    clear i1 i2 hpl hrd ci m1 m2 x0 x1 x2 x3 x4 y0 y1 y2 y3 y4
    go_wp2
    refine sA_ (fun w' => w'.cell? (ad1.add (i * 5)) = some (.int .i64 p.f0) ∧ w'.cell? ⟨(ad1.add (i * 5)).block, (ad1.add (i * 5)).off + 1, none⟩ = some (.int .i64 p.f1) ∧ w'.cell? ⟨(ad1.add (i * 5)).block, (ad1.add (i * 5)).off + 2, none⟩ = some (.int .i64 p.f2) ∧ w'.cell? ⟨(ad1.add (i * 5)).block, (ad1.add (i * 5)).off + 3, none⟩ = some (.int .i64 p.f3) ∧ w'.cell? ⟨(ad1.add (i * 5)).block, (ad1.add (i * 5)).off + 4, none⟩ = some (.slice A1 p.f4.length d1) ∧ w'.cell? (ad2.add (i * 5)) = some (.int .i64 p.f0) ∧ w'.cell? ⟨(ad2.add (i * 5)).block, (ad2.add (i * 5)).off + 1, none⟩ = some (.int .i64 p.f1) ∧ w'.cell? ⟨(ad2.add (i * 5)).block, (ad2.add (i * 5)).off + 2, none⟩ = some (.int .i64 p.f2) ∧ w'.cell? ⟨(ad2.add (i * 5)).block, (ad2.add (i * 5)).off + 3, none⟩ = some (.int .i64 p.f3) ∧ w'.cell? ⟨(ad2.add (i * 5)).block, (ad2.add (i * 5)).off + 4, none⟩ = some (.slice A2 p.f4.length d2)) [11] psm.tab6 psm.bits6 (HS _ (bD_ HB.out)) (fun hHeld HT_ HW_ => ?_)
    have hbw := bD_ HB.out
    generalize wr.drew = W0 at hHeld hbw ⊢
    refine pA_ 0 (h:=pA_ 1 (h:=pA_ 2 (h:=pA_ 4 (h:=pA_ 5 (h:=pA_ 6 (h:=?_))))))
    refine tA_ 3 (h:=?_)
    refine tA_ 7 (h:=?_)
    refine join_ (σ := Nat × Nat) 2 #[true, true, true, true, true, true, true, true, true, true, false, false] (fun s_ => [(6, .pointer (some ⟨s_.1, 0, none⟩)), (7, .pointer (some ⟨s_.2, 0, none⟩))]) (fun s_ w' => w'.heap[s_.1]? = some (.cells #[.int .i64 0, .int .i64 0, .int .i64 0, .int .i64 0, .slice none 0 0] 33 (0, 0)) ∧ w'.heap[s_.2]? = some (.cells #[.int .i64 0, .int .i64 0, .int .i64 0, .int .i64 0, .slice none 0 0] 33 (0, 0)) ∧ w.heap.size ≤ s_.1 ∧ w.heap.size ≤ s_.2 ∧ s_.1 ≠ s_.2 ∧ Below w.heap.size w w') ?_ ?_
    rotate_left
    ·intro hCont
     refine wA_ 8 9 (some 6) (some 7) (h1:=fun K hK => ?_) (h2:=fun K hK => ?_)
     ·refine box_step ?hg (N := 6) ?hd (cs := #[.int .i64 0, .int .i64 0, .int .i64 0, .int .i64 0, .slice none 0 0]) (t := 33) ?hr ?_; (case hd => rfl); (case hg => rfl); (case hr => (go_simp; done))
      intro g1 e1 w1 bx1 hb1
      have hbA := bt_ hbw hb1
      have ga := Nat.le_of_eq e1.symm
      refine hK.out _ _ (HS _ hbA) (fun hHeld => ?_)
      clear hK K
      refine nA_ (h:=?_)
      refine oA_ 9 (some 7) (h:=fun K hK => ?_)
      refine box_step ?hg (N := 7) ?hd (cs := #[.int .i64 0, .int .i64 0, .int .i64 0, .int .i64 0, .slice none 0 0]) (t := 33) ?hr ?_; (case hd => rfl); (case hg => rfl); (case hr => (go_simp; done))
      intro g2 e2 w2 bx2 hb2
      have hbB := bt_ hbA hb2
      refine hK.out _ _ (HS _ hbB) (fun hHeld => ?_)
      clear hK K
      refine nA_ (h:=?_)
      have hne : g1 < g2 := by rw [e2]; exact blk_lt bx1
      have hge : w.heap.size ≤ g1 := by rw [e1]; exact hbw.size
      exact norm_ (by simp only [putAll, Act.put, l1_, l2_, l3_]) (hCont (g1, g2) _ ⟨blk_below bx1 hb2, bx2, by omega, by omega, by omega, hbB⟩)
     ·refine box_step ?hg (N := 7) ?hd (cs := #[.int .i64 0, .int .i64 0, .int .i64 0, .int .i64 0, .slice none 0 0]) (t := 33) ?hr ?_; (case hd => rfl); (case hg => rfl); (case hr => (go_simp; done))
      intro g2 e1 w1 bx1 hb1
      have hbA := bt_ hbw hb1
      have ga := Nat.le_of_eq e1.symm
      refine hK.out _ _ (HS _ hbA) (fun hHeld => ?_)
      clear hK K
      refine nA_ (h:=?_)
      refine oA_ 8 (some 6) (h:=fun K hK => ?_)
      refine box_step ?hg (N := 6) ?hd (cs := #[.int .i64 0, .int .i64 0, .int .i64 0, .int .i64 0, .slice none 0 0]) (t := 33) ?hr ?_; (case hd => rfl); (case hg => rfl); (case hr => (go_simp; done))
      intro g1 e2 w2 bx2 hb2
      have hbB := bt_ hbA hb2
      refine hK.out _ _ (HS _ hbB) (fun hHeld => ?_)
      clear hK K
      refine nA_ (h:=?_)
      have hne : g2 < g1 := by rw [e2]; exact blk_lt bx1
      have hge : w.heap.size ≤ g2 := by rw [e1]; exact hbw.size
      exact norm_ (by simp only [putAll, Act.put, l1_, l2_, l3_]) (hCont (g1, g2) _ ⟨bx2, blk_below bx1 hb2, by omega, by omega, by omega, hbB⟩)
    clear hHeld hbw
    rintro ⟨g1, g2⟩ W1 ⟨bk1, bk2, ge1, ge2, hne, hb⟩
    refine nA_ (h:=?_)
    have hne' := hne.symm
    have hs0 := cell_of bk1 (i := 0) rfl
    have hf0 := bf_ bk1 0
    have hs1 := cell_of bk1 (i := 1) rfl
    have hf1 := bf_ bk1 1
    have hs2 := cell_of bk1 (i := 2) rfl
    have hf2 := bf_ bk1 2
    have hs3 := cell_of bk1 (i := 3) rfl
    have hf3 := bf_ bk1 3
    have hs4 := cell_of bk1 (i := 4) rfl
    have hf4 := bf_ bk1 4
    refine oA_ 10 none (h:=fun K hK => ?_)
    refine skip_ (w1 := ?_) (by rfl) rfl ?_ ?_
    rotate_left
    ·go_simp
     rfl
    have hbx : Below w.heap.size w (((((W1.setCell ⟨g1, 0, none⟩ (.int .i64 p.f0)).setCell ⟨g1, 1, none⟩ (.int .i64 p.f1)).setCell ⟨g1, 2, none⟩ (.int .i64 p.f2)).setCell ⟨g1, 3, none⟩ (.int .i64 p.f3)).setCell ⟨g1, 4, none⟩ (.slice A1 p.f4.length d1)) := (bS_ (bS_ (bS_ (bS_ (bS_ hb ge1) ge1) ge1) ge1) ge1)
    have hk1 : (((((W1.setCell ⟨g1, 0, none⟩ (.int .i64 p.f0)).setCell ⟨g1, 1, none⟩ (.int .i64 p.f1)).setCell ⟨g1, 2, none⟩ (.int .i64 p.f2)).setCell ⟨g1, 3, none⟩ (.int .i64 p.f3)).setCell ⟨g1, 4, none⟩ (.slice A1 p.f4.length d1)).heap[g1]? = some (.cells #[.int .i64 p.f0, .int .i64 p.f1, .int .i64 p.f2, .int .i64 p.f3, .slice A1 p.f4.length d1] 33 (0, 0)) := by simpa using (blk_set (blk_set (blk_set (blk_set (blk_set bk1 0 (.int .i64 p.f0)) 1 (.int .i64 p.f1)) 2 (.int .i64 p.f2)) 3 (.int .i64 p.f3)) 4 (.slice A1 p.f4.length d1))
    have hk2 : (((((W1.setCell ⟨g1, 0, none⟩ (.int .i64 p.f0)).setCell ⟨g1, 1, none⟩ (.int .i64 p.f1)).setCell ⟨g1, 2, none⟩ (.int .i64 p.f2)).setCell ⟨g1, 3, none⟩ (.int .i64 p.f3)).setCell ⟨g1, 4, none⟩ (.slice A1 p.f4.length d1)).heap[g2]? = some (.cells #[.int .i64 0, .int .i64 0, .int .i64 0, .int .i64 0, .slice none 0 0] 33 (0, 0)) := (blk_far (blk_far (blk_far (blk_far (blk_far bk2 hne' _) hne' _) hne' _) hne' _) hne' _)
    refine hK.out _ _ (HS _ hbx) (fun hHeld => ?_)
    clear hK K hHeld
    clear bk1 bk2 hb hs0 hs1 hs2 hs3 hs4 hf0 hf1 hf2 hf3 hf4
    refine wq_at (fun W => W.heap[g1]? = some (.cells #[.int .i64 p.f0, .int .i64 p.f1, .int .i64 p.f2, .int .i64 p.f3, .slice A1 p.f4.length d1] 33 (0, 0)) ∧ W.heap[g2]? = some (.cells #[.int .i64 0, .int .i64 0, .int .i64 0, .int .i64 0, .slice none 0 0] 33 (0, 0)) ∧ Below w.heap.size w W) ⟨hk1, hk2, hbx⟩ ?_
    clear hk1 hk2 hbx
    rintro W2 ⟨bk1, bk2, hb⟩
    have hs0 := cell_of bk2 (i := 0) rfl
    have hf0 := bf_ bk2 0
    have hs1 := cell_of bk2 (i := 1) rfl
    have hf1 := bf_ bk2 1
    have hs2 := cell_of bk2 (i := 2) rfl
    have hf2 := bf_ bk2 2
    have hs3 := cell_of bk2 (i := 3) rfl
    have hf3 := bf_ bk2 3
    have hs4 := cell_of bk2 (i := 4) rfl
    have hf4 := bf_ bk2 4
    refine lA_ 11 none (h:=fun K hK => ?_)
    refine skip_ (w1 := ?_) (by rfl) rfl ?_ ?_
    rotate_left
    ·go_simp
     rfl
    have hbx : Below w.heap.size w (((((W2.setCell ⟨g2, 0, none⟩ (.int .i64 p.f0)).setCell ⟨g2, 1, none⟩ (.int .i64 p.f1)).setCell ⟨g2, 2, none⟩ (.int .i64 p.f2)).setCell ⟨g2, 3, none⟩ (.int .i64 p.f3)).setCell ⟨g2, 4, none⟩ (.slice A2 p.f4.length d2)) := (bS_ (bS_ (bS_ (bS_ (bS_ hb ge2) ge2) ge2) ge2) ge2)
    have hk2 : (((((W2.setCell ⟨g2, 0, none⟩ (.int .i64 p.f0)).setCell ⟨g2, 1, none⟩ (.int .i64 p.f1)).setCell ⟨g2, 2, none⟩ (.int .i64 p.f2)).setCell ⟨g2, 3, none⟩ (.int .i64 p.f3)).setCell ⟨g2, 4, none⟩ (.slice A2 p.f4.length d2)).heap[g2]? = some (.cells #[.int .i64 p.f0, .int .i64 p.f1, .int .i64 p.f2, .int .i64 p.f3, .slice A2 p.f4.length d2] 33 (0, 0)) := by simpa using (blk_set (blk_set (blk_set (blk_set (blk_set bk2 0 (.int .i64 p.f0)) 1 (.int .i64 p.f1)) 2 (.int .i64 p.f2)) 3 (.int .i64 p.f3)) 4 (.slice A2 p.f4.length d2))
    have hk1 : (((((W2.setCell ⟨g2, 0, none⟩ (.int .i64 p.f0)).setCell ⟨g2, 1, none⟩ (.int .i64 p.f1)).setCell ⟨g2, 2, none⟩ (.int .i64 p.f2)).setCell ⟨g2, 3, none⟩ (.int .i64 p.f3)).setCell ⟨g2, 4, none⟩ (.slice A2 p.f4.length d2)).heap[g1]? = some (.cells #[.int .i64 p.f0, .int .i64 p.f1, .int .i64 p.f2, .int .i64 p.f3, .slice A1 p.f4.length d1] 33 (0, 0)) := (blk_far (blk_far (blk_far (blk_far (blk_far bk1 hne _) hne _) hne _) hne _) hne _)
    refine hK.out _ _ ?_
    clear hK K
    clear bk1 bk2 hb hs0 hs1 hs2 hs3 hs4 hf0 hf1 hf2 hf3 hf4 HS HB
    refine wq_at (fun W => W.heap[g1]? = some (.cells #[.int .i64 p.f0, .int .i64 p.f1, .int .i64 p.f2, .int .i64 p.f3, .slice A1 p.f4.length d1] 33 (0, 0)) ∧ W.heap[g2]? = some (.cells #[.int .i64 p.f0, .int .i64 p.f1, .int .i64 p.f2, .int .i64 p.f3, .slice A2 p.f4.length d2] 33 (0, 0)) ∧ Below w.heap.size w W) ⟨hk1, hk2, hbx⟩ ?_
    clear hk1 hk2 hbx
    rintro W3 ⟨bk1, bk2, hb⟩
    refine dA_ (h:=?_)
    clear HT_ HW_
    have hs0 := cell_of bk1 (i := 0) rfl
    have ht0 := cell_of bk2 (i := 0) rfl
    have hs1 := cell_of bk1 (i := 1) rfl
    have ht1 := cell_of bk2 (i := 1) rfl
    have hs2 := cell_of bk1 (i := 2) rfl
    have ht2 := cell_of bk2 (i := 2) rfl
    have hs3 := cell_of bk1 (i := 3) rfl
    have ht3 := cell_of bk2 (i := 3) rfl
    have hs4 := cell_of bk1 (i := 4) rfl
    have ht4 := cell_of bk2 (i := 4) rfl
    have BK1 := Aside0.mk bk1
    have BK2 := Aside0.mk bk2
    have HBo := Aside0.mk hb
    clear bk1 bk2 hb
    go_wp2
    go_loopg [65] p.f4.length (fun kq v65 w' => ∃ j : Nat, v65 = .int .i64 (j : Int) ∧ Aside0 (j + kq = p.f4.length) ∧ Aside0 (w'.heap[g1]? = some (.cells #[.int .i64 p.f0, .int .i64 p.f1, .int .i64 p.f2, .int .i64 p.f3, .slice A1 p.f4.length d1] 33 (0, 0))) ∧ Aside0 (w'.heap[g2]? = some (.cells #[.int .i64 p.f0, .int .i64 p.f1, .int .i64 p.f2, .int .i64 p.f3, .slice A2 p.f4.length d2] 33 (0, 0))) ∧ Aside0 (Below w.heap.size w w'))
    case atStart => exact ⟨0, rfl, ⟨by omega⟩, BK1, BK2, HBo⟩
    case round =>
     clear hs0 hs1 hs2 hs3 hs4 ht0 ht1 ht2 ht3 ht4 BK1 BK2 HBo
     obtain ⟨j, rfl, HJ, BK1, BK2, HB⟩ := hrel
     by_cases cj : j < p.f4.length
     ·cases gk with
      | zero => exact absurd HJ.out (by omega)
      | succ k2 =>
       have e0 : decide ((j : Int) < (p.f4.length : Int)) = true := decide_eq_true (by omega)
       have e1 : decide (j < p.f4.length) = true := decide_eq_true cj
       obtain ⟨u1, e_, x0, x1⟩ := at_T70 I1.out (j : Int) (by omega) (by omega)
       cases e_
       obtain ⟨u2, e_, y0, y1⟩ := at_T70 I2.out (j : Int) (by omega) (by omega)
       cases e_
       have p2 := eq_true (show (0 : Int) ≤ (j : Int) by omega)
       have q2 := eq_true (show (j : Int) < (p.f4.length : Int) by omega)
       simp only [Int.toNat_natCast] at x0 x1 y0 y1
       generalize rd_T70 p.f4 (j : Int) = d at x0 x1 y0 y1
       have CJ := Aside0.mk cj
       have PL' := PL.out
       clear cj
       go_wp2
       have hbw := bD_ HB.out
       refine sA_ (fun w' => w'.cell? ⟨g1, 4, none⟩ = some (.slice (some u1) p.f4.length d1) ∧ w'.cell? ⟨g2, 4, none⟩ = some (.slice (some u2) p.f4.length d2) ∧ w'.cell? (u1.add (j * 2)) = some (.int .i64 d.f0) ∧ w'.cell? ⟨(u1.add (j * 2)).block, (u1.add (j * 2)).off + 1, none⟩ = some (.string d.f1) ∧ w'.cell? (u2.add (j * 2)) = some (.int .i64 d.f0) ∧ w'.cell? ⟨(u2.add (j * 2)).block, (u2.add (j * 2)).off + 1, none⟩ = some (.string d.f1)) [] psm.tab12 psm.bits12 ⟨cell_of (kD_ BK1.out) (i := 4) rfl, cell_of (kD_ BK2.out) (i := 4) rfl, cem_ hbw x0, cem_ hbw x1, cem_ hbw y0, cem_ hbw y1⟩ (fun hHeld HT_ HW_ => ?_)
       have BK1' := Aside0.mk (kD_ BK1.out)
       have BK2' := Aside0.mk (kD_ BK2.out)
       have HB' := Aside0.mk hbw
       clear x0 x1 y0 y1 BK1 BK2 HB hbw
       generalize wr.drew = W4 at hHeld BK1' BK2' HB' ⊢
       refine pA_ 0 (h:=pA_ 2 (h:=pA_ 5 (h:=pA_ 7 (h:=?_))))
       refine tA_ 1 (h:=tA_ 6 (h:=pA_ 3 (h:=pA_ 8 (h:=tA_ 4 (h:=tA_ 9 (h:=?_))))))
       refine pA_ 10 (h:=?_)
       refine dA_ (h:=?_)
       clear HT_ HW_ hHeld
       go_wp2
       go_roundg k2
       case measure => have := HJ.out; omega
       case rel => exact ⟨j + 1, by rw [w64s j (by have := CJ.out; omega)], ⟨by have := HJ.out; omega⟩, BK1', BK2', HB'⟩
     ·have e0 : decide ((j : Int) < (p.f4.length : Int)) = false := decide_eq_false (by omega)
      have e1 : decide (j < p.f4.length) = false := decide_eq_false cj
      go_wp2
      go_roundg k1
      case measure => have := HI.out; omega
      case rel => exact ⟨i + 1, by rw [w64s i (by have := CI.out; omega)], ⟨by have := HI.out; omega⟩, HB⟩
  ·have c0 : decide ((i : Int) < (l.length : Int)) = false := decide_eq_false (by omega)
   have cc1 : decide (i < l.length) = false := decide_eq_false ci
   go_wp2
   go_ret
   exact ⟨rfl, HB.out⟩
end Go.Proofs.YtgogjghfehcpoaaGreatDoor.QT
