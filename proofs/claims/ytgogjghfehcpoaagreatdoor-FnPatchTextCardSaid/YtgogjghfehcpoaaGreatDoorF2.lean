/- Part 2 of the proof of: FnPatchText: the statement, at every input; its condition: the listed variables read as the row lists them. -/
import Derived.Test.YtgogjghfehcpoaaGreatDoorF1
import Derived.Test.YtgogjghfehcpoaaGreatDoorProg
import Derived.Laws.IdiomStrings
import Derived.Laws.Cover4
import Derived.WalkSpells
import Derived.Shelf.Small.Utf8
import Derived.Shelf.Utf8.RuneCount
import Derived.Shelf.Strconv.Atoi
import Derived.Shelf.Strconv.Itoa0
import Derived.Shelf.Strconv.Itoa1
import Derived.Shelf.LaysM
import Derived.Shelf.Strconv.Itoa2
import Derived.Shelf.Strconv.Itoa3
import Derived.Shelf.Bytes.TryGrow
import Derived.Shelf.Bytes.GrowSliceCatch
import Derived.Shelf.Bytes.GrowSlice
import Derived.Shelf.Bytes.GrowRow0
import Derived.Shelf.Bytes.GrowRow
import Derived.Shelf.Bytes.GrowNil
import Derived.Shelf.Bytes.Grow
import Derived.Shelf.Bytes.WriteString
import Derived.Shelf.Bytes.String
import Derived.Tactics
import Derived.WalkKit
import Derived.KernelRfl
import Derived.RowKit3
import Derived.Laws.Externs
import Derived.Below
import Derived.Deep.Draws
import Derived.Deep.AppendLies
import Derived.Maps.AppendAt
import Derived.OwnWalk
import Derived.Laws.BytesArg
import Derived.Laws.MakeOwn
import Derived.Laws.OwnMore
import Derived.Deep.OwnRows
import Derived.Lib.ConvBytes
import Derived.Laws.Slices
import Derived.Deep.LoopGhost
import Derived.Deep.QuietTactic
import Derived.BigQuiet
import Derived.WideLaws
import Derived.Deep.DeepCutAuto
import Derived.Deep.CutBlock
import Derived.Deep.RegionHeld3
import Derived.Laws.Rows
import Derived.Lib.AppendStr
import Derived.ArgAppend
import Derived.Laws.IdiomCopy
import Derived.OrdersHeld
import Derived.Laws.BitsLemmas
import Derived.RowKit
import Derived.Laws.StructEq
import Derived.Lib.SlBytesConst
set_option maxHeartbeats 8000000
set_option maxRecDepth 100000
namespace Go.Proofs.YtgogjghfehcpoaaGreatDoorW.PrintWords
open Go.RowKit
def runeVal : Value → Int
 | .int _ n => n
 | _ => 0
def runesOf (s : ByteArray) : List Int := (Conv.runesFrom s s.size 0 #[]).toList.map runeVal
theorem runesFrom_ints (s : ByteArray) : ∀ (b i : Nat) (acc : Array Value), (∀ v ∈ acc.toList, ∃ n, v = .int .i32 n) → ∀ v ∈ (Conv.runesFrom s b i acc).toList, ∃ n, v = .int .i32 n
 | 0, _, acc, h => by simpa [Conv.runesFrom] using h
 | b + 1, i, acc, h => by
  unfold Conv.runesFrom
  split
  ·refine runesFrom_ints s b _ _ ?_
   intro v hv
   rw [Array.toList_push, List.mem_append] at hv
   rcases hv with hv | hv
   ·exact h v hv
   ·exact ⟨_, by simpa using hv⟩
  ·exact h
theorem runesFrom_eq (s : ByteArray) : (Conv.runesFrom s s.size 0 #[]).toList = nums .i32 (runesOf s) := by
 unfold nums runesOf
 rw [List.map_map]
 have h := runesFrom_ints s s.size 0 #[] (by simp)
 generalize (Conv.runesFrom s s.size 0 #[]).toList = l at h
 induction l with
 | nil => rfl
 | cons v l ih =>
  obtain ⟨n, rfl⟩ := h v (by simp)
  rw [List.map_cons, ← ih (fun v hv => h v (by simp [hv]))]
  rfl
theorem runesOf_length (s : ByteArray) : (runesOf s).length = (Conv.runesFrom s s.size 0 #[]).size := by simp [runesOf]
theorem runesOf_le (s : ByteArray) : (runesOf s).length ≤ s.size := by
 rw [runesOf_length]
 have := size_runesFrom s s.size 0 #[]
 simpa using this
section
variable {P : Program} {ops : Array Oper} {rest : List Oper} {o : Oper} {a : Act} {Q : Exit → Act → World → Prop}
theorem Kd.R_runes {w0 W : World} (base e : Nat) (hgd : o.guard = none) {N : Tmp} (_hd : o.dst = some N) (src dst : TypeId) (x : Operand) (ho : o.op = .convert src dst x) (s : ByteArray) (hx : a.eval x = .string s)
  (hs : P.underlying src = some .string) (hdst : P.underlying dst = some (.slice e)) (he : P.underlying e = some (.int .i32)) (hl : s.size ≤ 70368744177664)
  {ok okp : Nat → Prop} (_hok : ∀ k, okp k → ok k) (hfresh : ∀ k, W.heap.size ≤ k → ok k) (HB : Below base w0 W) (hbase : base ≤ W.heap.size)
  (h : ∀ v1 w1, (Kd.int .i32).R e w1 base ok v1 (runesOf s) → Below base w0 w1 → W.grownBy w1 none → (∃ b, v1.ownBlock = some b ∧ W.heap.size ≤ b) → wpList P ops Q rest (a.put o.dst v1) w1) : wpList P ops Q (o :: rest) a W := by
 have hsz : (Conv.runesFrom s s.size 0 #[]).size ≤ 70368744177664 := by have := runesOf_le s; rw [runesOf_length] at this; omega
 have hrun := run_runes_of_string (P := P) W src dst e s hs hdst he hsz
 have hge := grownCap_ge W (Conv.runesFrom s s.size 0 #[]).size 0 e
 have hle : grownCap W (Conv.runesFrom s s.size 0 #[]).size 0 e ≤ maxLen := by
  unfold grownCap Question.cut maxLen
  have h63 : (Conv.runesFrom s s.size 0 #[]).size < 2 ^ 63 := by omega
  have := Nat.mod_lt (W.tape W.drawn (.appendCap (Conv.runesFrom s s.size 0 #[]).size 0 e)) (y := 2 ^ 63 - (Conv.runesFrom s s.size 0 #[]).size) (by omega)
  simp only at this ⊢
  omega
 generalize hcp : grownCap W (Conv.runesFrom s s.size 0 #[]).size 0 e = cp at *
 refine event_run hgd (v := .slice (some ⟨W.heap.size, 0, none⟩) (Conv.runesFrom s s.size 0 #[]).size cp) (w1 := W.drew.alloc (.cells (Conv.runesFrom s s.size 0 #[] ++ Array.replicate (cp - (Conv.runesFrom s s.size 0 #[]).size) (.int .i32 0)) e)) (by simp [execOp, ho, hx, hrun]) (h _ _ ?_ ?_ ?_ ⟨W.heap.size, by simp [Value.ownBlock], Nat.le_refl _⟩)
 ·refine Kd.R_of_own ?_ ?_
  ·rw [runesOf_length]
   refine ⟨?_, .inr ⟨W.heap.size, cp, _, rfl, hbase, heap_alloc_new W.drew _, hge, hle, ?_, ?_⟩⟩
   ·show (nums .i32 (runesOf s)).length = _
    rw [nums_length, runesOf_length, Nat.mul_one]
   ·rw [Array.size_append, Array.size_replicate]; omega
   ·rw [Nat.mul_one, Array.toList_append, List.take_append_of_le_length (by simp), List.take_of_length_le (by simp), runesFrom_eq]
    rfl
  ·intro k hk
   have : W.heap.size = k := by simpa [Value.ownBlock] using hk
   exact hfresh k (by omega)
 ·exact (below_drew HB).alloc hbase _
 ·exact ⟨rfl, rfl, rfl, by simp [World.alloc], fun i hi _ => by simp [World.alloc, Array.getElem?_push, Nat.ne_of_lt hi]; rfl⟩
theorem Kd.R_make0 {α : Type} (d : Kd α) {w0 W : World} (base e : Nat) (hgd : o.guard = none) {N : Tmp} (_hd : o.dst = some N) (t : TypeId) (x y : Operand) (ho : o.op = .makeSlice t x y) (c : Int) (hx : a.eval x = .int .i64 0) (hy : a.eval y = .int .i64 c)
  (ht : P.underlying t = some (.slice e)) (z : Value) (bytes : Nat) (hinfo : (P.info? e).map (fun i => (i.zero, i.size, i.bytes)) = some (some z, d.sz, bytes)) (hb0 : 0 < bytes)
  {ok okp : Nat → Prop} (_hok : ∀ k, okp k → ok k) (hfresh : ∀ k, W.heap.size ≤ k → ok k) (h0 : 0 ≤ c) (hl : c.toNat * bytes ≤ 281474976710656) (HB : Below base w0 W) (hbase : base ≤ W.heap.size)
  (h : ∀ v1 w1, d.R e w1 base ok v1 [] → Below base w0 w1 → W.grownBy w1 none → (∃ b, v1.ownBlock = some b ∧ W.heap.size ≤ b) → wpList P ops Q rest (a.put o.dst v1) w1) : wpList P ops Q (o :: rest) a W := by
 obtain ⟨m, rfl⟩ := Int.eq_ofNat_of_zero_le h0
 simp only [Int.toNat_natCast] at hl
 obtain ⟨i0, hi, hzz⟩ := Option.map_eq_some_iff.1 hinfo
 simp only [Prod.mk.injEq] at hzz
 obtain ⟨hz0, hz1, hz2⟩ := hzz
 have hm : m ≤ 281474976710656 := Nat.le_trans (Nat.le_mul_of_pos_right _ hb0) hl
 have hr := run_make (P := P) (w := W) t e i0 z ht hi hz0 .i64 .i64 0 (m : Int) (by omega) (by omega)
  (by
   have h3 : ((i0.bytes * m : Nat) : Int) ≤ 281474976710656 := by rw [hz2, Nat.mul_comm]; omega
   rwa [Int.natCast_mul] at h3) (by omega)
 simp only [Int.toNat_natCast] at hr
 refine event_run hgd (v := .slice (some ⟨W.heap.size, 0, none⟩) 0 m) (w1 := W.alloc (.cells (madeCells z.cells (m * i0.size)) e)) (by simp [execOp, ho, hx, hy, hr]) (h _ _ ⟨?_, [], ⟨by simp, .inr ⟨W.heap.size, m, _, rfl, hbase, heap_alloc_new W _, by simp, by unfold maxLen; omega, by rw [size_madeCells, hz1], by simp⟩⟩, Reps.none _ _⟩ ?_ (World.grownBy_alloc W _ none) ⟨W.heap.size, by simp [Value.ownBlock], Nat.le_refl _⟩)
 ·intro k hk
  have : W.heap.size = k := by simpa [Value.ownBlock] using hk
  exact hfresh k (by omega)
 ·exact HB.alloc hbase _
end
theorem Kd.C_runes {P : Program} {w : World} {src dst e : TypeId} {A : Option Addr} {n c : Nat} {xs : List Int} (hs : P.underlying src = some (.slice e)) (he : P.underlying e = some (.int .i32)) (hd : P.underlying dst = some .string)
  (h : (Kd.int .i32).C w A n xs) : (convert src dst (.slice A n c)).run P w = .ok (.string (runesBytes xs)) w := by
 have hr : ReadsOf (Value.int .i32) 0 w A n xs := Kd.reads_of_C (enc := Value.int .i32) (d := (0 : Int)) (h1 := fun _ => rfl) h
 have hn : xs.length = n := hr.1
 rcases A with _ | ad
 ·have h0 : n = 0 := by
   rcases Nat.eq_zero_or_pos n with h0 | h0
   ·exact h0
   ·obtain ⟨ad, h', _⟩ := hr.2.2 h0
    cases h'
  subst h0
  obtain rfl : xs = [] := List.eq_nil_of_length_eq_zero hn
  exact run_convert_runes_nil w src dst e 0 c hs he hd
 ·have := run_convert_runes (P := P) w src dst e ad n c xs (by omega) hs he hd (fun i hi => by
   have h0 : 0 < n := by omega
   obtain ⟨ad', h', hc⟩ := hr.2.2 h0
   cases h'
   exact hc i (by omega))
  rwa [List.take_of_length_le (by omega)] at this
theorem run_i2f {P : Program} {src dst : TypeId} {u : TypeDesc} (hs : P.underlying src = some u) (hd : P.underlying dst = some (.float .f64)) (n : Int) (w : World) :
  (convert src dst (.int .i64 n)).run P w = .ok (.float .f64 (FloatKind.f64.nearest n)) w := by
 simp [convert, run_underlying hs, run_underlying hd, Conv.intToFloat]
def f2iOk : Value → Bool
 | .float .f64 b => match (FloatKind.f64.decode b).toInt .zero with
  | some n => decide (IntKind.i64.min ≤ n ∧ n ≤ IntKind.i64.max)
  | none => false
 | _ => false
def f2i : Value → Int
 | .float .f64 b => ((FloatKind.f64.decode b).toInt .zero).getD 0
 | _ => 0
theorem run_f2i {P : Program} {src dst : TypeId} {u : TypeDesc} (hs : P.underlying src = some u) (hd : P.underlying dst = some (.int .i64)) {x : Value} (h : f2iOk x = true) (w : World) :
  (convert src dst x).run P w = .ok (.int .i64 (f2i x)) w := by
 unfold f2iOk at h
 split at h
 ·rename_i b
  cases hn : (FloatKind.f64.decode b).toInt .zero with
  | none => rw [hn] at h; exact absurd h (by simp)
  | some n =>
   rw [hn] at h
   have h' : IntKind.i64.min ≤ n ∧ n ≤ IntKind.i64.max := of_decide_eq_true h
   have hx : (Conv.floatToInt .f64 b .i64).run P w = .ok (.int .i64 n) w := by
    unfold Conv.floatToInt
    rw [hn]
    simp only
    rw [if_pos h']
    rfl
   simp only [convert, Sem.run_bind, run_underlying hs, run_underlying hd, Result.andThen]
   rw [hx]
   simp [f2i, hn]
 ·exact absurd h (by simp)
def errW : Option Int → Value
 | none => .nilIface
 | some c => .iface 146 (.int .i64 c)
def dmpCells : Array Value := #[.int .i64 0, .int .i64 4, .int .i64 1000, .float .f64 4602678819172646912, .int .i64 4, .int .i64 32, .float .f64 4602678819172646912]
def DmpAt (w : World) (g : Nat) : Prop := w.heap[g]? = some (.cells dmpCells 81 (0, 0))
theorem dmp_below {w W : World} {g : Nat} (h : DmpAt w g) (hb : Below w.heap.size w W) : DmpAt W g := (hb.block g (blk_lt h)).trans h
theorem dmp_cell1 {w : World} {g : Nat} (h : DmpAt w g) : w.cell? ⟨g, 1, none⟩ = some (.int .i64 4) := (bc_ h 1).trans rfl
theorem dmp_cell4 {w : World} {g : Nat} (h : DmpAt w g) : w.cell? ⟨g, 4, none⟩ = some (.int .i64 4) := (bc_ h 4).trans rfl
theorem dmp_cell5 {w : World} {g : Nat} (h : DmpAt w g) : w.cell? ⟨g, 5, none⟩ = some (.int .i64 32) := (bc_ h 5).trans rfl
theorem run_nnil {P : Program} {α : Type} {d : Kd α} {w0 : World} {A : Option Addr} {n c : Nat} {xs : List α} {t e : TypeId} (ht : P.underlying t = some (.slice e)) (h : d.C w0 A n xs) (hn : n ≠ 0) (w : World) :
  (binOp .eql t (.slice A n c) (.slice none 0 0)).run P w = .ok (.bool false) w := by
 obtain ⟨ad, rfl, _⟩ := h.2.2 (by omega)
 exact Lib.run_eql_slice_nil w t e (some ad) n c 0 0 ht
end Go.Proofs.YtgogjghfehcpoaaGreatDoorW.PrintWords
namespace Go.Proofs
open Go.Shelf
def Tryz.lays195_ren : Go.Shelf.Ren := ⟨fun | 195 => 88 | n => n, fun | 9 => 9 | 3 => 3 | 0 => 0 | 4 => 4 | n => n, fun | n => n⟩
theorem Tryz.lays195 : Go.Proofs.Lays.n195 Tryz.prog Tryz.lays195_ren := {
 mixed := by kernel_rfl
 f195 := Tryz.func88.trans (congrArg some (by kernel_rfl))
 t0 := Tryz.underlying0
 a0 := Tryz.isAgg0
 z0 := Tryz.sizeOf0
 v0 := Tryz.zeroValue0
 t3 := Tryz.underlying3
 a3 := Tryz.isAgg3
 z3 := Tryz.sizeOf3
 v3 := Tryz.zeroValue3
 t4 := Tryz.underlying4
 a4 := Tryz.isAgg4
 z4 := Tryz.sizeOf4
 v4 := Tryz.zeroValue4
 t9 := Tryz.underlying9
 a9 := Tryz.isAgg9
 z9 := Tryz.sizeOf9
 v9 := Tryz.zeroValue9 }
open Go.RowKit in
theorem Tryz.utf8_RuneCountInString (s : ByteArray) (w : World) (hs : s.size < 9223372036854775807) :
  Calls Tryz.prog 88 #[.string s] w fun e w' => e = .returned (.int .i64 (Lib.runeCount s)) ∧ ∃ pos, w' = w.iter s pos := Any.utf8_RuneCountInString Tryz.lays195 s w hs
open Go.RowKit in
def Tryz.lays172_ren : Go.Shelf.Ren := ⟨fun | 172 => 40 | 244 => 71 | 245 => 72 | 247 => 96 | 279 => 97 | 280 => 98 | 281 => 99 | 282 => 100 | 287 => 128 | 316 => 129 | 171 => 50 | 205 => 39 | 321 => 143 | 322 => 144 | 243 => 79 | 246 => 104 | 283 => 131 | 284 => 132 | 285 => 133 | 286 => 134 | 129 => 146 | 317 => 145 | 318 => 147 | 319 => 148 | 320 => 149 | 337 => 154 | 338 => 155 | n => n, fun | 9 => 9 | 3 => 3 | 75 => 54 | 76 => 85 | 4 => 4 | 5 => 5 | 167 => 146 | 37 => 97 | 0 => 0 | 85 => 147 | 2 => 2 | 168 => 149 | 53 => 165 | 175 => 166 | 46 => 126 | 210 => 169 | 127 => 184 | 145 => 123 | 143 => 121 | 21 => 21 | 171 => 170 | 173 => 173 | 212 => 186 | 51 => 187 | 20 => 20 | 213 => 188 | 232 => 200 | 233 => 201 | 80 => 60 | n => n, fun | 15 => 2 | 16 => 3 | 17 => 6 | 18 => 7 | 19 => 8 | n => n⟩
theorem Tryz.lays172 : Go.Proofs.Lays.n172 Tryz.prog Tryz.lays172_ren := {
 mixed := by kernel_rfl
 f129 := Tryz.func146.trans (congrArg some (by kernel_rfl))
 f171 := Tryz.func50.trans (congrArg some (by kernel_rfl))
 f172 := Tryz.func40.trans (congrArg some (by kernel_rfl))
 f205 := Tryz.func39.trans (congrArg some (by kernel_rfl))
 f243 := Tryz.func79.trans (congrArg some (by kernel_rfl))
 f244 := Tryz.func71.trans (congrArg some (by kernel_rfl))
 f245 := Tryz.func72.trans (congrArg some (by kernel_rfl))
 f246 := Tryz.func104.trans (congrArg some (by kernel_rfl))
 f247 := Tryz.func96.trans (congrArg some (by kernel_rfl))
 f279 := Tryz.func97.trans (congrArg some (by kernel_rfl))
 f280 := Tryz.func98.trans (congrArg some (by kernel_rfl))
 f281 := Tryz.func99.trans (congrArg some (by kernel_rfl))
 f282 := Tryz.func100.trans (congrArg some (by kernel_rfl))
 f283 := Tryz.func131.trans (congrArg some (by kernel_rfl))
 f284 := Tryz.func132.trans (congrArg some (by kernel_rfl))
 f285 := Tryz.func133.trans (congrArg some (by kernel_rfl))
 f286 := Tryz.func134.trans (congrArg some (by kernel_rfl))
 f287 := Tryz.func128.trans (congrArg some (by kernel_rfl))
 f316 := Tryz.func129.trans (congrArg some (by kernel_rfl))
 f317 := Tryz.func145.trans (congrArg some (by kernel_rfl))
 f318 := Tryz.func147.trans (congrArg some (by kernel_rfl))
 f319 := Tryz.func148.trans (congrArg some (by kernel_rfl))
 f320 := Tryz.func149.trans (congrArg some (by kernel_rfl))
 f321 := Tryz.func143.trans (congrArg some (by kernel_rfl))
 f322 := Tryz.func144.trans (congrArg some (by kernel_rfl))
 f337 := Tryz.func154.trans (congrArg some (by kernel_rfl))
 f338 := Tryz.func155.trans (congrArg some (by kernel_rfl))
 t0 := Tryz.underlying0
 a0 := Tryz.isAgg0
 z0 := Tryz.sizeOf0
 v0 := Tryz.zeroValue0
 t2 := Tryz.underlying2
 a2 := Tryz.isAgg2
 z2 := Tryz.sizeOf2
 v2 := Tryz.zeroValue2
 t3 := Tryz.underlying3
 a3 := Tryz.isAgg3
 z3 := Tryz.sizeOf3
 v3 := Tryz.zeroValue3
 t4 := Tryz.underlying4
 a4 := Tryz.isAgg4
 z4 := Tryz.sizeOf4
 v4 := Tryz.zeroValue4
 t5 := Tryz.underlying5
 a5 := Tryz.isAgg5
 z5 := Tryz.sizeOf5
 v5 := Tryz.zeroValue5
 t9 := Tryz.underlying9
 a9 := Tryz.isAgg9
 z9 := Tryz.sizeOf9
 v9 := Tryz.zeroValue9
 t20 := Tryz.underlying20
 a20 := Tryz.isAgg20
 z20 := Tryz.sizeOf20
 v20 := Tryz.zeroValue20
 t21 := Tryz.underlying21
 a21 := Tryz.isAgg21
 z21 := Tryz.sizeOf21
 v21 := Tryz.zeroValue21
 t37 := Tryz.underlying97
 a37 := Tryz.isAgg97
 z37 := Tryz.sizeOf97
 v37 := Tryz.zeroValue97
 t46 := Tryz.underlying126
 a46 := Tryz.isAgg126
 z46 := Tryz.sizeOf126
 v46 := Tryz.zeroValue126
 t51 := Tryz.underlying187
 a51 := Tryz.isAgg187
 z51 := Tryz.sizeOf187
 v51 := Tryz.zeroValue187
 t53 := Tryz.underlying165
 a53 := Tryz.isAgg165
 z53 := Tryz.sizeOf165
 v53 := Tryz.zeroValue165
 t75 := Tryz.underlying54
 a75 := Tryz.isAgg54
 z75 := Tryz.sizeOf54
 v75 := Tryz.zeroValue54
 t76 := Tryz.underlying85
 a76 := Tryz.isAgg85
 z76 := Tryz.sizeOf85
 v76 := Tryz.zeroValue85
 t85 := Tryz.underlying147
 a85 := Tryz.isAgg147
 z85 := Tryz.sizeOf147
 v85 := Tryz.zeroValue147
 t127 := Tryz.underlying184
 a127 := Tryz.isAgg184
 z127 := Tryz.sizeOf184
 v127 := Tryz.zeroValue184
 t143 := Tryz.underlying121
 a143 := Tryz.isAgg121
 z143 := Tryz.sizeOf121
 v143 := Tryz.zeroValue121
 t145 := Tryz.underlying123
 a145 := Tryz.isAgg123
 z145 := Tryz.sizeOf123
 v145 := Tryz.zeroValue123
 t167 := Tryz.underlying146
 a167 := Tryz.isAgg146
 z167 := Tryz.sizeOf146
 v167 := Tryz.zeroValue146
 t168 := Tryz.underlying149
 a168 := Tryz.isAgg149
 z168 := Tryz.sizeOf149
 v168 := Tryz.zeroValue149
 t171 := Tryz.underlying170
 a171 := Tryz.isAgg170
 z171 := Tryz.sizeOf170
 v171 := Tryz.zeroValue170
 t173 := Tryz.underlying173
 a173 := Tryz.isAgg173
 z173 := Tryz.sizeOf173
 v173 := Tryz.zeroValue173
 t175 := Tryz.underlying166
 a175 := Tryz.isAgg166
 z175 := Tryz.sizeOf166
 v175 := Tryz.zeroValue166
 t210 := Tryz.underlying169
 a210 := Tryz.isAgg169
 z210 := Tryz.sizeOf169
 v210 := Tryz.zeroValue169
 t212 := Tryz.underlying186
 a212 := Tryz.isAgg186
 z212 := Tryz.sizeOf186
 v212 := Tryz.zeroValue186
 t213 := Tryz.underlying188
 a213 := Tryz.isAgg188
 z213 := Tryz.sizeOf188
 t232 := Tryz.underlying200
 a232 := Tryz.isAgg200
 z232 := Tryz.sizeOf200
 v232 := Tryz.zeroValue200
 t233 := Tryz.underlying201
 a233 := Tryz.isAgg201
 z233 := Tryz.sizeOf201
 v233 := Tryz.zeroValue201
 g15 := by kernel_rfl
 g16 := by kernel_rfl
 g17 := by kernel_rfl
 g18 := by kernel_rfl
 g19 := by kernel_rfl }
open Go.RowKit in
theorem Tryz.strconv_Atoi (s : ByteArray) (n : Int) (hl : s.size ≤ 18) (h : Lib.atoi s.data.toList = some n) (w : World) :
  Calls Tryz.prog 40 #[.string s] w fun e w' => e = .returned (.tuple #[.int .i64 n, .nilIface]) ∧ ∃ t, w' = Lib.bytesWorld w 5 t := Any.strconv_Atoi Tryz.lays172 s n hl h w
open Go.Lib in
open Go.Lib in
open Go.Lib in
open Go.Lib in
open Go.RowKit Go.Sort Go.Lib in
def Tryz.laysM246_ren : Go.Shelf.Ren := ⟨fun | 246 => 104 | 283 => 131 | 284 => 132 | 285 => 133 | 286 => 134 | 129 => 146 | 317 => 145 | 318 => 147 | 319 => 148 | 320 => 149 | 337 => 154 | 338 => 155 | n => n, fun | 2 => 2 | 3 => 3 | 9 => 9 | 4 => 4 | 171 => 170 | 0 => 0 | 53 => 165 | 37 => 97 | 5 => 5 | 173 => 173 | 212 => 186 | 51 => 187 | 20 => 20 | 213 => 188 | 46 => 126 | 232 => 200 | 233 => 201 | n => n, fun | 17 => 6 | 18 => 7 | 19 => 8 | n => n⟩
open Go.RowKit Go.Sort Go.Lib in
open Go.RowKit Go.Sort Go.Lib in
def Tryz.laysM243_ren : Go.Shelf.Ren := ⟨fun | 243 => 79 | 246 => 104 | 283 => 131 | 284 => 132 | 285 => 133 | 286 => 134 | 129 => 146 | 317 => 145 | 318 => 147 | 319 => 148 | 320 => 149 | 337 => 154 | 338 => 155 | n => n, fun | 3 => 3 | 9 => 9 | 2 => 2 | 4 => 4 | 171 => 170 | 0 => 0 | 53 => 165 | 37 => 97 | 5 => 5 | 173 => 173 | 212 => 186 | 51 => 187 | 20 => 20 | 213 => 188 | 46 => 126 | 232 => 200 | 233 => 201 | n => n, fun | 17 => 6 | 18 => 7 | 19 => 8 | n => n⟩
open Go.RowKit Go.Sort Go.Lib in
open Go.RowKit Go.Sort Go.Lib in
def Tryz.laysM171_ren : Go.Shelf.Ren := ⟨fun | 171 => 50 | 243 => 79 | 246 => 104 | 283 => 131 | 284 => 132 | 285 => 133 | 286 => 134 | 129 => 146 | 317 => 145 | 318 => 147 | 319 => 148 | 320 => 149 | 337 => 154 | 338 => 155 | n => n, fun | 3 => 3 | 9 => 9 | 2 => 2 | 4 => 4 | 171 => 170 | 0 => 0 | 53 => 165 | 37 => 97 | 5 => 5 | 173 => 173 | 212 => 186 | 51 => 187 | 20 => 20 | 213 => 188 | 46 => 126 | 232 => 200 | 233 => 201 | n => n, fun | 17 => 6 | 18 => 7 | 19 => 8 | n => n⟩
theorem Tryz.laysM171 : Go.Proofs.LaysM.n171 Tryz.prog Tryz.laysM171_ren := {
 mixed := by kernel_rfl
 f129 := Tryz.func146.trans (congrArg some (by kernel_rfl))
 f171 := Tryz.func50.trans (congrArg some (by kernel_rfl))
 f243 := Tryz.func79.trans (congrArg some (by kernel_rfl))
 f246 := Tryz.func104.trans (congrArg some (by kernel_rfl))
 f283 := Tryz.func131.trans (congrArg some (by kernel_rfl))
 f284 := Tryz.func132.trans (congrArg some (by kernel_rfl))
 f285 := Tryz.func133.trans (congrArg some (by kernel_rfl))
 f286 := Tryz.func134.trans (congrArg some (by kernel_rfl))
 f317 := Tryz.func145.trans (congrArg some (by kernel_rfl))
 f318 := Tryz.func147.trans (congrArg some (by kernel_rfl))
 f319 := Tryz.func148.trans (congrArg some (by kernel_rfl))
 f320 := Tryz.func149.trans (congrArg some (by kernel_rfl))
 f337 := Tryz.func154.trans (congrArg some (by kernel_rfl))
 f338 := Tryz.func155.trans (congrArg some (by kernel_rfl))
 t0 := Tryz.underlying0
 a0 := Tryz.isAgg0
 z0 := Tryz.sizeOf0
 v0 := Tryz.zeroValue0
 t2 := Tryz.underlying2
 a2 := Tryz.isAgg2
 z2 := Tryz.sizeOf2
 v2 := Tryz.zeroValue2
 t3 := Tryz.underlying3
 a3 := Tryz.isAgg3
 z3 := Tryz.sizeOf3
 v3 := Tryz.zeroValue3
 t4 := Tryz.underlying4
 a4 := Tryz.isAgg4
 z4 := Tryz.sizeOf4
 v4 := Tryz.zeroValue4
 t5 := Tryz.underlying5
 a5 := Tryz.isAgg5
 z5 := Tryz.sizeOf5
 v5 := Tryz.zeroValue5
 t9 := Tryz.underlying9
 a9 := Tryz.isAgg9
 z9 := Tryz.sizeOf9
 v9 := Tryz.zeroValue9
 t20 := Tryz.underlying20
 a20 := Tryz.isAgg20
 z20 := Tryz.sizeOf20
 v20 := Tryz.zeroValue20
 t37 := Tryz.underlying97
 a37 := Tryz.isAgg97
 z37 := Tryz.sizeOf97
 v37 := Tryz.zeroValue97
 t46 := Tryz.underlying126
 a46 := Tryz.isAgg126
 z46 := Tryz.sizeOf126
 v46 := Tryz.zeroValue126
 t51 := Tryz.underlying187
 a51 := Tryz.isAgg187
 z51 := Tryz.sizeOf187
 v51 := Tryz.zeroValue187
 t53 := Tryz.underlying165
 a53 := Tryz.isAgg165
 z53 := Tryz.sizeOf165
 v53 := Tryz.zeroValue165
 t171 := Tryz.underlying170
 a171 := Tryz.isAgg170
 z171 := Tryz.sizeOf170
 v171 := Tryz.zeroValue170
 t173 := Tryz.underlying173
 a173 := Tryz.isAgg173
 z173 := Tryz.sizeOf173
 v173 := Tryz.zeroValue173
 t212 := Tryz.underlying186
 a212 := Tryz.isAgg186
 z212 := Tryz.sizeOf186
 v212 := Tryz.zeroValue186
 t213 := Tryz.underlying188
 a213 := Tryz.isAgg188
 z213 := Tryz.sizeOf188
 t232 := Tryz.underlying200
 a232 := Tryz.isAgg200
 z232 := Tryz.sizeOf200
 v232 := Tryz.zeroValue200
 t233 := Tryz.underlying201
 a233 := Tryz.isAgg201
 z233 := Tryz.sizeOf201
 v233 := Tryz.zeroValue201
 g17 := by kernel_rfl
 g18 := by kernel_rfl
 g19 := by kernel_rfl
 i0 := by kernel_rfl
 i2 := by kernel_rfl
 i3 := by kernel_rfl
 i4 := by kernel_rfl
 i5 := by kernel_rfl
 i9 := by kernel_rfl
 i20 := by kernel_rfl
 i37 := by kernel_rfl
 i46 := by kernel_rfl
 i51 := by kernel_rfl
 i53 := by kernel_rfl
 i171 := by kernel_rfl
 i173 := by kernel_rfl
 i212 := by kernel_rfl
 i232 := by kernel_rfl
 i233 := by kernel_rfl
 m17 := by kernel_rfl
 m18 := by kernel_rfl
 m19 := by kernel_rfl }
open Go.RowKit Go.Sort Go.Lib in
theorem Tryz.strconv_Itoa (n : Int) (h0 : -9223372036854775808 ≤ n) (h1 : n ≤ 9223372036854775807) (w : World) (htab : Lib.TabIs Tryz.prog w "internal/strconv.uint64pow10" .u64 Lib.pow10Tab) :
  Calls Tryz.prog 50 #[.int .i64 n] w fun e w' => e = .returned (.string ⟨(Lib.itoa n).toArray⟩) ∧ ∃ k os, w' = grow (w.drewN k) os := Any.strconv_Itoa Tryz.laysM171 n h0 h1 w htab
open Go.RowKit Go.Sort Go.Lib in
open Go.RowKit in
open Go.RowKit in
def Tryz.laysM324_ren : Go.Shelf.Ren := ⟨fun | 324 => 130 | n => n, fun | 20 => 20 | 4 => 4 | 75 => 54 | 0 => 0 | 80 => 60 | 9 => 9 | n => n, fun | 14 => 1 | n => n⟩
open Go.RowKit in
open Go.RowKit in
open Go.RowKit in
open Go.RowKit in
open Go.RowKit in
open Go.RowKit in
open Go.RowKit in
open Go.RowKit in
def Tryz.laysM178_ren : Go.Shelf.Ren := ⟨fun | 178 => 46 | 251 => 77 | 252 => 78 | 181 => 101 | 184 => 102 | 290 => 103 | 324 => 130 | n => n, fun | 130 => 130 | 9 => 9 | 3 => 3 | 75 => 54 | 0 => 0 | 93 => 100 | 91 => 98 | 131 => 131 | 4 => 4 | 37 => 97 | 20 => 20 | 80 => 60 | 5 => 5 | n => n, fun | 14 => 1 | n => n⟩
theorem Tryz.laysM178 : Go.Proofs.LaysM.n178 Tryz.prog Tryz.laysM178_ren := {
 mixed := by kernel_rfl
 f178 := Tryz.func46.trans (congrArg some (by kernel_rfl))
 f181 := Tryz.func101.trans (congrArg some (by kernel_rfl))
 f184 := Tryz.func102.trans (congrArg some (by kernel_rfl))
 f251 := Tryz.func77.trans (congrArg some (by kernel_rfl))
 f252 := Tryz.func78.trans (congrArg some (by kernel_rfl))
 f290 := Tryz.func103.trans (congrArg some (by kernel_rfl))
 f324 := Tryz.func130.trans (congrArg some (by kernel_rfl))
 t0 := Tryz.underlying0
 a0 := Tryz.isAgg0
 z0 := Tryz.sizeOf0
 v0 := Tryz.zeroValue0
 t3 := Tryz.underlying3
 a3 := Tryz.isAgg3
 z3 := Tryz.sizeOf3
 v3 := Tryz.zeroValue3
 t4 := Tryz.underlying4
 a4 := Tryz.isAgg4
 z4 := Tryz.sizeOf4
 v4 := Tryz.zeroValue4
 t9 := Tryz.underlying9
 a9 := Tryz.isAgg9
 z9 := Tryz.sizeOf9
 v9 := Tryz.zeroValue9
 t20 := Tryz.underlying20
 a20 := Tryz.isAgg20
 z20 := Tryz.sizeOf20
 v20 := Tryz.zeroValue20
 t37 := Tryz.underlying97
 a37 := Tryz.isAgg97
 z37 := Tryz.sizeOf97
 v37 := Tryz.zeroValue97
 t75 := Tryz.underlying54
 a75 := Tryz.isAgg54
 z75 := Tryz.sizeOf54
 v75 := Tryz.zeroValue54
 t91 := Tryz.underlying98
 a91 := Tryz.isAgg98
 z91 := Tryz.sizeOf98
 v91 := Tryz.zeroValue98
 t93 := Tryz.underlying100
 a93 := Tryz.isAgg100
 z93 := Tryz.sizeOf100
 v93 := Tryz.zeroValue100
 t130 := Tryz.underlying130
 a130 := Tryz.isAgg130
 z130 := Tryz.sizeOf130
 v130 := Tryz.zeroValue130
 t131 := Tryz.underlying131
 a131 := Tryz.isAgg131
 z131 := Tryz.sizeOf131
 v131 := Tryz.zeroValue131
 g14 := by kernel_rfl
 t5 := Tryz.underlying5
 a5 := Tryz.isAgg5
 z5 := Tryz.sizeOf5
 v5 := Tryz.zeroValue5
 t80 := Tryz.underlying60
 a80 := Tryz.isAgg60
 z80 := Tryz.sizeOf60
 v80 := Tryz.zeroValue60
 i0 := by kernel_rfl
 i3 := by kernel_rfl
 i4 := by kernel_rfl
 i5 := by kernel_rfl
 i9 := by kernel_rfl
 i20 := by kernel_rfl
 i37 := by kernel_rfl
 i75 := by kernel_rfl
 i80 := by kernel_rfl
 i91 := by kernel_rfl
 i93 := by kernel_rfl
 i130 := by kernel_rfl
 i131 := by kernel_rfl
 m14 := by kernel_rfl }
open Go.RowKit in
theorem Tryz.Buffer_WriteString (B b : Nat) (bs : List Value) (s : ByteArray) (w : World) (h : Lib.IsBuffer 100 5 B b bs w) (hBw : B ≤ w.heap.size) (h1 : ∀ v ∈ bs, v.oneCell' = true) (hlim : bs.length + s.size ≤ 140737488355328) :
  Calls Tryz.prog 46 #[.pointer (some ⟨b, 0, none⟩), .string s] w fun e w' => e = .returned (.tuple #[.int .i64 s.size, .nilIface]) ∧ Lib.IsBuffer 100 5 B b (bs ++ Lib.byteCells s.data.toList) w' ∧ Below B w w' := Any.Buffer_WriteString Tryz.laysM178 B b bs s w h hBw h1 hlim
def Tryz.laysM182_ren : Go.Shelf.Ren := ⟨fun | 182 => 47 | n => n, fun | 130 => 130 | 9 => 9 | 4 => 4 | 0 => 0 | 93 => 100 | 37 => 97 | 3 => 3 | 91 => 98 | 5 => 5 | n => n, fun | n => n⟩
theorem Tryz.laysM182 : Go.Proofs.LaysM.n182 Tryz.prog Tryz.laysM182_ren := {
 mixed := by kernel_rfl
 f182 := Tryz.func47.trans (congrArg some (by kernel_rfl))
 t0 := Tryz.underlying0
 a0 := Tryz.isAgg0
 z0 := Tryz.sizeOf0
 v0 := Tryz.zeroValue0
 t3 := Tryz.underlying3
 a3 := Tryz.isAgg3
 z3 := Tryz.sizeOf3
 v3 := Tryz.zeroValue3
 t4 := Tryz.underlying4
 a4 := Tryz.isAgg4
 z4 := Tryz.sizeOf4
 v4 := Tryz.zeroValue4
 t9 := Tryz.underlying9
 a9 := Tryz.isAgg9
 z9 := Tryz.sizeOf9
 v9 := Tryz.zeroValue9
 t37 := Tryz.underlying97
 a37 := Tryz.isAgg97
 z37 := Tryz.sizeOf97
 v37 := Tryz.zeroValue97
 t93 := Tryz.underlying100
 a93 := Tryz.isAgg100
 z93 := Tryz.sizeOf100
 v93 := Tryz.zeroValue100
 t130 := Tryz.underlying130
 a130 := Tryz.isAgg130
 z130 := Tryz.sizeOf130
 v130 := Tryz.zeroValue130
 t5 := Tryz.underlying5
 a5 := Tryz.isAgg5
 z5 := Tryz.sizeOf5
 v5 := Tryz.zeroValue5
 t91 := Tryz.underlying98
 a91 := Tryz.isAgg98
 z91 := Tryz.sizeOf98
 v91 := Tryz.zeroValue98
 i0 := by kernel_rfl
 i3 := by kernel_rfl
 i4 := by kernel_rfl
 i5 := by kernel_rfl
 i9 := by kernel_rfl
 i37 := by kernel_rfl
 i91 := by kernel_rfl
 i93 := by kernel_rfl
 i130 := by kernel_rfl }
open Go.RowKit in
theorem Tryz.Buffer_String (B b : Nat) (l : List UInt8) (w : World) (h : Lib.IsBuffer 100 5 B b (Lib.byteCells l) w) :
  Calls Tryz.prog 47 #[.pointer (some ⟨b, 0, none⟩)] w fun e w' => e = .returned (.string ⟨l.toArray⟩) ∧ ∃ n, w' = w.drewN n := Any.Buffer_String Tryz.laysM182 B b l w h
end Go.Proofs
namespace Go.Proofs.YtgogjghfehcpoaaGreatDoorW.PrintWords
open Go.RowKit
def pureOf {α : Type} : Sem α → Option α
 | .pure a => some a
 | _ => none
theorem run_pureOf {α : Type} {P : Program} {s : Sem α} {v : α} (h : pureOf s = some v) (w : World) : s.run P w = .ok v w := by
 cases s <;> simp_all [pureOf, Sem.run]
def math_Max.f (x y : Value) : Option Value := pureOf (Extern.MathDim.pick "math.archMax" false .gt #[x, y])
def math_Min.f (x y : Value) : Option Value := pureOf (Extern.MathDim.pick "math.archMin" true .lt #[x, y])
theorem math_Max.calls (a0 a1 r : Value) (w : World) (h : math_Max.f a0 a1 = some r) : Calls Tryz.prog 83 #[a0, a1] w fun e w' => e = .returned r ∧ Drawn0 w w' := by
 have hrun : ∀ W, (callFunc 105 #[a0, a1]).run Tryz.prog W = .ok (.value r) W := fun W => by
  rw [run_callFunc_extern (fn := Tryz.f105) (e := Extern.MathDim.pick "math.archMax" false .gt) Tryz.func105 (by kernel_rfl) (by kernel_rfl) (by kernel_rfl) (by kernel_rfl), run_pureOf h]
  rfl
 clear h
 go_enter Tryz.func83, Tryz.ntmps83
 go_wp2
 go_ret
 exact ⟨rfl, Drawn0.refl w⟩
theorem math_Min.calls (a0 a1 r : Value) (w : World) (h : math_Min.f a0 a1 = some r) : Calls Tryz.prog 59 #[a0, a1] w fun e w' => e = .returned r ∧ Drawn0 w w' := by
 have hrun : ∀ W, (callFunc 85 #[a0, a1]).run Tryz.prog W = .ok (.value r) W := fun W => by
  rw [run_callFunc_extern (fn := Tryz.f85) (e := Extern.MathDim.pick "math.archMin" true .lt) Tryz.func85 (by kernel_rfl) (by kernel_rfl) (by kernel_rfl) (by kernel_rfl), run_pureOf h]
  rfl
 clear h
 go_enter Tryz.func59, Tryz.ntmps59
 go_wp2
 go_ret
 exact ⟨rfl, Drawn0.refl w⟩
def utf8_RuneCountInString.f (s : ByteArray) : Option Int := if s.size < 9223372036854775807 then some (Lib.runeCount s) else none
theorem utf8_RuneCountInString.calls (a0 : ByteArray) (r : Int) (w : World) (h : utf8_RuneCountInString.f a0 = some r) :
  Calls Tryz.prog 88 #[.string a0] w fun e w' => e = .returned (.int .i64 r) ∧ Below w.heap.size w w' := by
 unfold utf8_RuneCountInString.f at h
 split at h
 ·rename_i hs
  obtain rfl := Option.some.inj h
  refine (Tryz.utf8_RuneCountInString a0 w hs).mono ?_
  rintro e w' ⟨he, pos, rfl⟩
  exact ⟨he, bA_ (Below.refl _ _) _⟩
 ·exact absurd h (by simp)
def strconv_Atoi.f (s : ByteArray) : Option (Int × Option Int) := if s.size ≤ 18 then (Lib.atoi s.data.toList).map fun n => (n, none) else none
theorem strconv_Atoi.calls (a0 : ByteArray) (r1 : Int) (r2 : Option Int) (w : World) (h : strconv_Atoi.f a0 = some (r1, r2)) :
  Calls Tryz.prog 40 #[.string a0] w fun e w' => e = .returned (.tuple #[.int .i64 r1, errW r2]) ∧ Below w.heap.size w w' := by
 unfold strconv_Atoi.f at h
 split at h
 ·rename_i hs
  obtain ⟨n, hn, h2⟩ := Option.map_eq_some_iff.1 h
  simp only [Prod.mk.injEq] at h2
  obtain ⟨rfl, rfl⟩ := h2
  refine (Tryz.strconv_Atoi a0 n hs hn w).mono ?_
  rintro e w' ⟨he, t, rfl⟩
  exact ⟨he, bytes_below (Below.refl _ _) (Nat.le_refl _) 5 t⟩
 ·exact absurd h (by simp)
end Go.Proofs.YtgogjghfehcpoaaGreatDoorW.PrintWords
namespace Go.Proofs.YtgogjghfehcpoaaGreatDoorW.PrintMore
theorem more_ : True := trivial
end Go.Proofs.YtgogjghfehcpoaaGreatDoorW.PrintMore
namespace Go.Proofs.YtgogjghfehcpoaaGreatDoor.QT
open Go.RowKit Go.Proofs.YtgogjghfehcpoaaGreatDoorW.PrintWords Go.Proofs.YtgogjghfehcpoaaGreatDoorW.PrintLast Go.Proofs.YtgogjghfehcpoaaGreatDoorW.PrintMore
abbrev tt : Bool := true
abbrev ff : Bool := false
theorem aS_ {p : Prop} (h : p) : Aside0 p := ⟨h⟩
theorem bindc_ {α β : Type} {a : α} {f : α → Option β} {r : β} (h : (some a).bind f = some r) : ∃ y, y = a ∧ f y = some r := ⟨a, rfl, h⟩
theorem l1_ {α : Type} (l : List α) (i : Nat) (a : α) : l.toArray.setIfInBounds i a = (l.set i a).toArray := List.setIfInBounds_toArray ..
theorem l2_ {α : Type} (x : α) (l : List α) (a : α) : (x :: l).set 0 a = a :: l := rfl
theorem l3_ {α : Type} (x : α) (l : List α) (i : Nat) (a : α) : (x :: l).set (i + 1) a = x :: l.set i a := rfl
theorem yes_ {α : Type} {c : Prop} [Decidable c] {x : Option α} {r : α} (h : (if c then x else none) = some r) : c ∧ x = some r := by
  by_cases hc : c
  · rw [if_pos hc] at h; exact ⟨hc, h⟩
  · rw [if_neg hc] at h; cases h
theorem no_ {α : Type} {c : Prop} [Decidable c] {x : Option α} {r : α} (hc : ¬ c) (h : (if c then x else none) = some r) : False := by
  rw [if_neg hc] at h; cases h
theorem blk2 {w : World} {g t : Nat} {a0 a1 : Value} (h : w.heap[g]? = some (.cells #[a0, a1] t (0, 0))) : w.cell? ⟨g, 0, none⟩ = some a0 ∧ w.cell? ⟨g, 1, none⟩ = some a1 ∧ w.frozen? ⟨g, 0, none⟩ = false ∧ w.frozen? ⟨g, 1, none⟩ = false := ⟨(bc_ h 0).trans rfl, (bc_ h 1).trans rfl, bf_ h 0, bf_ h 1⟩
theorem blk3 {w : World} {g t : Nat} {a0 a1 a2 : Value} (h : w.heap[g]? = some (.cells #[a0, a1, a2] t (0, 0))) : w.cell? ⟨g, 0, none⟩ = some a0 ∧ w.cell? ⟨g, 1, none⟩ = some a1 ∧ w.cell? ⟨g, 2, none⟩ = some a2 ∧ w.frozen? ⟨g, 0, none⟩ = false ∧ w.frozen? ⟨g, 1, none⟩ = false ∧ w.frozen? ⟨g, 2, none⟩ = false := ⟨(bc_ h 0).trans rfl, (bc_ h 1).trans rfl, (bc_ h 2).trans rfl, bf_ h 0, bf_ h 1, bf_ h 2⟩
theorem blk4 {w : World} {g t : Nat} {a0 a1 a2 a3 : Value} (h : w.heap[g]? = some (.cells #[a0, a1, a2, a3] t (0, 0))) : w.cell? ⟨g, 0, none⟩ = some a0 ∧ w.cell? ⟨g, 1, none⟩ = some a1 ∧ w.cell? ⟨g, 2, none⟩ = some a2 ∧ w.cell? ⟨g, 3, none⟩ = some a3 ∧ w.frozen? ⟨g, 0, none⟩ = false ∧ w.frozen? ⟨g, 1, none⟩ = false ∧ w.frozen? ⟨g, 2, none⟩ = false ∧ w.frozen? ⟨g, 3, none⟩ = false := ⟨(bc_ h 0).trans rfl, (bc_ h 1).trans rfl, (bc_ h 2).trans rfl, (bc_ h 3).trans rfl, bf_ h 0, bf_ h 1, bf_ h 2, bf_ h 3⟩
theorem blk5 {w : World} {g t : Nat} {a0 a1 a2 a3 a4 : Value} (h : w.heap[g]? = some (.cells #[a0, a1, a2, a3, a4] t (0, 0))) : w.cell? ⟨g, 0, none⟩ = some a0 ∧ w.cell? ⟨g, 1, none⟩ = some a1 ∧ w.cell? ⟨g, 2, none⟩ = some a2 ∧ w.cell? ⟨g, 3, none⟩ = some a3 ∧ w.cell? ⟨g, 4, none⟩ = some a4 ∧ w.frozen? ⟨g, 0, none⟩ = false ∧ w.frozen? ⟨g, 1, none⟩ = false ∧ w.frozen? ⟨g, 2, none⟩ = false ∧ w.frozen? ⟨g, 3, none⟩ = false ∧ w.frozen? ⟨g, 4, none⟩ = false := ⟨(bc_ h 0).trans rfl, (bc_ h 1).trans rfl, (bc_ h 2).trans rfl, (bc_ h 3).trans rfl, (bc_ h 4).trans rfl, bf_ h 0, bf_ h 1, bf_ h 2, bf_ h 3, bf_ h 4⟩
theorem blk6 {w : World} {g t : Nat} {a0 a1 a2 a3 a4 a5 : Value} (h : w.heap[g]? = some (.cells #[a0, a1, a2, a3, a4, a5] t (0, 0))) : w.cell? ⟨g, 0, none⟩ = some a0 ∧ w.cell? ⟨g, 1, none⟩ = some a1 ∧ w.cell? ⟨g, 2, none⟩ = some a2 ∧ w.cell? ⟨g, 3, none⟩ = some a3 ∧ w.cell? ⟨g, 4, none⟩ = some a4 ∧ w.cell? ⟨g, 5, none⟩ = some a5 ∧ w.frozen? ⟨g, 0, none⟩ = false ∧ w.frozen? ⟨g, 1, none⟩ = false ∧ w.frozen? ⟨g, 2, none⟩ = false ∧ w.frozen? ⟨g, 3, none⟩ = false ∧ w.frozen? ⟨g, 4, none⟩ = false ∧ w.frozen? ⟨g, 5, none⟩ = false := ⟨(bc_ h 0).trans rfl, (bc_ h 1).trans rfl, (bc_ h 2).trans rfl, (bc_ h 3).trans rfl, (bc_ h 4).trans rfl, (bc_ h 5).trans rfl, bf_ h 0, bf_ h 1, bf_ h 2, bf_ h 3, bf_ h 4, bf_ h 5⟩
inductive StepsP : World → World → Prop where
  | refl (w : World) : StepsP w w
  | alloc {a b : World} (o : Obj) : StepsP a b → StepsP a (b.alloc o)
  | drewN {a b : World} (n : Nat) : StepsP a b → StepsP a (b.drewN n)
  | drew {a b : World} : StepsP a b → StepsP a b.drew
instance (w : World) : Nonempty (StepsP w w) := ⟨.refl w⟩
instance (a b : World) (o : Obj) [s : Nonempty (StepsP a b)] : Nonempty (StepsP a (b.alloc o)) := s.elim fun s => ⟨.alloc o s⟩
instance (a b : World) (n : Nat) [s : Nonempty (StepsP a b)] : Nonempty (StepsP a (b.drewN n)) := s.elim fun s => ⟨.drewN n s⟩
instance (a b : World) [s : Nonempty (StepsP a b)] : Nonempty (StepsP a b.drew) := s.elim fun s => ⟨.drew s⟩
theorem bel_ {w a b : World} (h : Below w.heap.size w a) [s : Nonempty (StepsP a b)] : Below w.heap.size w b := by
  obtain ⟨t⟩ := s
  induction t with
  | refl => exact h
  | alloc o _ ih => exact bA_ ih o
  | drewN n _ ih => exact bN_ ih n
  | drew _ ih => exact bD_ ih
theorem Kd.R_st {α : Type} {d : Kd α} {e base : Nat} {ok : Nat → Prop} {v : Value} {xs : List α} {a b : World} (h : d.R e a base ok v xs) [s : Nonempty (StepsP a b)] : d.R e b base ok v xs := by
  obtain ⟨t⟩ := s
  induction t with
  | refl => exact h
  | alloc o _ ih => exact Kd.R_alloc ih o
  | drewN n _ ih => exact Kd.R_drewN ih n
  | drew _ ih => exact Kd.R_drew ih
theorem Kd.S_st {α : Type} {d : Kd α} {e base : Nat} {ok : Nat → Prop} {v : Value} {xs : List α} {a b : World} (h : d.S e a base ok v xs) [s : Nonempty (StepsP a b)] : d.S e b base ok v xs := by
  obtain ⟨t⟩ := s
  induction t with
  | refl => exact h
  | alloc o _ ih => exact Kd.S_alloc ih o
  | drewN n _ ih => exact Kd.S_drewN ih n
  | drew _ ih => exact Kd.S_drew ih
theorem Kd.C_st {α : Type} {d : Kd α} {A : Option Addr} {n : Nat} {xs : List α} {a b : World} (h : d.C a A n xs) [s : Nonempty (StepsP a b)] : d.C b A n xs := by
  obtain ⟨t⟩ := s
  induction t with
  | refl => exact h
  | alloc o _ ih => exact Kd.C_alloc ih o
  | drewN n _ ih => exact Kd.C_drewN ih n
  | drew _ ih => exact Kd.C_drew ih
theorem blk_st {g : Nat} {o : Obj} {a b : World} (h : a.heap[g]? = some o) [s : Nonempty (StepsP a b)] : b.heap[g]? = some o := by
  obtain ⟨t⟩ := s
  induction t with
  | refl => exact h
  | alloc p _ ih => exact kA_ ih p
  | drewN n _ ih => exact kN_ ih n
  | drew _ ih => exact kD_ ih
section
variable {P : Program} {ops : Array Oper} {Q : Exit → Act → World → Prop} {md : Region.Mode} {S : World → Prop} {ds : List Nat} {T : Bool × List (List Nat × List Nat)} {B : List Nat}
theorem pA_ {v : Value} {fuel : Nat} {l : Array Bool} {a a' : Act} {w : World} (i : Nat) {N : Nat} {oi : Oper} (hi : ops[i]? = some oi := by exact rfl) (hN : oi.dst = some N := by exact rfl) (hT : Aside0 (rtab md ops = T) := by assumption) (hc : anyT T l.toList (l.setIfInBounds i true).toList i = true := by kernel_rfl) (hQ : ∀ c a w, Q (.panic c) (a.put oi.dst v) w → Q (.panic c) a w := by exact fun _ _ _ h => h) (hy : Yields P ops oi v a := by exact Or.inl ⟨by rfl, by intro w'; go_simp; with_reducible rfl⟩) (ha : a.put (some N) v = a' := by simp only [Act.put, l1_, l2_, l3_, i64_w]; rfl)
    (h : wpAnyLast P md ops Q S ds fuel (l.setIfInBounds i true) a' w) : wpAnyLast P md ops Q S ds (fuel + 1) l a w := pure_ _ hi hN (any_of hT.out hc) hQ hy ha h
theorem tA_ {v : Value} {fuel : Nat} {l : Array Bool} {a a' : Act} {w : World} (i : Nat) {N : Nat} {oi : Oper} (hi : ops[i]? = some oi := by exact rfl) (hN : oi.dst = some N := by exact rfl) (hT : Aside0 (rtab md ops = T) := by assumption) (hW : Aside0 (waitsOk T.2 B = true) := by assumption) (hc : takeW T B ds l.toList (l.setIfInBounds i true).toList i = true := by kernel_rfl) (hQ : ∀ c a w, Q (.panic c) (a.put oi.dst v) w → Q (.panic c) a w := by exact fun _ _ _ h => h) (hy : YieldsIf P ops S oi v a := by exact Or.inl ⟨by rfl, by intro w' s_; go_simp; with_reducible rfl⟩) (hS : S w := by assumption) (ha : a.put (some N) v = a' := by simp only [Act.put, l1_, l2_, l3_, i64_w]; rfl)
    (h : wpAnyLast P md ops Q S ds fuel (l.setIfInBounds i true) a' w) : wpAnyLast P md ops Q S ds (fuel + 1) l a w := take_ _ hi hN (take_ofW hT.out hW.out hc) hQ hy hS ha h
theorem oA_ {fuel : Nat} {l : Array Bool} {a : Act} {w : World} (i : Nat) (N : Option Tmp) {oi : Oper} (hi : ops[i]? = some oi := by exact rfl) (hN : oi.dst = N := by exact rfl) (hT : Aside0 (rtab md ops = T) := by assumption) (hc : (readyT T.2 l.toList == [i] && l.toList.set i true == (l.setIfInBounds i true).toList) = true := by kernel_rfl) (hd : i ∉ ds := by decide)
    (h : ∀ K : Act → World → Prop, Shut (∀ a' w', S w' → (S w' → wpAnyLast P md ops Q S ds fuel (l.setIfInBounds i true) a' w') → K a' w') → if Region.wanted oi (yielded ops a.tmps) = true then Oper.wp P oi a w K Q else K (a.put N undef) w) :
    wpAnyLast P md ops Q S ds (fuel + 1) l a w := one_ _ hi hN (one_of hT.out hc) hd h
theorem lA_ {fuel : Nat} {l : Array Bool} {a : Act} {w : World} (i : Nat) (N : Option Tmp) {oi : Oper} (hi : ops[i]? = some oi := by exact rfl) (hN : oi.dst = N := by exact rfl) (hT : Aside0 (rtab md ops = T) := by assumption) (hc : (readyT T.2 l.toList == [i] && l.toList.set i true == (l.setIfInBounds i true).toList) = true := by kernel_rfl) (hd : i ∈ ds := by decide)
    (h : ∀ K : Act → World → Prop, Shut (∀ a' w', wpAnyLast P md ops Q S ds fuel (l.setIfInBounds i true) a' w' → K a' w') → if Region.wanted oi (yielded ops a.tmps) = true then Oper.wp P oi a w K Q else K (a.put N undef) w) :
    wpAnyLast P md ops Q S ds (fuel + 1) l a w := last_ _ hi hN (one_of hT.out hc) hd h
theorem wA_ {fuel : Nat} {l : Array Bool} {a : Act} {w : World} (i j : Nat) (Ni Nj : Option Tmp) {oi oj : Oper} (hi : ops[i]? = some oi := by exact rfl) (hj : ops[j]? = some oj := by exact rfl) (hNi : oi.dst = Ni := by exact rfl) (hNj : oj.dst = Nj := by exact rfl) (hT : Aside0 (rtab md ops = T) := by assumption) (hc : (readyT T.2 l.toList == [i, j] && l.toList.set i true == (l.setIfInBounds i true).toList && l.toList.set j true == (l.setIfInBounds j true).toList) = true := by kernel_rfl) (hdi : i ∉ ds := by decide) (hdj : j ∉ ds := by decide)
    (h1 : ∀ K : Act → World → Prop, Shut (∀ a' w', S w' → (S w' → wpAnyLast P md ops Q S ds fuel (l.setIfInBounds i true) a' w') → K a' w') → if Region.wanted oi (yielded ops a.tmps) = true then Oper.wp P oi a w K Q else K (a.put Ni undef) w)
    (h2 : ∀ K : Act → World → Prop, Shut (∀ a' w', S w' → (S w' → wpAnyLast P md ops Q S ds fuel (l.setIfInBounds j true) a' w') → K a' w') → if Region.wanted oj (yielded ops a.tmps) = true then Oper.wp P oj a w K Q else K (a.put Nj undef) w) : wpAnyLast P md ops Q S ds (fuel + 1) l a w := two_ _ _ hi hj hNi hNj (two_of hT.out hc) hdi hdj h1 h2
theorem gA_ {oi : Oper} {N : Option Tmp} {a : Act} {w : World} {K : Act → World → Prop} {f : FuncId} {fn : Func} {as_ : Array Operand} {ts : Array TypeId} (hf : P.funcs[f]? = some fn) (args : Array Value)
    (h : Calls P f args w fun e w' => ∃ v, e = .returned v ∧ K (a.put N v) w') (hname : (fn.name == "runtime.NumGoroutine") = false := by kernel_rfl) (hb : fn.body.isSome = true := by exact rfl)
    (hw : Region.wanted oi (yielded ops a.tmps) = true := by rfl) (hN : oi.dst = N := by exact rfl) (hop : oi.op = .call { callee := .value (.func f), args := as_, argTypes := ts } := by exact rfl) (hargs : as_.map a.eval = args := by (try simp only [List.map_toArray, List.map_cons, List.map_nil]); first | done | rfl) : if Region.wanted oi (yielded ops a.tmps) = true then Oper.wp P oi a w K Q else K (a.put N undef) w := goes_ hf hname hb args hw hN hop hargs h
theorem dA_ {l : Array Bool} {a : Act} {w : World} {n : Nat} (hT : Aside0 (rtab md ops = T) := by assumption) (hr : (readyT T.2 l.toList == []) = true := by kernel_rfl) (h : Q .normal a w) : wpAnyLast P md ops Q S ds n l a w := done_ (done_of hT.out hr) h
theorem sA_ {id : Nat} {a : Act} {w : World} (S : World → Prop) (ds : List Nat) (hT : rtab .any ops = T) (hB : waitsOk T.2 B = true) (hS : S w.drew) (h : S w.drew → Aside0 (rtab .any ops = T) → Aside0 (waitsOk T.2 B = true) → wpAnyLast P .any ops Q S ds ops.size (Array.replicate ops.size false) a w.drew) (hm : P.follows .mixedOrders = true := by kernel_rfl) : (Code.region id ops true).wp P Q a w := start_ _ hm rfl rfl hS fun s => h s ⟨hT⟩ ⟨hB⟩
theorem nA_ {fuel : Nat} {l : Array Bool} {a a' : Act} {w : World} (ha : a = a' := by (try show Act.put _ (some _) _ = _); simp only [putAll, Act.put, l1_, l2_, l3_, i64_w]; rfl) (h : wpAnyLast P md ops Q S ds fuel l a' w) : wpAnyLast P md ops Q S ds fuel l a w := norm_ ha h
end
end Go.Proofs.YtgogjghfehcpoaaGreatDoor.QT
namespace Go.Proofs.YtgogjghfehcpoaaGreatDoor.QT
open Go.RowKit Go.Proofs.YtgogjghfehcpoaaGreatDoorW.PrintWords Go.Proofs.YtgogjghfehcpoaaGreatDoorW.PrintLast Go.Proofs.YtgogjghfehcpoaaGreatDoorW.PrintMore
set_option linter.unusedVariables false
set_option linter.unusedSimpArgs false
theorem info3 : (Tryz.prog.info? 3).map (fun i => (i.zero, i.size, i.bytes)) = some (some (.int .i64 0), 1, 8) := by kernel_rfl
theorem info4 : (Tryz.prog.info? 4).map (fun i => (i.zero, i.size, i.bytes)) = some (some (.bool false), 1, 1) := by kernel_rfl
theorem info5 : (Tryz.prog.info? 5).map (fun i => (i.zero, i.size, i.bytes)) = some (some (.int .u8 0), 1, 1) := by kernel_rfl
theorem info9 : (Tryz.prog.info? 9).map (fun i => (i.zero, i.size, i.bytes)) = some (some (.string ⟨#[]⟩), 1, 16) := by kernel_rfl
theorem info21 : (Tryz.prog.info? 21).map (fun i => (i.zero, i.size, i.bytes)) = some (some (.int .i32 0), 1, 4) := by kernel_rfl
theorem info42 : (Tryz.prog.info? 42).map (fun i => (i.zero, i.size, i.bytes)) = some (some (.agg #[(.int .i64 0), (.int .i64 0), (.int .i64 0), (.int .i64 0), (.slice none 0 0)]), 5, 56) := by kernel_rfl
theorem info67 : (Tryz.prog.info? 67).map (fun i => (i.zero, i.size, i.bytes)) = some (some (.agg #[(.slice none 0 0), (.int .i64 0), (.int .i64 0), (.int .i64 0), (.int .i64 0)]), 5, 56) := by kernel_rfl
theorem info70 : (Tryz.prog.info? 70).map (fun i => (i.zero, i.size, i.bytes)) = some (some (.agg #[(.int .i64 0), (.string ⟨#[]⟩)]), 2, 24) := by kernel_rfl
theorem info75 : (Tryz.prog.info? 75).map (fun i => (i.zero, i.size, i.bytes)) = some (some (.agg #[(.int .i64 0), (.string ⟨#[]⟩)]), 2, 24) := by kernel_rfl
theorem info93 : (Tryz.prog.info? 93).map (fun i => (i.zero, i.size, i.bytes)) = some (some (.agg #[(.int .i8 0), (.string ⟨#[]⟩)]), 2, 24) := by kernel_rfl
structure S70 where
 f0 : Int
 f1 : ByteArray
def z70 : S70 := ⟨(0 : Int), (⟨#[]⟩ : ByteArray)⟩
def k70 : Kd S70 := Kd.iso (Kd.pair (Kd.int .i64) Kd.string) (fun x : S70 => (x.f0, x.f1))
theorem k70_open {w : World} {x : S70} {cs : List Value} (h : k70.K w x cs) : cs = [.int .i64 x.f0, .string x.f1] := by
 obtain ⟨_, _, rfl, rfl, rfl⟩ := h
 exact rfl
theorem k70_mk (w : World) (x : S70)  : k70.K w x [.int .i64 x.f0, .string x.f1] := ⟨[.int .i64 x.f0], [.string x.f1], rfl, rfl, rfl⟩
theorem k70_mkM (w : World) (base : Nat) (ok : Nat → Prop) (x : S70)  : k70.M w base ok x [.int .i64 x.f0, .string x.f1] := ⟨[.int .i64 x.f0], [.string x.f1], rfl, rfl, rfl⟩
def rd_T70 (xs : List S70) (i : Int) : S70 := xs.getD i.toNat z70
theorem at_T70 {w : World} {A : Option Addr} {n : Nat} {xs : List S70} (h : Kd.C k70 w A n xs) (i : Int) (h0 : 0 ≤ i) (h1 : i < n) : ∃ ad , A = some ad ∧ w.cell? (ad.add (i.toNat * 2)) = some (.int .i64 (rd_T70 xs i).f0) ∧ w.cell? ⟨(ad.add (i.toNat * 2)).block, (ad.add (i.toNat * 2)).off + 1, none⟩ = some (.string (rd_T70 xs i).f1) := by
 obtain ⟨ad, c, e, _, hK, hc0⟩ := Kd.C_get h z70 i h0 h1
 have hc : ∀ j u, c[j]? = some u → w.cell? (ad.add (i.toNat * 2 + j)) = some u := hc0
 obtain rfl := k70_open hK
 exact ⟨ad, e, hc 0 _ rfl, by rw [← add_field _ _ 1 (by omega)]; exact hc 1 _ rfl⟩
structure S33 where
 f0 : Int
 f1 : Int
 f2 : Int
 f3 : Int
 f4 : (List S70)
def z33 : S33 := ⟨(0 : Int), (0 : Int), (0 : Int), (0 : Int), ([] : List S70)⟩
def k33 : Kd S33 := Kd.iso (Kd.pair (Kd.int .i64) (Kd.pair (Kd.int .i64) (Kd.pair (Kd.int .i64) (Kd.pair (Kd.int .i64) (Kd.slice 70 k70))))) (fun x : S33 => (x.f0, x.f1, x.f2, x.f3, x.f4))
theorem k33_open {w : World} {x : S33} {cs : List Value} (h : k33.K w x cs) : ∃ A4 c4, cs = [.int .i64 x.f0, .int .i64 x.f1, .int .i64 x.f2, .int .i64 x.f3, .slice A4 x.f4.length c4] ∧ x.f4.length ≤ c4 ∧ k70.C w A4 x.f4.length x.f4 := by
 obtain ⟨_, _, rfl, rfl, ⟨_, _, rfl, rfl, ⟨_, _, rfl, rfl, ⟨_, _, rfl, rfl, ⟨A4, c4, rfl, l4, g4⟩⟩⟩⟩⟩ := h
 exact ⟨A4, c4, rfl, l4, g4⟩
theorem k33_mk (w : World) (x : S33) {A4 : Option Addr} {c4 : Nat} (l4 : x.f4.length ≤ c4) (g4 : k70.C w A4 x.f4.length x.f4) : k33.K w x [.int .i64 x.f0, .int .i64 x.f1, .int .i64 x.f2, .int .i64 x.f3, .slice A4 x.f4.length c4] := ⟨[.int .i64 x.f0], [.int .i64 x.f1, .int .i64 x.f2, .int .i64 x.f3, .slice A4 x.f4.length c4], rfl, rfl, ⟨[.int .i64 x.f1], [.int .i64 x.f2, .int .i64 x.f3, .slice A4 x.f4.length c4], rfl, rfl, ⟨[.int .i64 x.f2], [.int .i64 x.f3, .slice A4 x.f4.length c4], rfl, rfl, ⟨[.int .i64 x.f3], [.slice A4 x.f4.length c4], rfl, rfl, ⟨A4, c4, rfl, l4, g4⟩⟩⟩⟩⟩
theorem k33_mkM (w : World) (base : Nat) (ok : Nat → Prop) (x : S33) {v4 : Value} (g4 : k70.R 70 w base ok v4 x.f4) : k33.M w base ok x [.int .i64 x.f0, .int .i64 x.f1, .int .i64 x.f2, .int .i64 x.f3, v4] := ⟨[.int .i64 x.f0], [.int .i64 x.f1, .int .i64 x.f2, .int .i64 x.f3, v4], rfl, rfl, ⟨[.int .i64 x.f1], [.int .i64 x.f2, .int .i64 x.f3, v4], rfl, rfl, ⟨[.int .i64 x.f2], [.int .i64 x.f3, v4], rfl, rfl, ⟨[.int .i64 x.f3], [v4], rfl, rfl, ⟨v4, rfl, g4⟩⟩⟩⟩⟩
def rd_T33 (xs : List S33) (i : Int) : S33 := xs.getD i.toNat z33
theorem at_T33 {w : World} {A : Option Addr} {n : Nat} {xs : List S33} (h : Kd.C k33 w A n xs) (i : Int) (h0 : 0 ≤ i) (h1 : i < n) : ∃ ad A4 c4, A = some ad ∧ w.cell? (ad.add (i.toNat * 5)) = some (.int .i64 (rd_T33 xs i).f0) ∧ w.cell? ⟨(ad.add (i.toNat * 5)).block, (ad.add (i.toNat * 5)).off + 1, none⟩ = some (.int .i64 (rd_T33 xs i).f1) ∧ w.cell? ⟨(ad.add (i.toNat * 5)).block, (ad.add (i.toNat * 5)).off + 2, none⟩ = some (.int .i64 (rd_T33 xs i).f2) ∧ w.cell? ⟨(ad.add (i.toNat * 5)).block, (ad.add (i.toNat * 5)).off + 3, none⟩ = some (.int .i64 (rd_T33 xs i).f3) ∧ w.cell? ⟨(ad.add (i.toNat * 5)).block, (ad.add (i.toNat * 5)).off + 4, none⟩ = some (.slice A4 (rd_T33 xs i).f4.length c4) ∧ (rd_T33 xs i).f4.length ≤ c4 ∧ k70.C w A4 (rd_T33 xs i).f4.length (rd_T33 xs i).f4 := by
 obtain ⟨ad, c, e, _, hK, hc0⟩ := Kd.C_get h z33 i h0 h1
 have hc : ∀ j u, c[j]? = some u → w.cell? (ad.add (i.toNat * 5 + j)) = some u := hc0
 obtain ⟨A4, c4, rfl, l4, g4⟩ := k33_open hK
 exact ⟨ad, A4, c4, e, hc 0 _ rfl, by rw [← add_field _ _ 1 (by omega)]; exact hc 1 _ rfl, by rw [← add_field _ _ 2 (by omega)]; exact hc 2 _ rfl, by rw [← add_field _ _ 3 (by omega)]; exact hc 3 _ rfl, by rw [← add_field _ _ 4 (by omega)]; exact hc 4 _ rfl, l4, g4⟩
structure S75 where
 f0 : Int
 f1 : ByteArray
def z75 : S75 := ⟨(0 : Int), (⟨#[]⟩ : ByteArray)⟩
def k75 : Kd S75 := Kd.iso (Kd.pair (Kd.int .i64) Kd.string) (fun x : S75 => (x.f0, x.f1))
theorem k75_open {w : World} {x : S75} {cs : List Value} (h : k75.K w x cs) : cs = [.int .i64 x.f0, .string x.f1] := by
 obtain ⟨_, _, rfl, rfl, rfl⟩ := h
 exact rfl
theorem k75_mkM (w : World) (base : Nat) (ok : Nat → Prop) (x : S75)  : k75.M w base ok x [.int .i64 x.f0, .string x.f1] := ⟨[.int .i64 x.f0], [.string x.f1], rfl, rfl, rfl⟩
def rd_T75 (xs : List S75) (i : Int) : S75 := xs.getD i.toNat z75
theorem at_T75 {w : World} {A : Option Addr} {n : Nat} {xs : List S75} (h : Kd.C k75 w A n xs) (i : Int) (h0 : 0 ≤ i) (h1 : i < n) : ∃ ad , A = some ad ∧ w.cell? (ad.add (i.toNat * 2)) = some (.int .i64 (rd_T75 xs i).f0) ∧ w.cell? ⟨(ad.add (i.toNat * 2)).block, (ad.add (i.toNat * 2)).off + 1, none⟩ = some (.string (rd_T75 xs i).f1) := by
 obtain ⟨ad, c, e, _, hK, hc0⟩ := Kd.C_get h z75 i h0 h1
 have hc : ∀ j u, c[j]? = some u → w.cell? (ad.add (i.toNat * 2 + j)) = some u := hc0
 obtain rfl := k75_open hK
 exact ⟨ad, e, hc 0 _ rfl, by rw [← add_field _ _ 1 (by omega)]; exact hc 1 _ rfl⟩
structure S42 where
 f0 : Int
 f1 : Int
 f2 : Int
 f3 : Int
 f4 : (List S75)
def z42 : S42 := ⟨(0 : Int), (0 : Int), (0 : Int), (0 : Int), ([] : List S75)⟩
def k42 : Kd S42 := Kd.iso (Kd.pair (Kd.int .i64) (Kd.pair (Kd.int .i64) (Kd.pair (Kd.int .i64) (Kd.pair (Kd.int .i64) (Kd.slice 75 k75))))) (fun x : S42 => (x.f0, x.f1, x.f2, x.f3, x.f4))
theorem k42_open {w : World} {x : S42} {cs : List Value} (h : k42.K w x cs) : ∃ A4 c4, cs = [.int .i64 x.f0, .int .i64 x.f1, .int .i64 x.f2, .int .i64 x.f3, .slice A4 x.f4.length c4] ∧ x.f4.length ≤ c4 ∧ k75.C w A4 x.f4.length x.f4 := by
 obtain ⟨_, _, rfl, rfl, ⟨_, _, rfl, rfl, ⟨_, _, rfl, rfl, ⟨_, _, rfl, rfl, ⟨A4, c4, rfl, l4, g4⟩⟩⟩⟩⟩ := h
 exact ⟨A4, c4, rfl, l4, g4⟩
theorem k42_openM {w : World} {base : Nat} {ok : Nat → Prop} {x : S42} {cs : List Value} (h : k42.M w base ok x cs) : ∃ v4, cs = [.int .i64 x.f0, .int .i64 x.f1, .int .i64 x.f2, .int .i64 x.f3, v4] ∧ k75.R 75 w base ok v4 x.f4 := by
 obtain ⟨_, _, rfl, rfl, ⟨_, _, rfl, rfl, ⟨_, _, rfl, rfl, ⟨_, _, rfl, rfl, ⟨v4, rfl, g4⟩⟩⟩⟩⟩ := h
 exact ⟨v4, rfl, g4⟩
theorem k42_mkM (w : World) (base : Nat) (ok : Nat → Prop) (x : S42) {v4 : Value} (g4 : k75.R 75 w base ok v4 x.f4) : k42.M w base ok x [.int .i64 x.f0, .int .i64 x.f1, .int .i64 x.f2, .int .i64 x.f3, v4] := ⟨[.int .i64 x.f0], [.int .i64 x.f1, .int .i64 x.f2, .int .i64 x.f3, v4], rfl, rfl, ⟨[.int .i64 x.f1], [.int .i64 x.f2, .int .i64 x.f3, v4], rfl, rfl, ⟨[.int .i64 x.f2], [.int .i64 x.f3, v4], rfl, rfl, ⟨[.int .i64 x.f3], [v4], rfl, rfl, ⟨v4, rfl, g4⟩⟩⟩⟩⟩
def rd_T42 (xs : List S42) (i : Int) : S42 := xs.getD i.toNat z42
theorem at_T42 {w : World} {A : Option Addr} {n : Nat} {xs : List S42} (h : Kd.C k42 w A n xs) (i : Int) (h0 : 0 ≤ i) (h1 : i < n) : ∃ ad A4 c4, A = some ad ∧ w.cell? (ad.add (i.toNat * 5)) = some (.int .i64 (rd_T42 xs i).f0) ∧ w.cell? ⟨(ad.add (i.toNat * 5)).block, (ad.add (i.toNat * 5)).off + 1, none⟩ = some (.int .i64 (rd_T42 xs i).f1) ∧ w.cell? ⟨(ad.add (i.toNat * 5)).block, (ad.add (i.toNat * 5)).off + 2, none⟩ = some (.int .i64 (rd_T42 xs i).f2) ∧ w.cell? ⟨(ad.add (i.toNat * 5)).block, (ad.add (i.toNat * 5)).off + 3, none⟩ = some (.int .i64 (rd_T42 xs i).f3) ∧ w.cell? ⟨(ad.add (i.toNat * 5)).block, (ad.add (i.toNat * 5)).off + 4, none⟩ = some (.slice A4 (rd_T42 xs i).f4.length c4) ∧ (rd_T42 xs i).f4.length ≤ c4 ∧ k75.C w A4 (rd_T42 xs i).f4.length (rd_T42 xs i).f4 := by
 obtain ⟨ad, c, e, _, hK, hc0⟩ := Kd.C_get h z42 i h0 h1
 have hc : ∀ j u, c[j]? = some u → w.cell? (ad.add (i.toNat * 5 + j)) = some u := hc0
 obtain ⟨A4, c4, rfl, l4, g4⟩ := k42_open hK
 exact ⟨ad, A4, c4, e, hc 0 _ rfl, by rw [← add_field _ _ 1 (by omega)]; exact hc 1 _ rfl, by rw [← add_field _ _ 2 (by omega)]; exact hc 2 _ rfl, by rw [← add_field _ _ 3 (by omega)]; exact hc 3 _ rfl, by rw [← add_field _ _ 4 (by omega)]; exact hc 4 _ rfl, l4, g4⟩
structure S93 where
 f0 : Int
 f1 : ByteArray
def z93 : S93 := ⟨(0 : Int), (⟨#[]⟩ : ByteArray)⟩
def k93 : Kd S93 := Kd.iso (Kd.pair (Kd.int .i8) Kd.string) (fun x : S93 => (x.f0, x.f1))
theorem k93_open {w : World} {x : S93} {cs : List Value} (h : k93.K w x cs) : cs = [.int .i8 x.f0, .string x.f1] := by
 obtain ⟨_, _, rfl, rfl, rfl⟩ := h
 exact rfl
theorem k93_openM {w : World} {base : Nat} {ok : Nat → Prop} {x : S93} {cs : List Value} (h : k93.M w base ok x cs) : cs = [.int .i8 x.f0, .string x.f1] := by
 obtain ⟨_, _, rfl, rfl, rfl⟩ := h
 exact rfl
theorem k93_mkM (w : World) (base : Nat) (ok : Nat → Prop) (x : S93)  : k93.M w base ok x [.int .i8 x.f0, .string x.f1] := ⟨[.int .i8 x.f0], [.string x.f1], rfl, rfl, rfl⟩
def rd_T93 (xs : List S93) (i : Int) : S93 := xs.getD i.toNat z93
theorem at_T93 {w : World} {A : Option Addr} {n : Nat} {xs : List S93} (h : Kd.C k93 w A n xs) (i : Int) (h0 : 0 ≤ i) (h1 : i < n) : ∃ ad , A = some ad ∧ w.cell? (ad.add (i.toNat * 2)) = some (.int .i8 (rd_T93 xs i).f0) ∧ w.cell? ⟨(ad.add (i.toNat * 2)).block, (ad.add (i.toNat * 2)).off + 1, none⟩ = some (.string (rd_T93 xs i).f1) := by
 obtain ⟨ad, c, e, _, hK, hc0⟩ := Kd.C_get h z93 i h0 h1
 have hc : ∀ j u, c[j]? = some u → w.cell? (ad.add (i.toNat * 2 + j)) = some u := hc0
 obtain rfl := k93_open hK
 exact ⟨ad, e, hc 0 _ rfl, by rw [← add_field _ _ 1 (by omega)]; exact hc 1 _ rfl⟩
structure S67 where
 f0 : (List S93)
 f1 : Int
 f2 : Int
 f3 : Int
 f4 : Int
def z67 : S67 := ⟨([] : List S93), (0 : Int), (0 : Int), (0 : Int), (0 : Int)⟩
def k67 : Kd S67 := Kd.iso (Kd.pair (Kd.slice 93 k93) (Kd.pair (Kd.int .i64) (Kd.pair (Kd.int .i64) (Kd.pair (Kd.int .i64) (Kd.int .i64))))) (fun x : S67 => (x.f0, x.f1, x.f2, x.f3, x.f4))
theorem k67_open {w : World} {x : S67} {cs : List Value} (h : k67.K w x cs) : ∃ A0 c0, cs = [.slice A0 x.f0.length c0, .int .i64 x.f1, .int .i64 x.f2, .int .i64 x.f3, .int .i64 x.f4] ∧ x.f0.length ≤ c0 ∧ k93.C w A0 x.f0.length x.f0 := by
 obtain ⟨_, _, rfl, ⟨A0, c0, rfl, l0, g0⟩, ⟨_, _, rfl, rfl, ⟨_, _, rfl, rfl, ⟨_, _, rfl, rfl, rfl⟩⟩⟩⟩ := h
 exact ⟨A0, c0, rfl, l0, g0⟩
theorem k67_openM {w : World} {base : Nat} {ok : Nat → Prop} {x : S67} {cs : List Value} (h : k67.M w base ok x cs) : ∃ v0, cs = [v0, .int .i64 x.f1, .int .i64 x.f2, .int .i64 x.f3, .int .i64 x.f4] ∧ k93.R 93 w base ok v0 x.f0 := by
 obtain ⟨_, _, rfl, ⟨v0, rfl, g0⟩, ⟨_, _, rfl, rfl, ⟨_, _, rfl, rfl, ⟨_, _, rfl, rfl, rfl⟩⟩⟩⟩ := h
 exact ⟨v0, rfl, g0⟩
theorem k67_mkM (w : World) (base : Nat) (ok : Nat → Prop) (x : S67) {v0 : Value} (g0 : k93.R 93 w base ok v0 x.f0) : k67.M w base ok x [v0, .int .i64 x.f1, .int .i64 x.f2, .int .i64 x.f3, .int .i64 x.f4] := ⟨[v0], [.int .i64 x.f1, .int .i64 x.f2, .int .i64 x.f3, .int .i64 x.f4], rfl, ⟨v0, rfl, g0⟩, ⟨[.int .i64 x.f1], [.int .i64 x.f2, .int .i64 x.f3, .int .i64 x.f4], rfl, rfl, ⟨[.int .i64 x.f2], [.int .i64 x.f3, .int .i64 x.f4], rfl, rfl, ⟨[.int .i64 x.f3], [.int .i64 x.f4], rfl, rfl, rfl⟩⟩⟩⟩
theorem k67_openF {W : World} {ok : Nat → Prop} {x : S67} {cs : List Value} (h : Kd.FK k67 W ok x cs) : ∃ A0 c0, cs = [.slice A0 x.f0.length c0, .int .i64 x.f1, .int .i64 x.f2, .int .i64 x.f3, .int .i64 x.f4] ∧ x.f0.length ≤ c0 ∧ Kd.F k93 W ok A0 x.f0.length x.f0 := by
 obtain ⟨A0, c0, rfl, l0, _⟩ := k67_open (Kd.FK_now h)
 exact ⟨A0, c0, rfl, l0, (fun W' hW => by obtain ⟨A0_, c0_, he, l0_, g0_⟩ := k67_open (h W' hW); injection (Option.some.inj (show some (Value.slice A0 x.f0.length c0) = some (Value.slice A0_ x.f0.length c0_) from congrArg (fun l => l[0]?) he)) with ha_ _ _; rw [ha_]; exact g0_)⟩
def rd_T67 (xs : List S67) (i : Int) : S67 := xs.getD i.toNat z67
theorem at_T67 {w : World} {A : Option Addr} {n : Nat} {xs : List S67} (h : Kd.C k67 w A n xs) (i : Int) (h0 : 0 ≤ i) (h1 : i < n) : ∃ ad A0 c0, A = some ad ∧ w.cell? (ad.add (i.toNat * 5)) = some (.slice A0 (rd_T67 xs i).f0.length c0) ∧ w.cell? ⟨(ad.add (i.toNat * 5)).block, (ad.add (i.toNat * 5)).off + 1, none⟩ = some (.int .i64 (rd_T67 xs i).f1) ∧ w.cell? ⟨(ad.add (i.toNat * 5)).block, (ad.add (i.toNat * 5)).off + 2, none⟩ = some (.int .i64 (rd_T67 xs i).f2) ∧ w.cell? ⟨(ad.add (i.toNat * 5)).block, (ad.add (i.toNat * 5)).off + 3, none⟩ = some (.int .i64 (rd_T67 xs i).f3) ∧ w.cell? ⟨(ad.add (i.toNat * 5)).block, (ad.add (i.toNat * 5)).off + 4, none⟩ = some (.int .i64 (rd_T67 xs i).f4) ∧ (rd_T67 xs i).f0.length ≤ c0 ∧ k93.C w A0 (rd_T67 xs i).f0.length (rd_T67 xs i).f0 := by
 obtain ⟨ad, c, e, _, hK, hc0⟩ := Kd.C_get h z67 i h0 h1
 have hc : ∀ j u, c[j]? = some u → w.cell? (ad.add (i.toNat * 5 + j)) = some u := hc0
 obtain ⟨A0, c0, rfl, l0, g0⟩ := k67_open hK
 exact ⟨ad, A0, c0, e, hc 0 _ rfl, by rw [← add_field _ _ 1 (by omega)]; exact hc 1 _ rfl, by rw [← add_field _ _ 2 (by omega)]; exact hc 2 _ rfl, by rw [← add_field _ _ 3 (by omega)]; exact hc 3 _ rfl, by rw [← add_field _ _ 4 (by omega)]; exact hc 4 _ rfl, l0, g0⟩
def laws_patchDiffs.l0 : Nat → List (S75) → List (S70) → Int → Int → Option ((List (S75)))
 | 0, _, _, _, _ => none
 | k + 1, x3, x6, x7, x8 => if x8 < x7 then (if 0 ≤ x8 then (if x8 < (x6.length : Int) then (if x3.length < 5864062014805 then (laws_patchDiffs.l0 k (x3 ++ [(⟨(rd_T70 x6 x8).f0, (rd_T70 x6 x8).f1⟩ : S75)]) x6 x7 (wrap64 (x8 + 1))) else (none)) else (none)) else (none)) else (some x3)
def laws_patchDiffs.f (k : Nat) (l0 : List (S70)) : Option ((List (S75))) := laws_patchDiffs.l0 k ([] : List (S75)) l0 (l0.length : Int) 0
theorem laws_patchDiffs.calls (k : Nat) (A0 : Option Addr) (c0 : Nat) (l0 : List (S70)) (r : List (S75)) (w : World) (hr0 : Kd.C k70 w A0 l0.length l0) (hc0 : l0.length ≤ c0) (h : laws_patchDiffs.f k l0 = some r) :
  Calls Tryz.prog 54 #[.slice A0 l0.length c0] w fun e w' => ∃ v0_ : Value, e = .returned (v0_) ∧ Kd.R k75 75 w' w.heap.size (fun _ => True) v0_ r ∧ Below w.heap.size w w' := by
 have hu70 := Tryz.underlying70
 have HR0 := Aside0.mk hr0
 have HC0 := Aside0.mk hc0
 clear hr0 hc0
 have HB := aS_ (Below.refl w.heap.size w)
 have H : (laws_patchDiffs.l0 k ([] : List (S75)) l0 (l0.length : Int) 0) = some r := h
 clear h
 have H' := Aside0.mk H
 clear H
 go_enter Tryz.func54, Tryz.ntmps54
 go_wp2
 go_loopg [3, 8] k (fun kq v3 v8 w' => ∃ (x3_1 : List (S75)) (x8_1 : Int), v8 = .int .i64 x8_1 ∧ Aside0 (laws_patchDiffs.l0 kq x3_1 l0 (l0.length : Int) x8_1 = some r) ∧ Aside0 (kq ≤ k) ∧ Aside0 (Kd.R k75 75 w' w.heap.size (fun _ => True) v3 x3_1) ∧ Aside0 (Below w.heap.size w w'))
 case atStart => exact ⟨(([] : List (S75))), (0), (by rfl), H', ⟨Nat.le_refl _⟩, ⟨by exact Kd.R_nil _ _ _ _ _⟩, ⟨bel_ HB.out⟩⟩
 case round =>
  clear H'
  obtain ⟨x3_1, x8_1, rfl, HA, HK1, HO_3, HB⟩ := hrel
  cases gk with
  | zero => exact absurd HA.out (by simp [laws_patchDiffs.l0])
  | succ k1 =>
   have H := HA.out; clear HA
   simp only [laws_patchDiffs.l0] at H
   by_cases c2 : x8_1 < (l0.length : Int)
   ·rw [if_pos c2] at H
    have c2b0 := decide_eq_true c2
    clear c2
    replace H := yes_ H; obtain ⟨c3, H⟩ := H
    have c3b0 := decide_eq_true c3
    clear c3
    replace H := yes_ H; obtain ⟨c4, H⟩ := H
    have c4b0 := decide_eq_true c4
    clear c4
    replace H := yes_ H; obtain ⟨c5, H⟩ := H
    have LMc5 := Aside0.mk c5
    clear c5
    obtain ⟨y112, hy112⟩ : ∃ y_ : List (S75), y_ = (x3_1 ++ [(⟨(rd_T70 l0 x8_1).f0, (rd_T70 l0 x8_1).f1⟩ : S75)]) := ⟨_, rfl⟩
    replace H : (laws_patchDiffs.l0 k1 y112 l0 (l0.length : Int) (wrap64 (x8_1 + 1))) = some r := by (rw [hy112]; with_reducible exact H)
    have Ny112 := Aside0.mk hy112
    clear hy112
    have H' := Aside0.mk H
    clear H
    have p110 : 0 ≤ (x8_1 : Int) := of_decide_eq_true (by assumption)
    have q110 : x8_1 < (l0.length : Int) := of_decide_eq_true (by assumption)
    obtain ⟨ad110, e110, hx110_0, hx110_1⟩ := at_T70 HR0.out x8_1 p110 q110
    cases e110
    replace hx110_0 := (HB.out.cell (World.block_lt_of_cell? w _ hx110_0)).trans hx110_0
    replace hx110_1 := (HB.out.cell (World.block_lt_of_cell? w _ hx110_1)).trans hx110_1
    replace p110 := eq_true p110
    replace q110 := eq_true q110
    go_wp2_with (first | ((with_reducible refine gate_dst (N := 5) rfl ?_); refine box_event ?hg (N := 5) ?hd (cs := #[.int .i64 0, .string (⟨#[]⟩ : ByteArray)]) (t := 70) ?hr ?_; (case hd => rfl); (case hg => rfl); (case hr => (go_simp; done)); intro gb111 hg w6 hbox hb; replace HO_3 := aS_ (Kd.R_below (Kd.R_st HO_3.out) hb); have BK111 := aS_ (hbox); have GW111 := aS_ ((by rw [hg]; exact (bz_ (bel_ HB.out)) : w.heap.size ≤ gb111)); have GE111 := aS_ ((by rw [hg]; exact (bz_ (bel_ HB.out)) : w.heap.size ≤ gb111)); replace HB := aS_ (bt_ (bel_ HB.out) hb); clear hb hbox hg; obtain ⟨hcz7_0, hcz7_1, hfz7_0, hfz7_1⟩ := blk2 BK111.out) | ((with_reducible refine gate_builtin (b := .append) (xs := #[.tmp 12, .tmp 14]) rfl ?_); at_builtin; refine Kd.R_append k75 (w0 := w) w.heap.size rfl (.tmp 12) (.tmp 14) 40 75 (.agg #[(.int .i64 0), (.string ⟨#[]⟩)]) 24 rfl Tryz.underlying40 info75 rfl (by decide) (by omega) u3 x3_1 (⟨(rd_T70 l0 x8_1).f0, (rd_T70 l0 x8_1).f1⟩ : S75) [.int .i64 ((rd_T70 l0 x8_1).f0), .string ((rd_T70 l0 x8_1).f1)] (fun _ => True) (fun _ => False) rfl (by (go_simp; done)) ?aP (fun _ hk => hk.elim) ?aF ?aO ?aB ?aS ?aL ?_; (case aP => exact k75_mkM _ _ _ (⟨(rd_T70 l0 x8_1).f0, (rd_T70 l0 x8_1).f1⟩ : S75)); (case aB => exact (by with_reducible repeat first | exact HB.out | refine bS_ ?_ GE111.out)); (case aF => exact (fun _ _ => trivial)); (case aO => exact (Kd.R_st (Kd.R_mono (Kd.R_far (p := ⟨gb111, 1, none⟩) (Kd.R_far (p := ⟨gb111, 0, none⟩) (Kd.R_types HO_3.out BK111.out (by decide)) (fun _ hk => hk.2) (.int .i64 ((rd_T70 l0 x8_1).f0))) (fun _ hk => hk.2) (.string ((rd_T70 l0 x8_1).f1))) (fun _ hk => trivial)))); (case aS => exact (bz_ (by with_reducible repeat first | exact HB.out | refine bS_ ?_ GE111.out))); (case aL => have := LMc5.out; omega); intro v113 w8 ho hb hg hat; rw [← Ny112.out] at ho; replace BK111 := aS_ (blk_grown (g := gb111) (o := .cells #[.int .i64 ((rd_T70 l0 x8_1).f0), .string ((rd_T70 l0 x8_1).f1)] 70 (0, 0)) (by (with_reducible skip); refine blk_put (cs := #[.int .i64 ((rd_T70 l0 x8_1).f0), .string (⟨#[]⟩ : ByteArray)]) ?_ 1 _ rfl; (with_reducible skip); refine blk_put (cs := #[.int .i64 0, .string (⟨#[]⟩ : ByteArray)]) ?_ 0 _ rfl; (with_reducible skip); exact BK111.out) hg (Kd.R_ne HO_3.out BK111.out (by decide))); replace HB := aS_ (hb); have HO114 := aS_ (ho); clear HO_3; clear ho hb hg hat))
    go_roundg k1
    case measure => have := HK1.out; omega
    case rel => exact ⟨(y112), (wrap64 (x8_1 + 1)), (by rfl), H', ⟨by have := HK1.out; omega⟩, ⟨Kd.R_st HO114.out⟩, ⟨by with_reducible repeat exact HB.out⟩⟩
   ·rw [if_neg c2] at H
    have c2b0 := decide_eq_false c2
    clear c2
    obtain rfl := Option.some.inj H
    go_wp2
    go_ret
    exact ⟨_, by rfl, Kd.R_st HO_3.out, bel_ HB.out⟩
def laws_patchOf.f (k : Nat) (a0_0 : Int) (a0_1 : Int) (a0_2 : Int) (a0_3 : Int) (l0_4 : List (S70)) : Option (Int × Int × Int × Int × (List (S75))) := (laws_patchDiffs.f k l0_4).bind fun t117 => (some (a0_0, a0_1, a0_2, a0_3, t117))
def laws_patchOf.T1 : Bool × List (List Nat × List Nat) := (true, [([], []), ([0], [0]), ([], []), ([2], [2]), ([], []), ([4], [4]), ([], []), ([6], [6]), ([], []), ([8], [8]), ([9], [9]), ([1, 3, 5, 7, 10], [1, 3, 5, 7, 10]), ([11, 10, 0, 1, 2, 3, 4, 5, 6, 7, 8, 9, 10, 11], [11])])
def laws_patchOf.B1 : List Nat := [0, 1, 0, 4, 0, 16, 0, 64, 0, 256, 768, 2047, 4095]
theorem laws_patchOf.tab1 : rtab .any (opsOf Tryz.f31 1) = laws_patchOf.T1 := by kernel_rfl
theorem laws_patchOf.bits1 : waitsOk laws_patchOf.T1.2 laws_patchOf.B1 = true := by kernel_rfl
theorem laws_patchOf.calls (k : Nat) (a0_0 : Int) (a0_1 : Int) (a0_2 : Int) (a0_3 : Int) (A0_4 : Option Addr) (c0_4 : Nat) (l0_4 : List (S70)) (r1 : Int) (r2 : Int) (r3 : Int) (r4 : Int) (r5 : List (S75)) (w : World) (hr0_4 : Kd.C k70 w A0_4 l0_4.length l0_4) (hc0_4 : l0_4.length ≤ c0_4) (h : laws_patchOf.f k a0_0 a0_1 a0_2 a0_3 l0_4 = some (r1, r2, r3, r4, r5)) :
  Calls Tryz.prog 31 #[.agg #[.int .i64 a0_0, .int .i64 a0_1, .int .i64 a0_2, .int .i64 a0_3, .slice A0_4 l0_4.length c0_4]] w fun e w' => ∃ v4_ : Value, e = .returned (.agg #[.int .i64 r1, .int .i64 r2, .int .i64 r3, .int .i64 r4, v4_]) ∧ Kd.R k75 75 w' w.heap.size (fun _ => True) v4_ r5 ∧ Below w.heap.size w w' := by
 have hu33 := Tryz.underlying33
 have hu42 := Tryz.underlying42
 have HR0_4 := Aside0.mk hr0_4
 have HC0_4 := Aside0.mk hc0_4
 clear hr0_4 hc0_4
 have HB := aS_ (Below.refl w.heap.size w)
 have H : ((laws_patchDiffs.f k l0_4).bind fun t117 => (some (a0_0, a0_1, a0_2, a0_3, t117))) = some (r1, r2, r3, r4, r5) := h
 clear h
 replace H := Option.bind_eq_some_iff.mp H
 obtain ⟨t117, A20, H⟩ := H
 have A2 := Aside0.mk A20
 clear A20
 simp only [Option.some.injEq, Prod.mk.injEq] at H
 obtain ⟨rfl, rfl, rfl, rfl, rfl⟩ := H
 go_enter Tryz.func31, Tryz.ntmps31
 try go_wp2_with (first | ((with_reducible refine gate_dst (N := 1) rfl ?_); refine box_event ?hg (N := 1) ?hd (cs := #[.int .i64 a0_0, .int .i64 a0_1, .int .i64 a0_2, .int .i64 a0_3, .slice A0_4 l0_4.length c0_4]) (t := 33) ?hr ?_; (case hd => rfl); (case hg => rfl); (case hr => (go_simp; done)); intro gb115 hg w3 hbox hb; have BK115 := aS_ (hbox); have GW115 := aS_ ((by rw [hg]; exact (bz_ (bel_ HB.out)) : w.heap.size ≤ gb115)); have GE115 := aS_ ((by rw [hg]; exact (bz_ (bel_ HB.out)) : w.heap.size ≤ gb115)); replace HB := aS_ (bt_ (bel_ HB.out) hb); clear hb hbox hg) | ((with_reducible refine gate_dst (N := 2) rfl ?_); refine box_event ?hg (N := 2) ?hd (cs := #[.int .i64 0, .int .i64 0, .int .i64 0, .int .i64 0, .slice none 0 0]) (t := 42) ?hr ?_; (case hd => rfl); (case hg => rfl); (case hr => (go_simp; done)); intro gb116 hg w4 hbox hb; have BK116 := aS_ (hbox); have GW116 := aS_ ((by rw [hg]; exact (bz_ (by with_reducible repeat exact HB.out)) : w.heap.size ≤ gb116)); have GE116 := aS_ ((by rw [hg]; exact (bz_ (by with_reducible repeat exact HB.out)) : w.heap.size ≤ gb116)); replace HB := aS_ (bt_ (by with_reducible repeat exact HB.out) hb); have NB115_116 := aS_ ((by rw [hg]; exact Nat.ne_of_lt (blk_lt (g := gb115) (o := .cells #[.int .i64 a0_0, .int .i64 a0_1, .int .i64 a0_2, .int .i64 a0_3, .slice A0_4 l0_4.length c0_4] 33 (0, 0)) (blk_st BK115.out)) : gb115 ≠ gb116)); have NB116_115 := aS_ ((by rw [hg]; exact Nat.ne_of_gt (blk_lt (g := gb115) (o := .cells #[.int .i64 a0_0, .int .i64 a0_1, .int .i64 a0_2, .int .i64 a0_3, .slice A0_4 l0_4.length c0_4] 33 (0, 0)) (blk_st BK115.out)) : gb116 ≠ gb115)); replace BK115 := aS_ (blk_below (g := gb115) (o := .cells #[.int .i64 a0_0, .int .i64 a0_1, .int .i64 a0_2, .int .i64 a0_3, .slice A0_4 l0_4.length c0_4] 33 (0, 0)) (blk_st BK115.out) hb); clear hb hbox hg))
 replace BK115 := aS_ (kD_ BK115.out)
 replace BK116 := aS_ (kD_ BK116.out)
 replace HB := aS_ (bD_ HB.out)
 refine sA_ (fun w' => w'.cell? ⟨gb115, 0, none⟩ = some (.int .i64 a0_0) ∧ w'.cell? ⟨gb115, 1, none⟩ = some (.int .i64 a0_1) ∧ w'.cell? ⟨gb115, 2, none⟩ = some (.int .i64 a0_2) ∧ w'.cell? ⟨gb115, 3, none⟩ = some (.int .i64 a0_3) ∧ w'.cell? ⟨gb115, 4, none⟩ = some (.slice A0_4 l0_4.length c0_4)) [] laws_patchOf.tab1 laws_patchOf.bits1 ⟨(bc_ BK115.out 0).trans rfl, (bc_ BK115.out 1).trans rfl, (bc_ BK115.out 2).trans rfl, (bc_ BK115.out 3).trans rfl, (bc_ BK115.out 4).trans rfl⟩ (fun hHeld HT_ HW_ => ?_)
 generalize w4.drew = w5 at BK115 BK116 HB hHeld ⊢
 refine pA_ 0 (h:=pA_ 2 (h:=pA_ 4 (h:=pA_ 6 (h:=pA_ 8 (h:=tA_ 1 (h:=tA_ 3 (h:=tA_ 5 (h:=tA_ 7 (h:=tA_ 9 (h:=?_))))))))))
 refine oA_ 10 (some 13) (h:=fun K hK => ?_)
 refine goes_ Tryz.func54 (by kernel_rfl) rfl #[.slice A0_4 l0_4.length c0_4] (by rfl) rfl rfl (by (try simp only [List.map_toArray, List.map_cons, List.map_nil]); rfl) ?_
 with_reducible refine (laws_patchDiffs.calls k _ _ l0_4 t117 _ ?side1 ?side2 A2.out).mono ?_
 (case side1 => repeat (exact (Kd.C_below HR0_4.out HB.out)))
 (case side2 => exact HC0_4.out)
 rintro e w6 ⟨v118, rfl, ho0, hb⟩
 refine ⟨_, rfl, ?_⟩
 have HO119 := aS_ (Kd.R_lower ho0 (bz_ (by with_reducible repeat exact HB.out)))
 replace BK115 := aS_ (blk_below (g := gb115) (o := .cells #[.int .i64 a0_0, .int .i64 a0_1, .int .i64 a0_2, .int .i64 a0_3, .slice A0_4 l0_4.length c0_4] 33 (0, 0)) (blk_st BK115.out) hb)
 replace BK116 := aS_ (blk_below (g := gb116) (o := .cells #[.int .i64 0, .int .i64 0, .int .i64 0, .int .i64 0, .slice none 0 0] 42 (0, 0)) (blk_st BK116.out) hb)
 replace HB := aS_ (bt_ (by with_reducible repeat exact HB.out) hb)
 obtain ⟨Ao7, co7, eo7⟩ := Kd.R_slice HO119.out
 (subst eo7)
 refine hK.out _ _ ⟨(bc_ BK115.out 0).trans rfl, (bc_ BK115.out 1).trans rfl, (bc_ BK115.out 2).trans rfl, (bc_ BK115.out 3).trans rfl, (bc_ BK115.out 4).trans rfl⟩ (fun hHeld => ?_)
 clear hK K
 refine nA_ (h:=?_)
 refine pA_ 11 (h:=?_)
 refine oA_ 12 none (h:=fun K hK => ?_)
 have hs8 : w6.cell? ⟨gb116, 0, none⟩ = some (.int .i64 0) := (bc_ BK116.out 0).trans rfl
 have hfs8 := bf_ BK116.out 0
 have hns8_0 := NB115_116.out
 have hms8_0 := NB116_115.out
 have hs9 : w6.cell? ⟨gb116, 1, none⟩ = some (.int .i64 0) := (bc_ BK116.out 1).trans rfl
 have hfs9 := bf_ BK116.out 1
 have hns9_0 := NB115_116.out
 have hms9_0 := NB116_115.out
 have hs10 : w6.cell? ⟨gb116, 2, none⟩ = some (.int .i64 0) := (bc_ BK116.out 2).trans rfl
 have hfs10 := bf_ BK116.out 2
 have hns10_0 := NB115_116.out
 have hms10_0 := NB116_115.out
 have hs11 : w6.cell? ⟨gb116, 3, none⟩ = some (.int .i64 0) := (bc_ BK116.out 3).trans rfl
 have hfs11 := bf_ BK116.out 3
 have hns11_0 := NB115_116.out
 have hms11_0 := NB116_115.out
 have hs12 : w6.cell? ⟨gb116, 4, none⟩ = some (.slice none 0 0) := (bc_ BK116.out 4).trans rfl
 have hfs12 := bf_ BK116.out 4
 have hns12_0 := NB115_116.out
 have hms12_0 := NB116_115.out
 refine skip_ (w1 := ?_) (by rfl) rfl ?_ ?_
 rotate_left
 ·go_simp
  rfl
 refine hK.out _ _ ⟨((cell_far (p := ⟨gb116, _, none⟩) NB115_116.out _).trans (((cell_far (p := ⟨gb116, _, none⟩) NB115_116.out _).trans (((cell_far (p := ⟨gb116, _, none⟩) NB115_116.out _).trans (((cell_far (p := ⟨gb116, _, none⟩) NB115_116.out _).trans (((cell_far (p := ⟨gb116, _, none⟩) NB115_116.out _).trans (hHeld.1)))))))))), ((cell_far (p := ⟨gb116, _, none⟩) NB115_116.out _).trans (((cell_far (p := ⟨gb116, _, none⟩) NB115_116.out _).trans (((cell_far (p := ⟨gb116, _, none⟩) NB115_116.out _).trans (((cell_far (p := ⟨gb116, _, none⟩) NB115_116.out _).trans (((cell_far (p := ⟨gb116, _, none⟩) NB115_116.out _).trans (hHeld.2.1)))))))))), ((cell_far (p := ⟨gb116, _, none⟩) NB115_116.out _).trans (((cell_far (p := ⟨gb116, _, none⟩) NB115_116.out _).trans (((cell_far (p := ⟨gb116, _, none⟩) NB115_116.out _).trans (((cell_far (p := ⟨gb116, _, none⟩) NB115_116.out _).trans (((cell_far (p := ⟨gb116, _, none⟩) NB115_116.out _).trans (hHeld.2.2.1)))))))))), ((cell_far (p := ⟨gb116, _, none⟩) NB115_116.out _).trans (((cell_far (p := ⟨gb116, _, none⟩) NB115_116.out _).trans (((cell_far (p := ⟨gb116, _, none⟩) NB115_116.out _).trans (((cell_far (p := ⟨gb116, _, none⟩) NB115_116.out _).trans (((cell_far (p := ⟨gb116, _, none⟩) NB115_116.out _).trans (hHeld.2.2.2.1)))))))))), ((cell_far (p := ⟨gb116, _, none⟩) NB115_116.out _).trans (((cell_far (p := ⟨gb116, _, none⟩) NB115_116.out _).trans (((cell_far (p := ⟨gb116, _, none⟩) NB115_116.out _).trans (((cell_far (p := ⟨gb116, _, none⟩) NB115_116.out _).trans (((cell_far (p := ⟨gb116, _, none⟩) NB115_116.out _).trans (hHeld.2.2.2.2))))))))))⟩ (fun hHeld => ?_)
 clear hK K
 refine done_ (done_of HT_.out (by kernel_rfl)) ?_
 try go_wp2
 refine bodyPost_ret (results_cell_row rfl _ _ gb116 42 #[.int .i64 a0_0, .int .i64 a0_1, .int .i64 a0_2, .int .i64 a0_3, .slice Ao7 t117.length co7] (0, 0) _ rfl (by (with_reducible skip); refine blk_put (cs := #[.int .i64 a0_0, .int .i64 a0_1, .int .i64 a0_2, .int .i64 a0_3, .slice none 0 0]) ?_ 4 _ rfl; (with_reducible skip); refine blk_put (cs := #[.int .i64 a0_0, .int .i64 a0_1, .int .i64 a0_2, .int .i64 0, .slice none 0 0]) ?_ 3 _ rfl; (with_reducible skip); refine blk_put (cs := #[.int .i64 a0_0, .int .i64 a0_1, .int .i64 0, .int .i64 0, .slice none 0 0]) ?_ 2 _ rfl; (with_reducible skip); refine blk_put (cs := #[.int .i64 a0_0, .int .i64 0, .int .i64 0, .int .i64 0, .slice none 0 0]) ?_ 1 _ rfl; (with_reducible skip); refine blk_put (cs := #[.int .i64 0, .int .i64 0, .int .i64 0, .int .i64 0, .slice none 0 0]) ?_ 0 _ rfl; (with_reducible skip); exact BK116.out) Tryz.underlying42 rfl (by kernel_rfl)) rfl ?_
 exact ⟨_, by rfl, Kd.R_st (Kd.R_mono (Kd.R_far (p := ⟨gb116, 4, none⟩) (Kd.R_far (p := ⟨gb116, 3, none⟩) (Kd.R_far (p := ⟨gb116, 2, none⟩) (Kd.R_far (p := ⟨gb116, 1, none⟩) (Kd.R_far (p := ⟨gb116, 0, none⟩) (Kd.R_types HO119.out BK116.out (by decide)) (fun _ hk => hk.2) (.int .i64 a0_0)) (fun _ hk => hk.2) (.int .i64 a0_1)) (fun _ hk => hk.2) (.int .i64 a0_2)) (fun _ hk => hk.2) (.int .i64 a0_3)) (fun _ hk => hk.2) (.slice Ao7 t117.length co7)) (fun _ hk => trivial)), by with_reducible repeat first | exact HB.out | refine bS_ ?_ GE116.out⟩
def laws_patchesOf.l0 : Nat → List (S42) → List (S33) → Int → Int → Option ((List (S42)))
 | 0, _, _, _, _ => none
 | k + 1, x3, x6, x7, x8 => if x8 < x7 then (if 0 ≤ x8 then (if x8 < (x6.length : Int) then ((laws_patchOf.f k ((rd_T33 x6 x8).f0) ((rd_T33 x6 x8).f1) ((rd_T33 x6 x8).f2) ((rd_T33 x6 x8).f3) ((rd_T33 x6 x8).f4)).bind fun bt122 => (if x3.length < 2513169434916 then (laws_patchesOf.l0 k (x3 ++ [(⟨bt122.1, bt122.2.1, bt122.2.2.1, bt122.2.2.2.1, bt122.2.2.2.2⟩ : S42)]) x6 x7 (wrap64 (x8 + 1))) else (none))) else (none)) else (none)) else (some x3)
def laws_patchesOf.f (k : Nat) (l0 : List (S33)) : Option ((List (S42))) := laws_patchesOf.l0 k ([] : List (S42)) l0 (l0.length : Int) 0
theorem laws_patchesOf.calls (k : Nat) (A0 : Option Addr) (c0 : Nat) (l0 : List (S33)) (r : List (S42)) (w : World) (hr0 : Kd.C k33 w A0 l0.length l0) (hc0 : l0.length ≤ c0) (h : laws_patchesOf.f k l0 = some r) :
  Calls Tryz.prog 16 #[.slice A0 l0.length c0] w fun e w' => ∃ v0_ : Value, e = .returned (v0_) ∧ Kd.S k42 42 w' w.heap.size (fun _ => True) v0_ r ∧ Below w.heap.size w w' := by
 have hu33 := Tryz.underlying33
 have HR0 := Aside0.mk hr0
 have HC0 := Aside0.mk hc0
 clear hr0 hc0
 have HB := aS_ (Below.refl w.heap.size w)
 have H : (laws_patchesOf.l0 k ([] : List (S42)) l0 (l0.length : Int) 0) = some r := h
 clear h
 have H' := Aside0.mk H
 clear H
 go_enter Tryz.func16, Tryz.ntmps16
 go_wp2
 go_loopg [3, 8] k (fun kq v3 v8 w' => ∃ (x3_1 : List (S42)) (x8_1 : Int), v8 = .int .i64 x8_1 ∧ Aside0 (laws_patchesOf.l0 kq x3_1 l0 (l0.length : Int) x8_1 = some r) ∧ Aside0 (kq ≤ k) ∧ Aside0 (Kd.S k42 42 w' w.heap.size (fun _ => True) v3 x3_1) ∧ Aside0 (Below w.heap.size w w'))
 case atStart => exact ⟨(([] : List (S42))), (0), (by rfl), H', ⟨Nat.le_refl _⟩, ⟨by exact Kd.S_nil _ _ _ _ _⟩, ⟨bel_ HB.out⟩⟩
 case round =>
  clear H'
  obtain ⟨x3_1, x8_1, rfl, HA, HK1, HO_3, HB⟩ := hrel
  cases gk with
  | zero => exact absurd HA.out (by simp [laws_patchesOf.l0])
  | succ k1 =>
   have H := HA.out; clear HA
   simp only [laws_patchesOf.l0] at H
   by_cases c2 : x8_1 < (l0.length : Int)
   ·rw [if_pos c2] at H
    have c2b0 := decide_eq_true c2
    clear c2
    replace H := yes_ H; obtain ⟨c3, H⟩ := H
    have c3b0 := decide_eq_true c3
    clear c3
    replace H := yes_ H; obtain ⟨c4, H⟩ := H
    have c4b0 := decide_eq_true c4
    clear c4
    replace H := Option.bind_eq_some_iff.mp H
    obtain ⟨⟨t122, t123, t124, t125, t126⟩, A50, H⟩ := H
    try dsimp only at H
    have A5 := Aside0.mk A50
    clear A50
    replace H := yes_ H; obtain ⟨c6, H⟩ := H
    have LMc6 := Aside0.mk c6
    clear c6
    obtain ⟨y129, hy129⟩ : ∃ y_ : List (S42), y_ = (x3_1 ++ [(⟨t122, t123, t124, t125, t126⟩ : S42)]) := ⟨_, rfl⟩
    replace H : (laws_patchesOf.l0 k1 y129 l0 (l0.length : Int) (wrap64 (x8_1 + 1))) = some r := by (rw [hy129]; with_reducible exact H)
    have Ny129 := Aside0.mk hy129
    clear hy129
    have H' := Aside0.mk H
    clear H
    have p120 : 0 ≤ (x8_1 : Int) := of_decide_eq_true (by assumption)
    have q120 : x8_1 < (l0.length : Int) := of_decide_eq_true (by assumption)
    obtain ⟨ad120, A120_4, c120_4, e120, hx120_0, hx120_1, hx120_2, hx120_3, hx120_4, hl120_4, hi120_4⟩ := at_T33 HR0.out x8_1 p120 q120
    cases e120
    replace hx120_0 := (HB.out.cell (World.block_lt_of_cell? w _ hx120_0)).trans hx120_0
    replace hx120_1 := (HB.out.cell (World.block_lt_of_cell? w _ hx120_1)).trans hx120_1
    replace hx120_2 := (HB.out.cell (World.block_lt_of_cell? w _ hx120_2)).trans hx120_2
    replace hx120_3 := (HB.out.cell (World.block_lt_of_cell? w _ hx120_3)).trans hx120_3
    replace hx120_4 := (HB.out.cell (World.block_lt_of_cell? w _ hx120_4)).trans hx120_4
    have HR120_4 := Aside0.mk hi120_4
    have HC120_4 := Aside0.mk hl120_4
    clear hi120_4 hl120_4
    replace p120 := eq_true p120
    replace q120 := eq_true q120
    go_wp2_with (first | ((with_reducible refine gate_dst (N := 5) rfl ?_); refine box_event ?hg (N := 5) ?hd (cs := #[.int .i64 0, .int .i64 0, .int .i64 0, .int .i64 0, .slice none 0 0]) (t := 33) ?hr ?_; (case hd => rfl); (case hg => rfl); (case hr => (go_simp; done)); intro gb121 hg w7 hbox hb; replace HO_3 := aS_ (Kd.S_below (Kd.S_st HO_3.out) hb); have BK121 := aS_ (hbox); have GW121 := aS_ ((by rw [hg]; exact (bz_ (bel_ HB.out)) : w.heap.size ≤ gb121)); have GE121 := aS_ ((by rw [hg]; exact (bz_ (bel_ HB.out)) : w.heap.size ≤ gb121)); replace HB := aS_ (bt_ (bel_ HB.out) hb); clear hb hbox hg; obtain ⟨hcz8_0, hcz8_1, hcz8_2, hcz8_3, hcz8_4, hfz8_0, hfz8_1, hfz8_2, hfz8_3, hfz8_4⟩ := blk5 BK121.out) | (go_at_call 31; (with_reducible refine (laws_patchOf.calls k1 ((rd_T33 l0 x8_1).f0) ((rd_T33 l0 x8_1).f1) ((rd_T33 l0 x8_1).f2) ((rd_T33 l0 x8_1).f3) _ _ ((rd_T33 l0 x8_1).f4) t122 t123 t124 t125 t126 _ ?side1 ?side2 A5.out).mono ?_); (case side1 => exact Kd.C_below HR120_4.out (by with_reducible repeat first | exact HB.out | refine bS_ ?_ GE121.out)); (case side2 => exact HC120_4.out); rintro e w9 ⟨v127, rfl, ho0, hb⟩; replace HO_3 := aS_ (Kd.S_elder' (Kd.S_st ((Kd.S_mono (Kd.S_far (p := ⟨gb121, 4, none⟩) (Kd.S_far (p := ⟨gb121, 3, none⟩) (Kd.S_far (p := ⟨gb121, 2, none⟩) (Kd.S_far (p := ⟨gb121, 1, none⟩) (Kd.S_far (p := ⟨gb121, 0, none⟩) (Kd.S_types HO_3.out BK121.out (by decide)) (fun _ hk => hk.2) (.int .i64 ((rd_T33 l0 x8_1).f0))) (fun _ hk => hk.2) (.int .i64 ((rd_T33 l0 x8_1).f1))) (fun _ hk => hk.2) (.int .i64 ((rd_T33 l0 x8_1).f2))) (fun _ hk => hk.2) (.int .i64 ((rd_T33 l0 x8_1).f3))) (fun _ hk => hk.2) (.slice A120_4 ((rd_T33 l0 x8_1).f4).length c120_4)) (fun _ h_ => h_.1)))) (Kd.R_base ho0) hb); have HO128 := aS_ (Kd.R_lower ho0 (bz_ (by with_reducible repeat first | exact HB.out | refine bS_ ?_ GE121.out))); replace BK121 := aS_ (blk_below (g := gb121) (o := .cells #[.int .i64 ((rd_T33 l0 x8_1).f0), .int .i64 ((rd_T33 l0 x8_1).f1), .int .i64 ((rd_T33 l0 x8_1).f2), .int .i64 ((rd_T33 l0 x8_1).f3), .slice A120_4 ((rd_T33 l0 x8_1).f4).length c120_4] 33 (0, 0)) (by (with_reducible skip); refine blk_put (cs := #[.int .i64 ((rd_T33 l0 x8_1).f0), .int .i64 ((rd_T33 l0 x8_1).f1), .int .i64 ((rd_T33 l0 x8_1).f2), .int .i64 ((rd_T33 l0 x8_1).f3), .slice none 0 0]) ?_ 4 _ rfl; (with_reducible skip); refine blk_put (cs := #[.int .i64 ((rd_T33 l0 x8_1).f0), .int .i64 ((rd_T33 l0 x8_1).f1), .int .i64 ((rd_T33 l0 x8_1).f2), .int .i64 0, .slice none 0 0]) ?_ 3 _ rfl; (with_reducible skip); refine blk_put (cs := #[.int .i64 ((rd_T33 l0 x8_1).f0), .int .i64 ((rd_T33 l0 x8_1).f1), .int .i64 0, .int .i64 0, .slice none 0 0]) ?_ 2 _ rfl; (with_reducible skip); refine blk_put (cs := #[.int .i64 ((rd_T33 l0 x8_1).f0), .int .i64 0, .int .i64 0, .int .i64 0, .slice none 0 0]) ?_ 1 _ rfl; (with_reducible skip); refine blk_put (cs := #[.int .i64 0, .int .i64 0, .int .i64 0, .int .i64 0, .slice none 0 0]) ?_ 0 _ rfl; (with_reducible skip); exact BK121.out) hb); replace HB := aS_ (bt_ (by with_reducible repeat first | exact HB.out | refine bS_ ?_ GE121.out) hb); obtain ⟨Ao11, co11, eo11⟩ := Kd.R_slice HO128.out; subst eo11) | ((with_reducible refine gate_builtin (b := .append) (xs := #[.tmp 12, .tmp 15]) rfl ?_); at_builtin; refine Kd.S_append k42 (w0 := w) w.heap.size rfl (.tmp 12) (.tmp 15) 38 42 (.agg #[(.int .i64 0), (.int .i64 0), (.int .i64 0), (.int .i64 0), (.slice none 0 0)]) 56 rfl Tryz.underlying38 info42 rfl (by decide) (by omega) u3 x3_1 (⟨t122, t123, t124, t125, t126⟩ : S42) [.int .i64 t122, .int .i64 t123, .int .i64 t124, .int .i64 t125, .slice Ao11 t126.length co11] (fun _ => True) (fun k_ => some k_ = (.slice Ao11 t126.length co11 : Value).ownBlock) rfl rfl ?aP (fun k_ hk_ => ((Kd.R_mono (ok' := fun k_ => ((fun _ => True)) k_ ∧ some k_ ≠ (u3 : Value).ownBlock) (Kd.R_apart' (HO128.out) (Kd.S_typed HO_3.out) (by decide)) (fun k_ hk => ⟨trivial, hk.2⟩))).1 k_ hk_.symm) ?aF ?aO ?aB ?aS ?aL ?_; (case aP => exact k42_mkM _ _ _ (⟨t122, t123, t124, t125, t126⟩ : S42) (Kd.R_mono (Kd.R_tight rfl (Kd.R_mono (ok' := fun k_ => ((fun _ => True)) k_ ∧ some k_ ≠ (u3 : Value).ownBlock) (Kd.R_apart' (HO128.out) (Kd.S_typed HO_3.out) (by decide)) (fun k_ hk => ⟨trivial, hk.2⟩))) (fun _ h_ => h_))); (case aB => exact (by with_reducible repeat exact HB.out)); (case aF => exact (fun _ _ => trivial)); (case aO => exact (Kd.S_st (Kd.S_mono HO_3.out (fun k_ hk => ⟨trivial, fun e_ => hk.2 e_⟩)))); (case aS => exact (bz_ (by with_reducible repeat exact HB.out))); (case aL => have := LMc6.out; omega); intro v130 w10 ho hb hg hat; rw [← Ny129.out] at ho; replace BK121 := aS_ (blk_grown (g := gb121) (o := .cells #[.int .i64 ((rd_T33 l0 x8_1).f0), .int .i64 ((rd_T33 l0 x8_1).f1), .int .i64 ((rd_T33 l0 x8_1).f2), .int .i64 ((rd_T33 l0 x8_1).f3), .slice A120_4 ((rd_T33 l0 x8_1).f4).length c120_4] 33 (0, 0)) (blk_st BK121.out) hg (Kd.S_ne HO_3.out BK121.out (by decide))); replace HB := aS_ (hb); have HO131 := aS_ (ho); clear HO_3 HO128; clear ho hb hg hat))
    go_roundg k1
    case measure => have := HK1.out; omega
    case rel => exact ⟨(y129), (wrap64 (x8_1 + 1)), (by rfl), H', ⟨by have := HK1.out; omega⟩, ⟨Kd.S_st HO131.out⟩, ⟨by with_reducible repeat exact HB.out⟩⟩
   ·rw [if_neg c2] at H
    have c2b0 := decide_eq_false c2
    clear c2
    obtain rfl := Option.some.inj H
    go_wp2
    go_ret
    exact ⟨_, by rfl, Kd.S_st HO_3.out, bel_ HB.out⟩
def spec_IsPatchNumbers.l0 : Nat → List Int → Int → Int → Option (Bool)
 | 0, _, _, _ => none
 | k + 1, x13, x14, x15 => if x15 < x14 then (if 0 ≤ x15 then (if x15 < (x13.length : Int) then (if (rd x13 x15) < 0 then (some false) else (if (rd x13 x15) > 1000000 then (some false) else (spec_IsPatchNumbers.l0 k x13 x14 (wrap64 (x15 + 1))))) else (none)) else (none)) else (some true)
def spec_IsPatchNumbers.f (k : Nat) (a0_0 : Int) (a0_1 : Int) (a0_2 : Int) (a0_3 : Int) (l0_4 : List (S75)) : Option (Bool) := (some (([a0_0, a0_1, a0_2, a0_3] : List Int) : List Int)).bind fun y133 => (spec_IsPatchNumbers.l0 k y133 (y133.length : Int) 0)
theorem spec_IsPatchNumbers.calls (k : Nat) (a0_0 : Int) (a0_1 : Int) (a0_2 : Int) (a0_3 : Int) (A0_4 : Option Addr) (c0_4 : Nat) (l0_4 : List (S75)) (r : Bool) (w : World) (hr0_4 : Kd.C k75 w A0_4 l0_4.length l0_4) (hc0_4 : l0_4.length ≤ c0_4) (h : spec_IsPatchNumbers.f k a0_0 a0_1 a0_2 a0_3 l0_4 = some r) :
  Calls Tryz.prog 17 #[.agg #[.int .i64 a0_0, .int .i64 a0_1, .int .i64 a0_2, .int .i64 a0_3, .slice A0_4 l0_4.length c0_4]] w fun e w' => e = .returned (.bool r) ∧ Below w.heap.size w w' := by
 have hu42 := Tryz.underlying42
 have HR0_4 := Aside0.mk hr0_4
 have HC0_4 := Aside0.mk hc0_4
 clear hr0_4 hc0_4
 have HB := aS_ (Below.refl w.heap.size w)
 have H : ((some (([a0_0, a0_1, a0_2, a0_3] : List Int) : List Int)).bind fun y133 => (spec_IsPatchNumbers.l0 k y133 (y133.length : Int) 0)) = some r := h
 clear h
 obtain ⟨y133, hy133, H⟩ := bindc_ H
 have Ny133 := Aside0.mk hy133
 clear hy133
 have H' := Aside0.mk H
 clear H
 go_enter Tryz.func17, Tryz.ntmps17
 go_wp2_with (first | ((with_reducible refine gate_dst (N := 1) rfl ?_); refine box_event ?hg (N := 1) ?hd (cs := #[.int .i64 a0_0, .int .i64 a0_1, .int .i64 a0_2, .int .i64 a0_3, .slice A0_4 l0_4.length c0_4]) (t := 42) ?hr ?_; (case hd => rfl); (case hg => rfl); (case hr => (go_simp; done)); intro gb132 hg w2 hbox hb; have BK132 := aS_ (hbox); have GW132 := aS_ ((by rw [hg]; exact (bz_ (bel_ HB.out)) : w.heap.size ≤ gb132)); have GE132 := aS_ ((by rw [hg]; exact (bz_ (bel_ HB.out)) : w.heap.size ≤ gb132)); replace HB := aS_ (bt_ (bel_ HB.out) hb); clear hb hbox hg; obtain ⟨hcz3_0, hcz3_1, hcz3_2, hcz3_3, hcz3_4, hfz3_0, hfz3_1, hfz3_2, hfz3_3, hfz3_4⟩ := blk5 BK132.out) | ((with_reducible refine gate_dst (N := 13) rfl ?_); refine Kd.R_lit (Kd.int .i64) _ 2 ?hg (N := 13) ?hd (xs := ([a0_0, a0_1, a0_2, a0_3] : List Int)) (inner := [.int .i64 a0_0, .int .i64 a0_1, .int .i64 a0_2, .int .i64 a0_3]) (ok := fun _ => True) (okp := fun _ => True) ?hr ?hp (fun _ hk => hk) trivial (Below.refl _ _) (Nat.le_refl _) (by simp) ?_; (case hd => rfl); (case hg => rfl); (case hr => (go_simp; done)); (case hp => exact (Reps.one (show Kd.M (Kd.int .i64) _ _ _ a0_0 [.int .i64 a0_0] from rfl) (Reps.one (show Kd.M (Kd.int .i64) _ _ _ a0_1 [.int .i64 a0_1] from rfl) (Reps.one (show Kd.M (Kd.int .i64) _ _ _ a0_2 [.int .i64 a0_2] from rfl) (Reps.one (show Kd.M (Kd.int .i64) _ _ _ a0_3 [.int .i64 a0_3] from rfl) (Reps.none _ _)))))); intro v134 w4 ho5 hb hg_ hnew_; clear hg_ hnew_; (rw [← Ny133.out] at ho5); have HO135 := aS_ (Kd.R_lower ho5 (bz_ (by with_reducible repeat exact HB.out))); replace BK132 := aS_ (blk_below (g := gb132) (o := .cells #[.int .i64 a0_0, .int .i64 a0_1, .int .i64 a0_2, .int .i64 a0_3, .slice A0_4 l0_4.length c0_4] 42 (0, 0)) (blk_st BK132.out) hb); replace HB := aS_ (bt_ (by with_reducible repeat exact HB.out) hb); clear hb ho5; obtain ⟨Ao6, co6, eo6⟩ := Kd.R_slice HO135.out; subst eo6))
 go_loopg [15] k (fun kq v15 w' => ∃ (x15_1 : Int), v15 = .int .i64 x15_1 ∧ Aside0 (spec_IsPatchNumbers.l0 kq y133 (y133.length : Int) x15_1 = some r) ∧ Aside0 (kq ≤ k) ∧ Aside0 (Kd.R (Kd.int .i64) 2 w' w.heap.size (fun _ => True) (.slice Ao6 y133.length co6) y133) ∧ Aside0 (w'.heap[gb132]? = some (.cells #[.int .i64 a0_0, .int .i64 a0_1, .int .i64 a0_2, .int .i64 a0_3, (.slice A0_4 l0_4.length c0_4)] 42 (0, 0))) ∧ Aside0 (Below w.heap.size w w'))
 case atStart => exact ⟨(0), (by rfl), H', ⟨Nat.le_refl _⟩, ⟨Kd.R_st HO135.out⟩, ⟨blk_st BK132.out⟩, ⟨by with_reducible repeat exact HB.out⟩⟩
 case round =>
  clear H'
  obtain ⟨x15_1, rfl, HA, HK1, HO_13, BK132, HB⟩ := hrel
  cases gk with
  | zero => exact absurd HA.out (by simp [spec_IsPatchNumbers.l0])
  | succ k1 =>
   have H := HA.out; clear HA
   simp only [spec_IsPatchNumbers.l0] at H
   by_cases c7 : x15_1 < (y133.length : Int)
   ·rw [if_pos c7] at H
    have c7b0 := decide_eq_true c7
    clear c7
    replace H := yes_ H; obtain ⟨c8, H⟩ := H
    have c8b0 := decide_eq_true c8
    clear c8
    replace H := yes_ H; obtain ⟨c9, H⟩ := H
    have c9b0 := decide_eq_true c9
    clear c9
    by_cases c10 : (rd y133 x15_1) < 0
    ·rw [if_pos c10] at H
     have c10b0 := decide_eq_true c10
     clear c10
     obtain rfl := Option.some.inj H
     have p136 : 0 ≤ (x15_1 : Int) := of_decide_eq_true (by assumption)
     have q136 : x15_1 < (y133.length : Int) := of_decide_eq_true (by assumption)
     obtain ⟨ad136, e136, hx136_0⟩ := Kd.at_int (Kd.R_reads' HO_13.out).2.2 x15_1 p136 q136
     cases e136
     replace p136 := eq_true p136
     replace q136 := eq_true q136
     go_wp2
     go_ret
     exact ⟨by rfl, by with_reducible repeat exact HB.out⟩
    ·rw [if_neg c10] at H
     have c10b0 := decide_eq_false c10
     clear c10
     by_cases c11 : (rd y133 x15_1) > 1000000
     ·rw [if_pos c11] at H
      have c11b0 : decide (1000000 < (rd y133 x15_1)) = true := decide_eq_true c11
      clear c11
      obtain rfl := Option.some.inj H
      have p136 : 0 ≤ (x15_1 : Int) := of_decide_eq_true (by assumption)
      have q136 : x15_1 < (y133.length : Int) := of_decide_eq_true (by assumption)
      obtain ⟨ad136, e136, hx136_0⟩ := Kd.at_int (Kd.R_reads' HO_13.out).2.2 x15_1 p136 q136
      cases e136
      replace p136 := eq_true p136
      replace q136 := eq_true q136
      go_wp2
      go_ret
      exact ⟨by rfl, by with_reducible repeat exact HB.out⟩
     ·rw [if_neg c11] at H
      have c11b0 : decide (1000000 < (rd y133 x15_1)) = false := decide_eq_false c11
      clear c11
      have H' := Aside0.mk H
      clear H
      have p136 : 0 ≤ (x15_1 : Int) := of_decide_eq_true (by assumption)
      have q136 : x15_1 < (y133.length : Int) := of_decide_eq_true (by assumption)
      obtain ⟨ad136, e136, hx136_0⟩ := Kd.at_int (Kd.R_reads' HO_13.out).2.2 x15_1 p136 q136
      cases e136
      replace p136 := eq_true p136
      replace q136 := eq_true q136
      go_wp2
      go_roundg k1
      case measure => have := HK1.out; omega
      case rel => exact ⟨(wrap64 (x15_1 + 1)), (by rfl), H', ⟨by have := HK1.out; omega⟩, ⟨Kd.R_st HO_13.out⟩, ⟨blk_st BK132.out⟩, ⟨by with_reducible repeat exact HB.out⟩⟩
   ·rw [if_neg c7] at H
    have c7b0 := decide_eq_false c7
    clear c7
    obtain rfl := Option.some.inj H
    go_wp2
    go_ret
    exact ⟨by rfl, by with_reducible repeat exact HB.out⟩
def spec_IsPatchPlain.l0 : Nat → ByteArray → Int → Int → Int → Option (Bool)
 | 0, _, _, _, _ => none
 | k + 1, x0, x1, x8, x9 => if x9 < x8 then (if 0 ≤ x9 then (if x9 < (x0.size : Int) then (if (bt x0 x9) < 32 then (if (bt x0 x9) = 10 then (spec_IsPatchPlain.l0 k x0 x1 x8 (wrap64 (x9 + 1))) else (if (bt x0 x9) = 9 then (spec_IsPatchPlain.l0 k x0 x1 x8 (wrap64 (x9 + 1))) else (some false))) else (if (bt x0 x9) > 126 then (if (bt x0 x9) = 10 then (spec_IsPatchPlain.l0 k x0 x1 x8 (wrap64 (x9 + 1))) else (if (bt x0 x9) = 9 then (spec_IsPatchPlain.l0 k x0 x1 x8 (wrap64 (x9 + 1))) else (some false))) else (spec_IsPatchPlain.l0 k x0 x1 x8 (wrap64 (x9 + 1))))) else (none)) else (none)) else (some (decide ((x0.size : Int) ≤ x1)))
def spec_IsPatchPlain.f (k : Nat) (a0 : ByteArray) (a1 : Int) : Option (Bool) := spec_IsPatchPlain.l0 k a0 a1 (a0.size : Int) 0
theorem spec_IsPatchPlain.calls (k : Nat) (a0 : ByteArray) (a1 : Int) (r : Bool) (w : World) (h : spec_IsPatchPlain.f k a0 a1 = some r) :
  Calls Tryz.prog 32 #[.string a0, .int .i64 a1] w fun e w' => e = .returned (.bool r) ∧ Drawn0 w w' := by
 have H : (spec_IsPatchPlain.l0 k a0 a1 (a0.size : Int) 0) = some r := h
 clear h
 have H' := Aside0.mk H
 clear H
 go_enter Tryz.func32, Tryz.ntmps32
 go_wp2
 go_loopg [9] k (fun kq v9 w' => ∃ (x9_1 : Int), v9 = .int .i64 x9_1 ∧ Aside0 (spec_IsPatchPlain.l0 kq a0 a1 (a0.size : Int) x9_1 = some r) ∧ Aside0 (kq ≤ k) ∧ Drawn0 w w')
 case atStart => exact ⟨(0), (by rfl), H', ⟨Nat.le_refl _⟩, by repeat (exact Drawn0.refl _)⟩
 case round =>
  clear H'
  obtain ⟨x9_1, rfl, HA, HK1, ⟨m1, rfl⟩⟩ := hrel
  cases gk with
  | zero => exact absurd HA.out (by simp [spec_IsPatchPlain.l0])
  | succ k1 =>
   have H := HA.out; clear HA
   simp only [spec_IsPatchPlain.l0] at H
   by_cases c3 : x9_1 < (a0.size : Int)
   ·rw [if_pos c3] at H
    have c3b0 := decide_eq_true c3
    clear c3
    replace H := yes_ H; obtain ⟨c4, H⟩ := H
    have c4b0 := decide_eq_true c4
    clear c4
    replace H := yes_ H; obtain ⟨c5, H⟩ := H
    have c5b0 := decide_eq_true c5
    clear c5
    by_cases c7 : (bt a0 x9_1) < 32
    ·rw [if_pos c7] at H
     have c7b0 := decide_eq_true c7
     clear c7
     by_cases c8 : (bt a0 x9_1) = 10
     ·rw [if_pos c8] at H
      have c8b0 := beq_iff_eq.mpr c8
      have c8b1 := bne_eq_false_iff_eq.mpr c8
      clear c8
      have H' := Aside0.mk H
      clear H
      have p6 : 0 ≤ (x9_1 : Int) := of_decide_eq_true (by assumption)
      have q6 : x9_1 < (a0.size : Int) := of_decide_eq_true (by assumption)
      have hx6 := bt_at a0 x9_1
      replace p6 := eq_true p6
      replace q6 := eq_true q6
      go_wp2
      go_roundg k1
      case measure => have := HK1.out; omega
      case rel => exact ⟨(wrap64 (x9_1 + 1)), (by rfl), H', ⟨by have := HK1.out; omega⟩, by repeat (first | exact Drawn0.refl _ | apply Drawn0.step)⟩
     ·rw [if_neg c8] at H
      have c8b0 := beq_eq_false_iff_ne.mpr c8
      have c8b1 := bne_iff_ne.mpr c8
      by_cases c9 : (bt a0 x9_1) = 9
      ·rw [if_pos c9] at H
       have c9b0 := beq_iff_eq.mpr c9
       have c9b1 := bne_eq_false_iff_eq.mpr c9
       clear c9
       have H' := Aside0.mk H
       clear H
       have p6 : 0 ≤ (x9_1 : Int) := of_decide_eq_true (by assumption)
       have q6 : x9_1 < (a0.size : Int) := of_decide_eq_true (by assumption)
       have hx6 := bt_at a0 x9_1
       replace p6 := eq_true p6
       replace q6 := eq_true q6
       go_wp2
       go_roundg k1
       case measure => have := HK1.out; omega
       case rel => exact ⟨(wrap64 (x9_1 + 1)), (by rfl), H', ⟨by have := HK1.out; omega⟩, by repeat (first | exact Drawn0.refl _ | apply Drawn0.step)⟩
      ·rw [if_neg c9] at H
       have c9b0 := beq_eq_false_iff_ne.mpr c9
       have c9b1 := bne_iff_ne.mpr c9
       obtain rfl := Option.some.inj H
       have p6 : 0 ≤ (x9_1 : Int) := of_decide_eq_true (by assumption)
       have q6 : x9_1 < (a0.size : Int) := of_decide_eq_true (by assumption)
       have hx6 := bt_at a0 x9_1
       replace p6 := eq_true p6
       replace q6 := eq_true q6
       go_wp2
       go_ret
       exact ⟨by rfl, by repeat (first | exact Drawn0.refl _ | apply Drawn0.step)⟩
    ·rw [if_neg c7] at H
     have c7b0 := decide_eq_false c7
     clear c7
     by_cases c10 : (bt a0 x9_1) > 126
     ·rw [if_pos c10] at H
      have c10b0 : decide (126 < (bt a0 x9_1)) = true := decide_eq_true c10
      clear c10
      by_cases c11 : (bt a0 x9_1) = 10
      ·rw [if_pos c11] at H
       have c11b0 := beq_iff_eq.mpr c11
       have c11b1 := bne_eq_false_iff_eq.mpr c11
       clear c11
       have H' := Aside0.mk H
       clear H
       have p6 : 0 ≤ (x9_1 : Int) := of_decide_eq_true (by assumption)
       have q6 : x9_1 < (a0.size : Int) := of_decide_eq_true (by assumption)
       have hx6 := bt_at a0 x9_1
       replace p6 := eq_true p6
       replace q6 := eq_true q6
       go_wp2
       go_roundg k1
       case measure => have := HK1.out; omega
       case rel => exact ⟨(wrap64 (x9_1 + 1)), (by rfl), H', ⟨by have := HK1.out; omega⟩, by repeat (first | exact Drawn0.refl _ | apply Drawn0.step)⟩
      ·rw [if_neg c11] at H
       have c11b0 := beq_eq_false_iff_ne.mpr c11
       have c11b1 := bne_iff_ne.mpr c11
       by_cases c12 : (bt a0 x9_1) = 9
       ·rw [if_pos c12] at H
        have c12b0 := beq_iff_eq.mpr c12
        have c12b1 := bne_eq_false_iff_eq.mpr c12
        clear c12
        have H' := Aside0.mk H
        clear H
        have p6 : 0 ≤ (x9_1 : Int) := of_decide_eq_true (by assumption)
        have q6 : x9_1 < (a0.size : Int) := of_decide_eq_true (by assumption)
        have hx6 := bt_at a0 x9_1
        replace p6 := eq_true p6
        replace q6 := eq_true q6
        go_wp2
        go_roundg k1
        case measure => have := HK1.out; omega
        case rel => exact ⟨(wrap64 (x9_1 + 1)), (by rfl), H', ⟨by have := HK1.out; omega⟩, by repeat (first | exact Drawn0.refl _ | apply Drawn0.step)⟩
       ·rw [if_neg c12] at H
        have c12b0 := beq_eq_false_iff_ne.mpr c12
        have c12b1 := bne_iff_ne.mpr c12
        obtain rfl := Option.some.inj H
        have p6 : 0 ≤ (x9_1 : Int) := of_decide_eq_true (by assumption)
        have q6 : x9_1 < (a0.size : Int) := of_decide_eq_true (by assumption)
        have hx6 := bt_at a0 x9_1
        replace p6 := eq_true p6
        replace q6 := eq_true q6
        go_wp2
        go_ret
        exact ⟨by rfl, by repeat (first | exact Drawn0.refl _ | apply Drawn0.step)⟩
     ·rw [if_neg c10] at H
      have c10b0 : decide (126 < (bt a0 x9_1)) = false := decide_eq_false c10
      clear c10
      have H' := Aside0.mk H
      clear H
      have p6 : 0 ≤ (x9_1 : Int) := of_decide_eq_true (by assumption)
      have q6 : x9_1 < (a0.size : Int) := of_decide_eq_true (by assumption)
      have hx6 := bt_at a0 x9_1
      replace p6 := eq_true p6
      replace q6 := eq_true q6
      go_wp2
      go_roundg k1
      case measure => have := HK1.out; omega
      case rel => exact ⟨(wrap64 (x9_1 + 1)), (by rfl), H', ⟨by have := HK1.out; omega⟩, by repeat (first | exact Drawn0.refl _ | apply Drawn0.step)⟩
   ·rw [if_neg c3] at H
    have c3b0 := decide_eq_false c3
    clear c3
    obtain rfl := Option.some.inj H
    go_wp2
    go_ret
    exact ⟨by rfl, by repeat (first | exact Drawn0.refl _ | apply Drawn0.step)⟩
def spec_IsPatchDiffs.l0 : Nat → List (S75) → Int → Int → List (S75) → Int → Int → Option (Bool)
 | 0, _, _, _, _, _, _ => none
 | k + 1, x0, x1, x2, x9, x10, x11 => if x11 < x10 then (if 0 ≤ x11 then (if x11 < (x9.length : Int) then (if ((rd_T75 x9 x11).f0) < (-1) then (some false) else (if ((rd_T75 x9 x11).f0) > 1 then (some false) else (if ((rd_T75 x9 x11).f1).toList = ([] : List UInt8) then (some false) else ((spec_IsPatchPlain.f k ((rd_T75 x9 x11).f1) x2).bind fun t139 => (if t139 = true then (spec_IsPatchDiffs.l0 k x0 x1 x2 x9 x10 (wrap64 (x11 + 1))) else (some false)))))) else (none)) else (none)) else (some (decide ((x0.length : Int) ≤ x1)))
def spec_IsPatchDiffs.f (k : Nat) (l0 : List (S75)) (a1 : Int) (a2 : Int) : Option (Bool) := spec_IsPatchDiffs.l0 k l0 a1 a2 l0 (l0.length : Int) 0
theorem spec_IsPatchDiffs.calls (k : Nat) (A0 : Option Addr) (c0 : Nat) (l0 : List (S75)) (a1 : Int) (a2 : Int) (r : Bool) (w : World) (hr0 : Kd.C k75 w A0 l0.length l0) (hc0 : l0.length ≤ c0) (h : spec_IsPatchDiffs.f k l0 a1 a2 = some r) :
  Calls Tryz.prog 18 #[.slice A0 l0.length c0, .int .i64 a1, .int .i64 a2] w fun e w' => e = .returned (.bool r) ∧ Below w.heap.size w w' := by
 have hu75 := Tryz.underlying75
 have HR0 := Aside0.mk hr0
 have HC0 := Aside0.mk hc0
 clear hr0 hc0
 have HB := aS_ (Below.refl w.heap.size w)
 have H : (spec_IsPatchDiffs.l0 k l0 a1 a2 l0 (l0.length : Int) 0) = some r := h
 clear h
 have H' := Aside0.mk H
 clear H
 go_enter Tryz.func18, Tryz.ntmps18
 go_wp2
 go_loopg [11] k (fun kq v11 w' => ∃ (x11_1 : Int), v11 = .int .i64 x11_1 ∧ Aside0 (spec_IsPatchDiffs.l0 kq l0 a1 a2 l0 (l0.length : Int) x11_1 = some r) ∧ Aside0 (kq ≤ k) ∧ Aside0 (Below w.heap.size w w'))
 case atStart => exact ⟨(0), (by rfl), H', ⟨Nat.le_refl _⟩, ⟨bel_ HB.out⟩⟩
 case round =>
  clear H'
  obtain ⟨x11_1, rfl, HA, HK1, HB⟩ := hrel
  cases gk with
  | zero => exact absurd HA.out (by simp [spec_IsPatchDiffs.l0])
  | succ k1 =>
   have H := HA.out; clear HA
   simp only [spec_IsPatchDiffs.l0] at H
   by_cases c4 : x11_1 < (l0.length : Int)
   ·rw [if_pos c4] at H
    have c4b0 := decide_eq_true c4
    clear c4
    replace H := yes_ H; obtain ⟨c5, H⟩ := H
    have c5b0 := decide_eq_true c5
    clear c5
    replace H := yes_ H; obtain ⟨c6, H⟩ := H
    have c6b0 := decide_eq_true c6
    clear c6
    by_cases c7 : ((rd_T75 l0 x11_1).f0) < (-1)
    ·rw [if_pos c7] at H
     have c7b0 := decide_eq_true c7
     clear c7
     obtain rfl := Option.some.inj H
     have p137 : 0 ≤ (x11_1 : Int) := of_decide_eq_true (by assumption)
     have q137 : x11_1 < (l0.length : Int) := of_decide_eq_true (by assumption)
     obtain ⟨ad137, e137, hx137_0, hx137_1⟩ := at_T75 HR0.out x11_1 p137 q137
     cases e137
     replace hx137_0 := (HB.out.cell (World.block_lt_of_cell? w _ hx137_0)).trans hx137_0
     replace hx137_1 := (HB.out.cell (World.block_lt_of_cell? w _ hx137_1)).trans hx137_1
     replace p137 := eq_true p137
     replace q137 := eq_true q137
     go_wp2_with (((with_reducible refine gate_dst (N := 8) rfl ?_); refine box_event ?hg (N := 8) ?hd (cs := #[.int .i64 0, .string (⟨#[]⟩ : ByteArray)]) (t := 75) ?hr ?_; (case hd => rfl); (case hg => rfl); (case hr => (go_simp; done)); intro gb138 hg w8 hbox hb; have BK138 := aS_ (hbox); have GW138 := aS_ ((by rw [hg]; exact (bz_ (bel_ HB.out)) : w.heap.size ≤ gb138)); have GE138 := aS_ ((by rw [hg]; exact (bz_ (bel_ HB.out)) : w.heap.size ≤ gb138)); replace HB := aS_ (bt_ (bel_ HB.out) hb); clear hb hbox hg; obtain ⟨hcz9_0, hcz9_1, hfz9_0, hfz9_1⟩ := blk2 BK138.out))
     go_ret
     exact ⟨by rfl, by with_reducible repeat first | exact HB.out | refine bS_ ?_ GE138.out⟩
    ·rw [if_neg c7] at H
     have c7b0 := decide_eq_false c7
     clear c7
     by_cases c10 : ((rd_T75 l0 x11_1).f0) > 1
     ·rw [if_pos c10] at H
      have c10b0 : decide (1 < ((rd_T75 l0 x11_1).f0)) = true := decide_eq_true c10
      clear c10
      obtain rfl := Option.some.inj H
      have p137 : 0 ≤ (x11_1 : Int) := of_decide_eq_true (by assumption)
      have q137 : x11_1 < (l0.length : Int) := of_decide_eq_true (by assumption)
      obtain ⟨ad137, e137, hx137_0, hx137_1⟩ := at_T75 HR0.out x11_1 p137 q137
      cases e137
      replace hx137_0 := (HB.out.cell (World.block_lt_of_cell? w _ hx137_0)).trans hx137_0
      replace hx137_1 := (HB.out.cell (World.block_lt_of_cell? w _ hx137_1)).trans hx137_1
      replace p137 := eq_true p137
      replace q137 := eq_true q137
      go_wp2_with (((with_reducible refine gate_dst (N := 8) rfl ?_); refine box_event ?hg (N := 8) ?hd (cs := #[.int .i64 0, .string (⟨#[]⟩ : ByteArray)]) (t := 75) ?hr ?_; (case hd => rfl); (case hg => rfl); (case hr => (go_simp; done)); intro gb138 hg w11 hbox hb; have BK138 := aS_ (hbox); have GW138 := aS_ ((by rw [hg]; exact (bz_ (bel_ HB.out)) : w.heap.size ≤ gb138)); have GE138 := aS_ ((by rw [hg]; exact (bz_ (bel_ HB.out)) : w.heap.size ≤ gb138)); replace HB := aS_ (bt_ (bel_ HB.out) hb); clear hb hbox hg; obtain ⟨hcz12_0, hcz12_1, hfz12_0, hfz12_1⟩ := blk2 BK138.out))
      go_ret
      exact ⟨by rfl, by with_reducible repeat first | exact HB.out | refine bS_ ?_ GE138.out⟩
     ·rw [if_neg c10] at H
      have c10b0 : decide (1 < ((rd_T75 l0 x11_1).f0)) = false := decide_eq_false c10
      clear c10
      by_cases c13 : ((rd_T75 l0 x11_1).f1).toList = ([] : List UInt8)
      ·rw [if_pos c13] at H
       have c13b0 := beq_iff_eq.mpr c13
       have c13b1 := bne_eq_false_iff_eq.mpr c13
       clear c13
       obtain rfl := Option.some.inj H
       have p137 : 0 ≤ (x11_1 : Int) := of_decide_eq_true (by assumption)
       have q137 : x11_1 < (l0.length : Int) := of_decide_eq_true (by assumption)
       obtain ⟨ad137, e137, hx137_0, hx137_1⟩ := at_T75 HR0.out x11_1 p137 q137
       cases e137
       replace hx137_0 := (HB.out.cell (World.block_lt_of_cell? w _ hx137_0)).trans hx137_0
       replace hx137_1 := (HB.out.cell (World.block_lt_of_cell? w _ hx137_1)).trans hx137_1
       replace p137 := eq_true p137
       replace q137 := eq_true q137
       go_wp2_with (((with_reducible refine gate_dst (N := 8) rfl ?_); refine box_event ?hg (N := 8) ?hd (cs := #[.int .i64 0, .string (⟨#[]⟩ : ByteArray)]) (t := 75) ?hr ?_; (case hd => rfl); (case hg => rfl); (case hr => (go_simp; done)); intro gb138 hg w14 hbox hb; have BK138 := aS_ (hbox); have GW138 := aS_ ((by rw [hg]; exact (bz_ (bel_ HB.out)) : w.heap.size ≤ gb138)); have GE138 := aS_ ((by rw [hg]; exact (bz_ (bel_ HB.out)) : w.heap.size ≤ gb138)); replace HB := aS_ (bt_ (bel_ HB.out) hb); clear hb hbox hg; obtain ⟨hcz15_0, hcz15_1, hfz15_0, hfz15_1⟩ := blk2 BK138.out))
       go_ret
       exact ⟨by rfl, by with_reducible repeat first | exact HB.out | refine bS_ ?_ GE138.out⟩
      ·rw [if_neg c13] at H
       have c13b0 := beq_eq_false_iff_ne.mpr c13
       have c13b1 := bne_iff_ne.mpr c13
       replace H := Option.bind_eq_some_iff.mp H
       obtain ⟨t139, A160, H⟩ := H
       have A16 := Aside0.mk A160
       clear A160
       by_cases c17 : t139 = true
       ·subst c17
        rw [if_pos rfl] at H
        have H' := Aside0.mk H
        clear H
        have p137 : 0 ≤ (x11_1 : Int) := of_decide_eq_true (by assumption)
        have q137 : x11_1 < (l0.length : Int) := of_decide_eq_true (by assumption)
        obtain ⟨ad137, e137, hx137_0, hx137_1⟩ := at_T75 HR0.out x11_1 p137 q137
        cases e137
        replace hx137_0 := (HB.out.cell (World.block_lt_of_cell? w _ hx137_0)).trans hx137_0
        replace hx137_1 := (HB.out.cell (World.block_lt_of_cell? w _ hx137_1)).trans hx137_1
        replace p137 := eq_true p137
        replace q137 := eq_true q137
        go_wp2_with (first | ((with_reducible refine gate_dst (N := 8) rfl ?_); refine box_event ?hg (N := 8) ?hd (cs := #[.int .i64 0, .string (⟨#[]⟩ : ByteArray)]) (t := 75) ?hr ?_; (case hd => rfl); (case hg => rfl); (case hr => (go_simp; done)); intro gb138 hg w18 hbox hb; have BK138 := aS_ (hbox); have GW138 := aS_ ((by rw [hg]; exact (bz_ (bel_ HB.out)) : w.heap.size ≤ gb138)); have GE138 := aS_ ((by rw [hg]; exact (bz_ (bel_ HB.out)) : w.heap.size ≤ gb138)); replace HB := aS_ (bt_ (bel_ HB.out) hb); clear hb hbox hg; obtain ⟨hcz19_0, hcz19_1, hfz19_0, hfz19_1⟩ := blk2 BK138.out) | (go_at_call 32; (with_reducible refine (spec_IsPatchPlain.calls k1 ((rd_T75 l0 x11_1).f1) a2 true _ A16.out).mono ?_); rintro e w' ⟨rfl, ⟨nd, rfl⟩⟩))
        go_roundg k1
        case measure => have := HK1.out; omega
        case rel => exact ⟨(wrap64 (x11_1 + 1)), (by rfl), H', ⟨by have := HK1.out; omega⟩, ⟨by with_reducible repeat first | exact HB.out | apply bN_ | refine bS_ ?_ GE138.out⟩⟩
       ·replace c17 := Bool.eq_false_iff.mpr c17
        subst c17
        rw [if_neg (show ¬ (false = true) by decide)] at H
        obtain rfl := Option.some.inj H
        have p137 : 0 ≤ (x11_1 : Int) := of_decide_eq_true (by assumption)
        have q137 : x11_1 < (l0.length : Int) := of_decide_eq_true (by assumption)
        obtain ⟨ad137, e137, hx137_0, hx137_1⟩ := at_T75 HR0.out x11_1 p137 q137
        cases e137
        replace hx137_0 := (HB.out.cell (World.block_lt_of_cell? w _ hx137_0)).trans hx137_0
        replace hx137_1 := (HB.out.cell (World.block_lt_of_cell? w _ hx137_1)).trans hx137_1
        replace p137 := eq_true p137
        replace q137 := eq_true q137
        go_wp2_with (first | ((with_reducible refine gate_dst (N := 8) rfl ?_); refine box_event ?hg (N := 8) ?hd (cs := #[.int .i64 0, .string (⟨#[]⟩ : ByteArray)]) (t := 75) ?hr ?_; (case hd => rfl); (case hg => rfl); (case hr => (go_simp; done)); intro gb138 hg w20 hbox hb; have BK138 := aS_ (hbox); have GW138 := aS_ ((by rw [hg]; exact (bz_ (bel_ HB.out)) : w.heap.size ≤ gb138)); have GE138 := aS_ ((by rw [hg]; exact (bz_ (bel_ HB.out)) : w.heap.size ≤ gb138)); replace HB := aS_ (bt_ (bel_ HB.out) hb); clear hb hbox hg; obtain ⟨hcz21_0, hcz21_1, hfz21_0, hfz21_1⟩ := blk2 BK138.out) | (go_at_call 32; (with_reducible refine (spec_IsPatchPlain.calls k1 ((rd_T75 l0 x11_1).f1) a2 false _ A16.out).mono ?_); rintro e w' ⟨rfl, ⟨nd, rfl⟩⟩))
        go_ret
        exact ⟨by rfl, by with_reducible repeat first | exact HB.out | apply bN_ | refine bS_ ?_ GE138.out⟩
   ·rw [if_neg c4] at H
    have c4b0 := decide_eq_false c4
    clear c4
    obtain rfl := Option.some.inj H
    go_wp2
    go_ret
    exact ⟨by rfl, bel_ HB.out⟩
def laws_arePatches.l0 : Nat → List (S33) → List (S42) → Int → Int → Option (Bool)
 | 0, _, _, _, _ => none
 | k + 1, x0, x6, x7, x8 => if x8 < x7 then (if 0 ≤ x8 then (if x8 < (x6.length : Int) then ((spec_IsPatchNumbers.f k ((rd_T42 x6 x8).f0) ((rd_T42 x6 x8).f1) ((rd_T42 x6 x8).f2) ((rd_T42 x6 x8).f3) ((rd_T42 x6 x8).f4)).bind fun t145 => (if t145 = true then (if (((rd_T42 x6 x8).f4).length : Int) = 0 then (some false) else ((spec_IsPatchDiffs.f k ((rd_T42 x6 x8).f4) 8 40).bind fun t146 => (if t146 = true then (laws_arePatches.l0 k x0 x6 x7 (wrap64 (x8 + 1))) else (some false)))) else (some false))) else (none)) else (none)) else (some (decide ((x0.length : Int) ≤ 8)))
def laws_arePatches.f (k : Nat) (l0 : List (S33)) : Option (Bool) := (laws_patchesOf.f k l0).bind fun t140 => (laws_arePatches.l0 k l0 t140 (t140.length : Int) 0)
theorem laws_arePatches.calls (k : Nat) (A0 : Option Addr) (c0 : Nat) (l0 : List (S33)) (r : Bool) (w : World) (hr0 : Kd.C k33 w A0 l0.length l0) (hc0 : l0.length ≤ c0) (h : laws_arePatches.f k l0 = some r) :
  Calls Tryz.prog 6 #[.slice A0 l0.length c0] w fun e w' => e = .returned (.bool r) ∧ Below w.heap.size w w' := by
 have hu42 := Tryz.underlying42
 have HR0 := Aside0.mk hr0
 have HC0 := Aside0.mk hc0
 clear hr0 hc0
 have HB := aS_ (Below.refl w.heap.size w)
 have H : ((laws_patchesOf.f k l0).bind fun t140 => (laws_arePatches.l0 k l0 t140 (t140.length : Int) 0)) = some r := h
 clear h
 replace H := Option.bind_eq_some_iff.mp H
 obtain ⟨t140, A20, H⟩ := H
 have A2 := Aside0.mk A20
 clear A20
 have H' := Aside0.mk H
 clear H
 go_enter Tryz.func6, Tryz.ntmps6
 go_wp2_with ((go_at_call 16; (with_reducible refine (laws_patchesOf.calls k _ _ l0 t140 _ ?side1 ?side2 A2.out).mono ?_); (case side1 => exact Kd.C_st HR0.out); (case side2 => exact HC0.out); rintro e w3 ⟨v141, rfl, ho0, hb⟩; have HO142 := aS_ (Kd.S_lower ho0 (bz_ (bel_ HB.out))); replace HB := aS_ (bt_ (bel_ HB.out) hb); obtain ⟨Ao4, co4, eo4⟩ := Kd.S_slice HO142.out; subst eo4))
 go_loopg [8] k (fun kq v8 w' => ∃ (x8_1 : Int), v8 = .int .i64 x8_1 ∧ Aside0 (laws_arePatches.l0 kq l0 t140 (t140.length : Int) x8_1 = some r) ∧ Aside0 (kq ≤ k) ∧ Aside0 (Kd.S k42 42 w' w.heap.size (fun _ => True) (.slice Ao4 t140.length co4) t140) ∧ Aside0 (Below w.heap.size w w'))
 case atStart => exact ⟨(0), (by rfl), H', ⟨Nat.le_refl _⟩, ⟨Kd.S_st HO142.out⟩, ⟨bel_ HB.out⟩⟩
 case round =>
  clear H'
  obtain ⟨x8_1, rfl, HA, HK1, HO_6, HB⟩ := hrel
  cases gk with
  | zero => exact absurd HA.out (by simp [laws_arePatches.l0])
  | succ k1 =>
   have H := HA.out; clear HA
   simp only [laws_arePatches.l0] at H
   by_cases c5 : x8_1 < (t140.length : Int)
   ·rw [if_pos c5] at H
    have c5b0 := decide_eq_true c5
    clear c5
    replace H := yes_ H; obtain ⟨c6, H⟩ := H
    have c6b0 := decide_eq_true c6
    clear c6
    replace H := yes_ H; obtain ⟨c7, H⟩ := H
    have c7b0 := decide_eq_true c7
    clear c7
    replace H := Option.bind_eq_some_iff.mp H
    obtain ⟨t145, A80, H⟩ := H
    have A8 := Aside0.mk A80
    clear A80
    by_cases c9 : t145 = true
    ·subst c9
     rw [if_pos rfl] at H
     by_cases c10 : (((rd_T42 t140 x8_1).f4).length : Int) = 0
     ·rw [if_pos c10] at H
      have c10b0 := beq_iff_eq.mpr c10
      have c10b1 := bne_eq_false_iff_eq.mpr c10
      clear c10
      obtain rfl := Option.some.inj H
      have p143 : 0 ≤ (x8_1 : Int) := of_decide_eq_true (by assumption)
      have q143 : x8_1 < (t140.length : Int) := of_decide_eq_true (by assumption)
      obtain ⟨ad143, A143_4, c143_4, e143, hx143_0, hx143_1, hx143_2, hx143_3, hx143_4, hl143_4, hi143_4⟩ := at_T42 (Kd.S_reads' HO_6.out).2.2 x8_1 p143 q143
      cases e143
      obtain ⟨ce143, hce143, hMe143, hcc143⟩ := Kd.S_get HO_6.out z42 x8_1 p143 (by exact q143)
      obtain ⟨ve143_4, rfl, ge143_4⟩ := k42_openM hMe143
      have hv143_4 := hcc143 4 _ rfl
      rw [add_field _ _ 4 (by omega)] at hv143_4
      replace hv143_4 := Option.some.inj (hv143_4.symm.trans hx143_4)
      rw [hv143_4] at ge143_4
      have HL143_4 := aS_ (show Kd.R k75 75 _ _ _ _ ((rd_T42 t140 x8_1).f4) from ge143_4)
      clear hv143_4 ge143_4
      clear hcc143 hce143
      have HR143_4 := Aside0.mk hi143_4
      have HC143_4 := Aside0.mk hl143_4
      clear hi143_4 hl143_4
      replace p143 := eq_true p143
      replace q143 := eq_true q143
      go_wp2_with (first | ((with_reducible refine gate_dst (N := 4) rfl ?_); (try (refine gate_guard (by rfl) ?_; dsimp only)); refine box_event ?hg (N := 4) ?hd (cs := #[.int .i64 0, .int .i64 0, .int .i64 0, .int .i64 0, .slice none 0 0]) (t := 42) ?hr ?_; (case hd => rfl); (case hg => rfl); (case hr => (go_simp; done)); intro gb144 hg w11 hbox hb; replace HO_6 := aS_ (Kd.S_below (Kd.S_elderB (Kd.S_st HO_6.out) gb144 (Nat.le_of_eq hg.symm)) hb); replace HL143_4 := aS_ (Kd.R_below (Kd.R_st HL143_4.out) hb); replace HR143_4 := aS_ (Kd.C_below (Kd.C_st HR143_4.out) hb); have BK144 := aS_ (hbox); have GW144 := aS_ ((by rw [hg]; exact (bz_ (bel_ HB.out)) : w.heap.size ≤ gb144)); have GE144 := aS_ ((by rw [hg]; exact (bz_ (bel_ HB.out)) : w.heap.size ≤ gb144)); replace HB := aS_ (bt_ (bel_ HB.out) hb); clear hb hbox hg; obtain ⟨hcz12_0, hcz12_1, hcz12_2, hcz12_3, hcz12_4, hfz12_0, hfz12_1, hfz12_2, hfz12_3, hfz12_4⟩ := blk5 BK144.out) | (go_at_call 17; (with_reducible refine (spec_IsPatchNumbers.calls k1 ((rd_T42 t140 x8_1).f0) ((rd_T42 t140 x8_1).f1) ((rd_T42 t140 x8_1).f2) ((rd_T42 t140 x8_1).f3) _ _ ((rd_T42 t140 x8_1).f4) true _ ?side1 ?side2 A8.out).mono ?_); (case side1 => repeat (exact ((Kd.R_reads' (by (with_reducible skip); exact (Kd.R_mono (Kd.R_far (p := ⟨gb144, 4, none⟩) (Kd.R_far (p := ⟨gb144, 3, none⟩) (Kd.R_far (p := ⟨gb144, 2, none⟩) (Kd.R_far (p := ⟨gb144, 1, none⟩) (Kd.R_far (p := ⟨gb144, 0, none⟩) (Kd.R_types HL143_4.out BK144.out (by decide)) (fun _ hk => hk.2) (.int .i64 ((rd_T42 t140 x8_1).f0))) (fun _ hk => hk.2) (.int .i64 ((rd_T42 t140 x8_1).f1))) (fun _ hk => hk.2) (.int .i64 ((rd_T42 t140 x8_1).f2))) (fun _ hk => hk.2) (.int .i64 ((rd_T42 t140 x8_1).f3))) (fun _ hk => hk.2) (.slice A143_4 ((rd_T42 t140 x8_1).f4).length c143_4)) (fun _ h_ => h_.1)))).2.2))); (case side2 => exact HC143_4.out); rintro e w13 ⟨rfl, hb⟩; replace HO_6 := aS_ (Kd.S_below (Kd.S_st ((Kd.S_mono (Kd.S_far (p := ⟨gb144, 4, none⟩) (Kd.S_far (p := ⟨gb144, 3, none⟩) (Kd.S_far (p := ⟨gb144, 2, none⟩) (Kd.S_far (p := ⟨gb144, 1, none⟩) (Kd.S_far (p := ⟨gb144, 0, none⟩) (Kd.S_mono HO_6.out (fun k_ hk => (⟨hk, hk.2⟩ : _ ∧ k_ ≠ gb144))) (fun _ hk => hk.2) (.int .i64 ((rd_T42 t140 x8_1).f0))) (fun _ hk => hk.2) (.int .i64 ((rd_T42 t140 x8_1).f1))) (fun _ hk => hk.2) (.int .i64 ((rd_T42 t140 x8_1).f2))) (fun _ hk => hk.2) (.int .i64 ((rd_T42 t140 x8_1).f3))) (fun _ hk => hk.2) (.slice A143_4 ((rd_T42 t140 x8_1).f4).length c143_4)) (fun _ h_ => h_.1)))) hb); replace HR143_4 := aS_ (Kd.C_below ((Kd.R_reads' (by (with_reducible skip); exact (Kd.R_mono (Kd.R_far (p := ⟨gb144, 4, none⟩) (Kd.R_far (p := ⟨gb144, 3, none⟩) (Kd.R_far (p := ⟨gb144, 2, none⟩) (Kd.R_far (p := ⟨gb144, 1, none⟩) (Kd.R_far (p := ⟨gb144, 0, none⟩) (Kd.R_types HL143_4.out BK144.out (by decide)) (fun _ hk => hk.2) (.int .i64 ((rd_T42 t140 x8_1).f0))) (fun _ hk => hk.2) (.int .i64 ((rd_T42 t140 x8_1).f1))) (fun _ hk => hk.2) (.int .i64 ((rd_T42 t140 x8_1).f2))) (fun _ hk => hk.2) (.int .i64 ((rd_T42 t140 x8_1).f3))) (fun _ hk => hk.2) (.slice A143_4 ((rd_T42 t140 x8_1).f4).length c143_4)) (fun _ h_ => h_.1)))).2.2) hb); replace HL143_4 := aS_ (Kd.R_below (Kd.R_st ((Kd.R_mono (Kd.R_far (p := ⟨gb144, 4, none⟩) (Kd.R_far (p := ⟨gb144, 3, none⟩) (Kd.R_far (p := ⟨gb144, 2, none⟩) (Kd.R_far (p := ⟨gb144, 1, none⟩) (Kd.R_far (p := ⟨gb144, 0, none⟩) (Kd.R_types HL143_4.out BK144.out (by decide)) (fun _ hk => hk.2) (.int .i64 ((rd_T42 t140 x8_1).f0))) (fun _ hk => hk.2) (.int .i64 ((rd_T42 t140 x8_1).f1))) (fun _ hk => hk.2) (.int .i64 ((rd_T42 t140 x8_1).f2))) (fun _ hk => hk.2) (.int .i64 ((rd_T42 t140 x8_1).f3))) (fun _ hk => hk.2) (.slice A143_4 ((rd_T42 t140 x8_1).f4).length c143_4)) (fun _ h_ => h_.1)))) hb); replace BK144 := aS_ (blk_below (g := gb144) (o := .cells #[.int .i64 ((rd_T42 t140 x8_1).f0), .int .i64 ((rd_T42 t140 x8_1).f1), .int .i64 ((rd_T42 t140 x8_1).f2), .int .i64 ((rd_T42 t140 x8_1).f3), .slice A143_4 ((rd_T42 t140 x8_1).f4).length c143_4] 42 (0, 0)) (by (with_reducible skip); refine blk_put (cs := #[.int .i64 ((rd_T42 t140 x8_1).f0), .int .i64 ((rd_T42 t140 x8_1).f1), .int .i64 ((rd_T42 t140 x8_1).f2), .int .i64 ((rd_T42 t140 x8_1).f3), .slice none 0 0]) ?_ 4 _ rfl; (with_reducible skip); refine blk_put (cs := #[.int .i64 ((rd_T42 t140 x8_1).f0), .int .i64 ((rd_T42 t140 x8_1).f1), .int .i64 ((rd_T42 t140 x8_1).f2), .int .i64 0, .slice none 0 0]) ?_ 3 _ rfl; (with_reducible skip); refine blk_put (cs := #[.int .i64 ((rd_T42 t140 x8_1).f0), .int .i64 ((rd_T42 t140 x8_1).f1), .int .i64 0, .int .i64 0, .slice none 0 0]) ?_ 2 _ rfl; (with_reducible skip); refine blk_put (cs := #[.int .i64 ((rd_T42 t140 x8_1).f0), .int .i64 0, .int .i64 0, .int .i64 0, .slice none 0 0]) ?_ 1 _ rfl; (with_reducible skip); refine blk_put (cs := #[.int .i64 0, .int .i64 0, .int .i64 0, .int .i64 0, .slice none 0 0]) ?_ 0 _ rfl; (with_reducible skip); exact BK144.out) hb); replace HB := aS_ (bt_ (by with_reducible repeat first | exact HB.out | refine bS_ ?_ GE144.out) hb); obtain ⟨hcz14_0, hcz14_1, hcz14_2, hcz14_3, hcz14_4, hfz14_0, hfz14_1, hfz14_2, hfz14_3, hfz14_4⟩ := blk5 BK144.out))
      go_ret
      exact ⟨by rfl, by with_reducible repeat exact HB.out⟩
     ·rw [if_neg c10] at H
      have c10b0 := beq_eq_false_iff_ne.mpr c10
      have c10b1 := bne_iff_ne.mpr c10
      have c10b2 : ¬ (((rd_T42 t140 x8_1).f4) = []) := fun h_ => c10 (by rw [h_]; rfl)
      replace H := Option.bind_eq_some_iff.mp H
      obtain ⟨t146, A150, H⟩ := H
      have A15 := Aside0.mk A150
      clear A150
      by_cases c16 : t146 = true
      ·subst c16
       rw [if_pos rfl] at H
       have H' := Aside0.mk H
       clear H
       have p143 : 0 ≤ (x8_1 : Int) := of_decide_eq_true (by assumption)
       have q143 : x8_1 < (t140.length : Int) := of_decide_eq_true (by assumption)
       obtain ⟨ad143, A143_4, c143_4, e143, hx143_0, hx143_1, hx143_2, hx143_3, hx143_4, hl143_4, hi143_4⟩ := at_T42 (Kd.S_reads' HO_6.out).2.2 x8_1 p143 q143
       cases e143
       obtain ⟨ce143, hce143, hMe143, hcc143⟩ := Kd.S_get HO_6.out z42 x8_1 p143 (by exact q143)
       obtain ⟨ve143_4, rfl, ge143_4⟩ := k42_openM hMe143
       have hv143_4 := hcc143 4 _ rfl
       rw [add_field _ _ 4 (by omega)] at hv143_4
       replace hv143_4 := Option.some.inj (hv143_4.symm.trans hx143_4)
       rw [hv143_4] at ge143_4
       have HL143_4 := aS_ (show Kd.R k75 75 _ _ _ _ ((rd_T42 t140 x8_1).f4) from ge143_4)
       clear hv143_4 ge143_4
       clear hcc143 hce143
       have HR143_4 := Aside0.mk hi143_4
       have HC143_4 := Aside0.mk hl143_4
       clear hi143_4 hl143_4
       replace p143 := eq_true p143
       replace q143 := eq_true q143
       go_wp2_with (first | ((with_reducible refine gate_dst (N := 4) rfl ?_); (try (refine gate_guard (by rfl) ?_; dsimp only)); refine box_event ?hg (N := 4) ?hd (cs := #[.int .i64 0, .int .i64 0, .int .i64 0, .int .i64 0, .slice none 0 0]) (t := 42) ?hr ?_; (case hd => rfl); (case hg => rfl); (case hr => (go_simp; done)); intro gb144 hg w17 hbox hb; replace HO_6 := aS_ (Kd.S_below (Kd.S_elderB (Kd.S_st HO_6.out) gb144 (Nat.le_of_eq hg.symm)) hb); replace HL143_4 := aS_ (Kd.R_below (Kd.R_st HL143_4.out) hb); replace HR143_4 := aS_ (Kd.C_below (Kd.C_st HR143_4.out) hb); have BK144 := aS_ (hbox); have GW144 := aS_ ((by rw [hg]; exact (bz_ (bel_ HB.out)) : w.heap.size ≤ gb144)); have GE144 := aS_ ((by rw [hg]; exact (bz_ (bel_ HB.out)) : w.heap.size ≤ gb144)); replace HB := aS_ (bt_ (bel_ HB.out) hb); clear hb hbox hg; obtain ⟨hcz18_0, hcz18_1, hcz18_2, hcz18_3, hcz18_4, hfz18_0, hfz18_1, hfz18_2, hfz18_3, hfz18_4⟩ := blk5 BK144.out) | (go_at_call 17; (with_reducible refine (spec_IsPatchNumbers.calls k1 ((rd_T42 t140 x8_1).f0) ((rd_T42 t140 x8_1).f1) ((rd_T42 t140 x8_1).f2) ((rd_T42 t140 x8_1).f3) _ _ ((rd_T42 t140 x8_1).f4) true _ ?side1 ?side2 A8.out).mono ?_); (case side1 => repeat (exact ((Kd.R_reads' (by (with_reducible skip); exact (Kd.R_mono (Kd.R_far (p := ⟨gb144, 4, none⟩) (Kd.R_far (p := ⟨gb144, 3, none⟩) (Kd.R_far (p := ⟨gb144, 2, none⟩) (Kd.R_far (p := ⟨gb144, 1, none⟩) (Kd.R_far (p := ⟨gb144, 0, none⟩) (Kd.R_types HL143_4.out BK144.out (by decide)) (fun _ hk => hk.2) (.int .i64 ((rd_T42 t140 x8_1).f0))) (fun _ hk => hk.2) (.int .i64 ((rd_T42 t140 x8_1).f1))) (fun _ hk => hk.2) (.int .i64 ((rd_T42 t140 x8_1).f2))) (fun _ hk => hk.2) (.int .i64 ((rd_T42 t140 x8_1).f3))) (fun _ hk => hk.2) (.slice A143_4 ((rd_T42 t140 x8_1).f4).length c143_4)) (fun _ h_ => h_.1)))).2.2))); (case side2 => exact HC143_4.out); rintro e w19 ⟨rfl, hb⟩; replace HO_6 := aS_ (Kd.S_below (Kd.S_st ((Kd.S_mono (Kd.S_far (p := ⟨gb144, 4, none⟩) (Kd.S_far (p := ⟨gb144, 3, none⟩) (Kd.S_far (p := ⟨gb144, 2, none⟩) (Kd.S_far (p := ⟨gb144, 1, none⟩) (Kd.S_far (p := ⟨gb144, 0, none⟩) (Kd.S_mono HO_6.out (fun k_ hk => (⟨hk, hk.2⟩ : _ ∧ k_ ≠ gb144))) (fun _ hk => hk.2) (.int .i64 ((rd_T42 t140 x8_1).f0))) (fun _ hk => hk.2) (.int .i64 ((rd_T42 t140 x8_1).f1))) (fun _ hk => hk.2) (.int .i64 ((rd_T42 t140 x8_1).f2))) (fun _ hk => hk.2) (.int .i64 ((rd_T42 t140 x8_1).f3))) (fun _ hk => hk.2) (.slice A143_4 ((rd_T42 t140 x8_1).f4).length c143_4)) (fun _ h_ => h_.1)))) hb); replace HR143_4 := aS_ (Kd.C_below ((Kd.R_reads' (by (with_reducible skip); exact (Kd.R_mono (Kd.R_far (p := ⟨gb144, 4, none⟩) (Kd.R_far (p := ⟨gb144, 3, none⟩) (Kd.R_far (p := ⟨gb144, 2, none⟩) (Kd.R_far (p := ⟨gb144, 1, none⟩) (Kd.R_far (p := ⟨gb144, 0, none⟩) (Kd.R_types HL143_4.out BK144.out (by decide)) (fun _ hk => hk.2) (.int .i64 ((rd_T42 t140 x8_1).f0))) (fun _ hk => hk.2) (.int .i64 ((rd_T42 t140 x8_1).f1))) (fun _ hk => hk.2) (.int .i64 ((rd_T42 t140 x8_1).f2))) (fun _ hk => hk.2) (.int .i64 ((rd_T42 t140 x8_1).f3))) (fun _ hk => hk.2) (.slice A143_4 ((rd_T42 t140 x8_1).f4).length c143_4)) (fun _ h_ => h_.1)))).2.2) hb); replace HL143_4 := aS_ (Kd.R_below (Kd.R_st ((Kd.R_mono (Kd.R_far (p := ⟨gb144, 4, none⟩) (Kd.R_far (p := ⟨gb144, 3, none⟩) (Kd.R_far (p := ⟨gb144, 2, none⟩) (Kd.R_far (p := ⟨gb144, 1, none⟩) (Kd.R_far (p := ⟨gb144, 0, none⟩) (Kd.R_types HL143_4.out BK144.out (by decide)) (fun _ hk => hk.2) (.int .i64 ((rd_T42 t140 x8_1).f0))) (fun _ hk => hk.2) (.int .i64 ((rd_T42 t140 x8_1).f1))) (fun _ hk => hk.2) (.int .i64 ((rd_T42 t140 x8_1).f2))) (fun _ hk => hk.2) (.int .i64 ((rd_T42 t140 x8_1).f3))) (fun _ hk => hk.2) (.slice A143_4 ((rd_T42 t140 x8_1).f4).length c143_4)) (fun _ h_ => h_.1)))) hb); replace BK144 := aS_ (blk_below (g := gb144) (o := .cells #[.int .i64 ((rd_T42 t140 x8_1).f0), .int .i64 ((rd_T42 t140 x8_1).f1), .int .i64 ((rd_T42 t140 x8_1).f2), .int .i64 ((rd_T42 t140 x8_1).f3), .slice A143_4 ((rd_T42 t140 x8_1).f4).length c143_4] 42 (0, 0)) (by (with_reducible skip); refine blk_put (cs := #[.int .i64 ((rd_T42 t140 x8_1).f0), .int .i64 ((rd_T42 t140 x8_1).f1), .int .i64 ((rd_T42 t140 x8_1).f2), .int .i64 ((rd_T42 t140 x8_1).f3), .slice none 0 0]) ?_ 4 _ rfl; (with_reducible skip); refine blk_put (cs := #[.int .i64 ((rd_T42 t140 x8_1).f0), .int .i64 ((rd_T42 t140 x8_1).f1), .int .i64 ((rd_T42 t140 x8_1).f2), .int .i64 0, .slice none 0 0]) ?_ 3 _ rfl; (with_reducible skip); refine blk_put (cs := #[.int .i64 ((rd_T42 t140 x8_1).f0), .int .i64 ((rd_T42 t140 x8_1).f1), .int .i64 0, .int .i64 0, .slice none 0 0]) ?_ 2 _ rfl; (with_reducible skip); refine blk_put (cs := #[.int .i64 ((rd_T42 t140 x8_1).f0), .int .i64 0, .int .i64 0, .int .i64 0, .slice none 0 0]) ?_ 1 _ rfl; (with_reducible skip); refine blk_put (cs := #[.int .i64 0, .int .i64 0, .int .i64 0, .int .i64 0, .slice none 0 0]) ?_ 0 _ rfl; (with_reducible skip); exact BK144.out) hb); replace HB := aS_ (bt_ (by with_reducible repeat first | exact HB.out | refine bS_ ?_ GE144.out) hb); obtain ⟨hcz20_0, hcz20_1, hcz20_2, hcz20_3, hcz20_4, hfz20_0, hfz20_1, hfz20_2, hfz20_3, hfz20_4⟩ := blk5 BK144.out) | (go_at_call 18; (with_reducible refine (spec_IsPatchDiffs.calls k1 _ _ ((rd_T42 t140 x8_1).f4) 8 40 true _ ?side1 ?side2 A15.out).mono ?_); (case side1 => repeat (exact (Kd.C_st HR143_4.out))); (case side2 => exact HC143_4.out); rintro e w21 ⟨rfl, hb⟩; replace HO_6 := aS_ (Kd.S_below (Kd.S_st HO_6.out) hb); replace HL143_4 := aS_ (Kd.R_below (Kd.R_st HL143_4.out) hb); replace HR143_4 := aS_ (Kd.C_below (Kd.C_st HR143_4.out) hb); replace BK144 := aS_ (blk_below (g := gb144) (o := .cells #[.int .i64 ((rd_T42 t140 x8_1).f0), .int .i64 ((rd_T42 t140 x8_1).f1), .int .i64 ((rd_T42 t140 x8_1).f2), .int .i64 ((rd_T42 t140 x8_1).f3), .slice A143_4 ((rd_T42 t140 x8_1).f4).length c143_4] 42 (0, 0)) (blk_st BK144.out) hb); replace HB := aS_ (bt_ (by with_reducible repeat exact HB.out) hb)))
       go_roundg k1
       case measure => have := HK1.out; omega
       case rel => exact ⟨(wrap64 (x8_1 + 1)), (by rfl), H', ⟨by have := HK1.out; omega⟩, ⟨Kd.S_st (Kd.S_mono HO_6.out (fun _ hk => trivial))⟩, ⟨by with_reducible repeat exact HB.out⟩⟩
      ·replace c16 := Bool.eq_false_iff.mpr c16
       subst c16
       rw [if_neg (show ¬ (false = true) by decide)] at H
       obtain rfl := Option.some.inj H
       have p143 : 0 ≤ (x8_1 : Int) := of_decide_eq_true (by assumption)
       have q143 : x8_1 < (t140.length : Int) := of_decide_eq_true (by assumption)
       obtain ⟨ad143, A143_4, c143_4, e143, hx143_0, hx143_1, hx143_2, hx143_3, hx143_4, hl143_4, hi143_4⟩ := at_T42 (Kd.S_reads' HO_6.out).2.2 x8_1 p143 q143
       cases e143
       obtain ⟨ce143, hce143, hMe143, hcc143⟩ := Kd.S_get HO_6.out z42 x8_1 p143 (by exact q143)
       obtain ⟨ve143_4, rfl, ge143_4⟩ := k42_openM hMe143
       have hv143_4 := hcc143 4 _ rfl
       rw [add_field _ _ 4 (by omega)] at hv143_4
       replace hv143_4 := Option.some.inj (hv143_4.symm.trans hx143_4)
       rw [hv143_4] at ge143_4
       have HL143_4 := aS_ (show Kd.R k75 75 _ _ _ _ ((rd_T42 t140 x8_1).f4) from ge143_4)
       clear hv143_4 ge143_4
       clear hcc143 hce143
       have HR143_4 := Aside0.mk hi143_4
       have HC143_4 := Aside0.mk hl143_4
       clear hi143_4 hl143_4
       replace p143 := eq_true p143
       replace q143 := eq_true q143
       go_wp2_with (first | ((with_reducible refine gate_dst (N := 4) rfl ?_); (try (refine gate_guard (by rfl) ?_; dsimp only)); refine box_event ?hg (N := 4) ?hd (cs := #[.int .i64 0, .int .i64 0, .int .i64 0, .int .i64 0, .slice none 0 0]) (t := 42) ?hr ?_; (case hd => rfl); (case hg => rfl); (case hr => (go_simp; done)); intro gb144 hg w22 hbox hb; replace HO_6 := aS_ (Kd.S_below (Kd.S_elderB (Kd.S_st HO_6.out) gb144 (Nat.le_of_eq hg.symm)) hb); replace HL143_4 := aS_ (Kd.R_below (Kd.R_st HL143_4.out) hb); replace HR143_4 := aS_ (Kd.C_below (Kd.C_st HR143_4.out) hb); have BK144 := aS_ (hbox); have GW144 := aS_ ((by rw [hg]; exact (bz_ (bel_ HB.out)) : w.heap.size ≤ gb144)); have GE144 := aS_ ((by rw [hg]; exact (bz_ (bel_ HB.out)) : w.heap.size ≤ gb144)); replace HB := aS_ (bt_ (bel_ HB.out) hb); clear hb hbox hg; obtain ⟨hcz23_0, hcz23_1, hcz23_2, hcz23_3, hcz23_4, hfz23_0, hfz23_1, hfz23_2, hfz23_3, hfz23_4⟩ := blk5 BK144.out) | (go_at_call 17; (with_reducible refine (spec_IsPatchNumbers.calls k1 ((rd_T42 t140 x8_1).f0) ((rd_T42 t140 x8_1).f1) ((rd_T42 t140 x8_1).f2) ((rd_T42 t140 x8_1).f3) _ _ ((rd_T42 t140 x8_1).f4) true _ ?side1 ?side2 A8.out).mono ?_); (case side1 => repeat (exact ((Kd.R_reads' (by (with_reducible skip); exact (Kd.R_mono (Kd.R_far (p := ⟨gb144, 4, none⟩) (Kd.R_far (p := ⟨gb144, 3, none⟩) (Kd.R_far (p := ⟨gb144, 2, none⟩) (Kd.R_far (p := ⟨gb144, 1, none⟩) (Kd.R_far (p := ⟨gb144, 0, none⟩) (Kd.R_types HL143_4.out BK144.out (by decide)) (fun _ hk => hk.2) (.int .i64 ((rd_T42 t140 x8_1).f0))) (fun _ hk => hk.2) (.int .i64 ((rd_T42 t140 x8_1).f1))) (fun _ hk => hk.2) (.int .i64 ((rd_T42 t140 x8_1).f2))) (fun _ hk => hk.2) (.int .i64 ((rd_T42 t140 x8_1).f3))) (fun _ hk => hk.2) (.slice A143_4 ((rd_T42 t140 x8_1).f4).length c143_4)) (fun _ h_ => h_.1)))).2.2))); (case side2 => exact HC143_4.out); rintro e w24 ⟨rfl, hb⟩; replace HO_6 := aS_ (Kd.S_below (Kd.S_st ((Kd.S_mono (Kd.S_far (p := ⟨gb144, 4, none⟩) (Kd.S_far (p := ⟨gb144, 3, none⟩) (Kd.S_far (p := ⟨gb144, 2, none⟩) (Kd.S_far (p := ⟨gb144, 1, none⟩) (Kd.S_far (p := ⟨gb144, 0, none⟩) (Kd.S_mono HO_6.out (fun k_ hk => (⟨hk, hk.2⟩ : _ ∧ k_ ≠ gb144))) (fun _ hk => hk.2) (.int .i64 ((rd_T42 t140 x8_1).f0))) (fun _ hk => hk.2) (.int .i64 ((rd_T42 t140 x8_1).f1))) (fun _ hk => hk.2) (.int .i64 ((rd_T42 t140 x8_1).f2))) (fun _ hk => hk.2) (.int .i64 ((rd_T42 t140 x8_1).f3))) (fun _ hk => hk.2) (.slice A143_4 ((rd_T42 t140 x8_1).f4).length c143_4)) (fun _ h_ => h_.1)))) hb); replace HR143_4 := aS_ (Kd.C_below ((Kd.R_reads' (by (with_reducible skip); exact (Kd.R_mono (Kd.R_far (p := ⟨gb144, 4, none⟩) (Kd.R_far (p := ⟨gb144, 3, none⟩) (Kd.R_far (p := ⟨gb144, 2, none⟩) (Kd.R_far (p := ⟨gb144, 1, none⟩) (Kd.R_far (p := ⟨gb144, 0, none⟩) (Kd.R_types HL143_4.out BK144.out (by decide)) (fun _ hk => hk.2) (.int .i64 ((rd_T42 t140 x8_1).f0))) (fun _ hk => hk.2) (.int .i64 ((rd_T42 t140 x8_1).f1))) (fun _ hk => hk.2) (.int .i64 ((rd_T42 t140 x8_1).f2))) (fun _ hk => hk.2) (.int .i64 ((rd_T42 t140 x8_1).f3))) (fun _ hk => hk.2) (.slice A143_4 ((rd_T42 t140 x8_1).f4).length c143_4)) (fun _ h_ => h_.1)))).2.2) hb); replace HL143_4 := aS_ (Kd.R_below (Kd.R_st ((Kd.R_mono (Kd.R_far (p := ⟨gb144, 4, none⟩) (Kd.R_far (p := ⟨gb144, 3, none⟩) (Kd.R_far (p := ⟨gb144, 2, none⟩) (Kd.R_far (p := ⟨gb144, 1, none⟩) (Kd.R_far (p := ⟨gb144, 0, none⟩) (Kd.R_types HL143_4.out BK144.out (by decide)) (fun _ hk => hk.2) (.int .i64 ((rd_T42 t140 x8_1).f0))) (fun _ hk => hk.2) (.int .i64 ((rd_T42 t140 x8_1).f1))) (fun _ hk => hk.2) (.int .i64 ((rd_T42 t140 x8_1).f2))) (fun _ hk => hk.2) (.int .i64 ((rd_T42 t140 x8_1).f3))) (fun _ hk => hk.2) (.slice A143_4 ((rd_T42 t140 x8_1).f4).length c143_4)) (fun _ h_ => h_.1)))) hb); replace BK144 := aS_ (blk_below (g := gb144) (o := .cells #[.int .i64 ((rd_T42 t140 x8_1).f0), .int .i64 ((rd_T42 t140 x8_1).f1), .int .i64 ((rd_T42 t140 x8_1).f2), .int .i64 ((rd_T42 t140 x8_1).f3), .slice A143_4 ((rd_T42 t140 x8_1).f4).length c143_4] 42 (0, 0)) (by (with_reducible skip); refine blk_put (cs := #[.int .i64 ((rd_T42 t140 x8_1).f0), .int .i64 ((rd_T42 t140 x8_1).f1), .int .i64 ((rd_T42 t140 x8_1).f2), .int .i64 ((rd_T42 t140 x8_1).f3), .slice none 0 0]) ?_ 4 _ rfl; (with_reducible skip); refine blk_put (cs := #[.int .i64 ((rd_T42 t140 x8_1).f0), .int .i64 ((rd_T42 t140 x8_1).f1), .int .i64 ((rd_T42 t140 x8_1).f2), .int .i64 0, .slice none 0 0]) ?_ 3 _ rfl; (with_reducible skip); refine blk_put (cs := #[.int .i64 ((rd_T42 t140 x8_1).f0), .int .i64 ((rd_T42 t140 x8_1).f1), .int .i64 0, .int .i64 0, .slice none 0 0]) ?_ 2 _ rfl; (with_reducible skip); refine blk_put (cs := #[.int .i64 ((rd_T42 t140 x8_1).f0), .int .i64 0, .int .i64 0, .int .i64 0, .slice none 0 0]) ?_ 1 _ rfl; (with_reducible skip); refine blk_put (cs := #[.int .i64 0, .int .i64 0, .int .i64 0, .int .i64 0, .slice none 0 0]) ?_ 0 _ rfl; (with_reducible skip); exact BK144.out) hb); replace HB := aS_ (bt_ (by with_reducible repeat first | exact HB.out | refine bS_ ?_ GE144.out) hb); obtain ⟨hcz25_0, hcz25_1, hcz25_2, hcz25_3, hcz25_4, hfz25_0, hfz25_1, hfz25_2, hfz25_3, hfz25_4⟩ := blk5 BK144.out) | (go_at_call 18; (with_reducible refine (spec_IsPatchDiffs.calls k1 _ _ ((rd_T42 t140 x8_1).f4) 8 40 false _ ?side1 ?side2 A15.out).mono ?_); (case side1 => repeat (exact (Kd.C_st HR143_4.out))); (case side2 => exact HC143_4.out); rintro e w26 ⟨rfl, hb⟩; replace HO_6 := aS_ (Kd.S_below (Kd.S_st HO_6.out) hb); replace HL143_4 := aS_ (Kd.R_below (Kd.R_st HL143_4.out) hb); replace HR143_4 := aS_ (Kd.C_below (Kd.C_st HR143_4.out) hb); replace BK144 := aS_ (blk_below (g := gb144) (o := .cells #[.int .i64 ((rd_T42 t140 x8_1).f0), .int .i64 ((rd_T42 t140 x8_1).f1), .int .i64 ((rd_T42 t140 x8_1).f2), .int .i64 ((rd_T42 t140 x8_1).f3), .slice A143_4 ((rd_T42 t140 x8_1).f4).length c143_4] 42 (0, 0)) (blk_st BK144.out) hb); replace HB := aS_ (bt_ (by with_reducible repeat exact HB.out) hb)))
       go_ret
       exact ⟨by rfl, by with_reducible repeat exact HB.out⟩
    ·replace c9 := Bool.eq_false_iff.mpr c9
     subst c9
     rw [if_neg (show ¬ (false = true) by decide)] at H
     obtain rfl := Option.some.inj H
     have p143 : 0 ≤ (x8_1 : Int) := of_decide_eq_true (by assumption)
     have q143 : x8_1 < (t140.length : Int) := of_decide_eq_true (by assumption)
     obtain ⟨ad143, A143_4, c143_4, e143, hx143_0, hx143_1, hx143_2, hx143_3, hx143_4, hl143_4, hi143_4⟩ := at_T42 (Kd.S_reads' HO_6.out).2.2 x8_1 p143 q143
     cases e143
     obtain ⟨ce143, hce143, hMe143, hcc143⟩ := Kd.S_get HO_6.out z42 x8_1 p143 (by exact q143)
     obtain ⟨ve143_4, rfl, ge143_4⟩ := k42_openM hMe143
     have hv143_4 := hcc143 4 _ rfl
     rw [add_field _ _ 4 (by omega)] at hv143_4
     replace hv143_4 := Option.some.inj (hv143_4.symm.trans hx143_4)
     rw [hv143_4] at ge143_4
     have HL143_4 := aS_ (show Kd.R k75 75 _ _ _ _ ((rd_T42 t140 x8_1).f4) from ge143_4)
     clear hv143_4 ge143_4
     clear hcc143 hce143
     have HR143_4 := Aside0.mk hi143_4
     have HC143_4 := Aside0.mk hl143_4
     clear hi143_4 hl143_4
     replace p143 := eq_true p143
     replace q143 := eq_true q143
     go_wp2_with (first | ((with_reducible refine gate_dst (N := 4) rfl ?_); (try (refine gate_guard (by rfl) ?_; dsimp only)); refine box_event ?hg (N := 4) ?hd (cs := #[.int .i64 0, .int .i64 0, .int .i64 0, .int .i64 0, .slice none 0 0]) (t := 42) ?hr ?_; (case hd => rfl); (case hg => rfl); (case hr => (go_simp; done)); intro gb144 hg w27 hbox hb; replace HO_6 := aS_ (Kd.S_below (Kd.S_elderB (Kd.S_st HO_6.out) gb144 (Nat.le_of_eq hg.symm)) hb); replace HL143_4 := aS_ (Kd.R_below (Kd.R_st HL143_4.out) hb); replace HR143_4 := aS_ (Kd.C_below (Kd.C_st HR143_4.out) hb); have BK144 := aS_ (hbox); have GW144 := aS_ ((by rw [hg]; exact (bz_ (bel_ HB.out)) : w.heap.size ≤ gb144)); have GE144 := aS_ ((by rw [hg]; exact (bz_ (bel_ HB.out)) : w.heap.size ≤ gb144)); replace HB := aS_ (bt_ (bel_ HB.out) hb); clear hb hbox hg; obtain ⟨hcz28_0, hcz28_1, hcz28_2, hcz28_3, hcz28_4, hfz28_0, hfz28_1, hfz28_2, hfz28_3, hfz28_4⟩ := blk5 BK144.out) | (go_at_call 17; (with_reducible refine (spec_IsPatchNumbers.calls k1 ((rd_T42 t140 x8_1).f0) ((rd_T42 t140 x8_1).f1) ((rd_T42 t140 x8_1).f2) ((rd_T42 t140 x8_1).f3) _ _ ((rd_T42 t140 x8_1).f4) false _ ?side1 ?side2 A8.out).mono ?_); (case side1 => repeat (exact ((Kd.R_reads' (by (with_reducible skip); exact (Kd.R_mono (Kd.R_far (p := ⟨gb144, 4, none⟩) (Kd.R_far (p := ⟨gb144, 3, none⟩) (Kd.R_far (p := ⟨gb144, 2, none⟩) (Kd.R_far (p := ⟨gb144, 1, none⟩) (Kd.R_far (p := ⟨gb144, 0, none⟩) (Kd.R_types HL143_4.out BK144.out (by decide)) (fun _ hk => hk.2) (.int .i64 ((rd_T42 t140 x8_1).f0))) (fun _ hk => hk.2) (.int .i64 ((rd_T42 t140 x8_1).f1))) (fun _ hk => hk.2) (.int .i64 ((rd_T42 t140 x8_1).f2))) (fun _ hk => hk.2) (.int .i64 ((rd_T42 t140 x8_1).f3))) (fun _ hk => hk.2) (.slice A143_4 ((rd_T42 t140 x8_1).f4).length c143_4)) (fun _ h_ => h_.1)))).2.2))); (case side2 => exact HC143_4.out); rintro e w29 ⟨rfl, hb⟩; replace HO_6 := aS_ (Kd.S_below (Kd.S_st ((Kd.S_mono (Kd.S_far (p := ⟨gb144, 4, none⟩) (Kd.S_far (p := ⟨gb144, 3, none⟩) (Kd.S_far (p := ⟨gb144, 2, none⟩) (Kd.S_far (p := ⟨gb144, 1, none⟩) (Kd.S_far (p := ⟨gb144, 0, none⟩) (Kd.S_mono HO_6.out (fun k_ hk => (⟨hk, hk.2⟩ : _ ∧ k_ ≠ gb144))) (fun _ hk => hk.2) (.int .i64 ((rd_T42 t140 x8_1).f0))) (fun _ hk => hk.2) (.int .i64 ((rd_T42 t140 x8_1).f1))) (fun _ hk => hk.2) (.int .i64 ((rd_T42 t140 x8_1).f2))) (fun _ hk => hk.2) (.int .i64 ((rd_T42 t140 x8_1).f3))) (fun _ hk => hk.2) (.slice A143_4 ((rd_T42 t140 x8_1).f4).length c143_4)) (fun _ h_ => h_.1)))) hb); replace HR143_4 := aS_ (Kd.C_below ((Kd.R_reads' (by (with_reducible skip); exact (Kd.R_mono (Kd.R_far (p := ⟨gb144, 4, none⟩) (Kd.R_far (p := ⟨gb144, 3, none⟩) (Kd.R_far (p := ⟨gb144, 2, none⟩) (Kd.R_far (p := ⟨gb144, 1, none⟩) (Kd.R_far (p := ⟨gb144, 0, none⟩) (Kd.R_types HL143_4.out BK144.out (by decide)) (fun _ hk => hk.2) (.int .i64 ((rd_T42 t140 x8_1).f0))) (fun _ hk => hk.2) (.int .i64 ((rd_T42 t140 x8_1).f1))) (fun _ hk => hk.2) (.int .i64 ((rd_T42 t140 x8_1).f2))) (fun _ hk => hk.2) (.int .i64 ((rd_T42 t140 x8_1).f3))) (fun _ hk => hk.2) (.slice A143_4 ((rd_T42 t140 x8_1).f4).length c143_4)) (fun _ h_ => h_.1)))).2.2) hb); replace HL143_4 := aS_ (Kd.R_below (Kd.R_st ((Kd.R_mono (Kd.R_far (p := ⟨gb144, 4, none⟩) (Kd.R_far (p := ⟨gb144, 3, none⟩) (Kd.R_far (p := ⟨gb144, 2, none⟩) (Kd.R_far (p := ⟨gb144, 1, none⟩) (Kd.R_far (p := ⟨gb144, 0, none⟩) (Kd.R_types HL143_4.out BK144.out (by decide)) (fun _ hk => hk.2) (.int .i64 ((rd_T42 t140 x8_1).f0))) (fun _ hk => hk.2) (.int .i64 ((rd_T42 t140 x8_1).f1))) (fun _ hk => hk.2) (.int .i64 ((rd_T42 t140 x8_1).f2))) (fun _ hk => hk.2) (.int .i64 ((rd_T42 t140 x8_1).f3))) (fun _ hk => hk.2) (.slice A143_4 ((rd_T42 t140 x8_1).f4).length c143_4)) (fun _ h_ => h_.1)))) hb); replace BK144 := aS_ (blk_below (g := gb144) (o := .cells #[.int .i64 ((rd_T42 t140 x8_1).f0), .int .i64 ((rd_T42 t140 x8_1).f1), .int .i64 ((rd_T42 t140 x8_1).f2), .int .i64 ((rd_T42 t140 x8_1).f3), .slice A143_4 ((rd_T42 t140 x8_1).f4).length c143_4] 42 (0, 0)) (by (with_reducible skip); refine blk_put (cs := #[.int .i64 ((rd_T42 t140 x8_1).f0), .int .i64 ((rd_T42 t140 x8_1).f1), .int .i64 ((rd_T42 t140 x8_1).f2), .int .i64 ((rd_T42 t140 x8_1).f3), .slice none 0 0]) ?_ 4 _ rfl; (with_reducible skip); refine blk_put (cs := #[.int .i64 ((rd_T42 t140 x8_1).f0), .int .i64 ((rd_T42 t140 x8_1).f1), .int .i64 ((rd_T42 t140 x8_1).f2), .int .i64 0, .slice none 0 0]) ?_ 3 _ rfl; (with_reducible skip); refine blk_put (cs := #[.int .i64 ((rd_T42 t140 x8_1).f0), .int .i64 ((rd_T42 t140 x8_1).f1), .int .i64 0, .int .i64 0, .slice none 0 0]) ?_ 2 _ rfl; (with_reducible skip); refine blk_put (cs := #[.int .i64 ((rd_T42 t140 x8_1).f0), .int .i64 0, .int .i64 0, .int .i64 0, .slice none 0 0]) ?_ 1 _ rfl; (with_reducible skip); refine blk_put (cs := #[.int .i64 0, .int .i64 0, .int .i64 0, .int .i64 0, .slice none 0 0]) ?_ 0 _ rfl; (with_reducible skip); exact BK144.out) hb); replace HB := aS_ (bt_ (by with_reducible repeat first | exact HB.out | refine bS_ ?_ GE144.out) hb)))
     go_ret
     exact ⟨by rfl, by with_reducible repeat exact HB.out⟩
   ·rw [if_neg c5] at H
    have c5b0 := decide_eq_false c5
    clear c5
    obtain rfl := Option.some.inj H
    go_wp2
    go_ret
    exact ⟨by rfl, bel_ HB.out⟩
def laws_zzFits4.f (a0_0 : Int) (a0_1 : ByteArray) : Option (Bool) := if (a0_1.size : Int) > 2147483647 then (some false) else (some true)
theorem laws_zzFits4.calls (a0_0 : Int) (a0_1 : ByteArray) (r : Bool) (w : World) (h : laws_zzFits4.f a0_0 a0_1 = some r) :
  Calls Tryz.prog 53 #[.agg #[.int .i64 a0_0, .string a0_1]] w fun e w' => e = .returned (.bool r) ∧ Below w.heap.size w w' := by
 have hu70 := Tryz.underlying70
 have HB := aS_ (Below.refl w.heap.size w)
 have H : (if (a0_1.size : Int) > 2147483647 then (some false) else (some true)) = some r := h
 clear h
 by_cases c2 : (a0_1.size : Int) > 2147483647
 ·rw [if_pos c2] at H
  have c2b0 : decide (2147483647 < (a0_1.size : Int)) = true := decide_eq_true c2
  have c2b1 : decide (2147483647 < a0_1.size) = true := decide_eq_true (by omega)
  clear c2
  obtain rfl := Option.some.inj H
  go_enter Tryz.func53, Tryz.ntmps53
  go_wp2_with (((with_reducible refine gate_dst (N := 1) rfl ?_); refine box_event ?hg (N := 1) ?hd (cs := #[.int .i64 a0_0, .string a0_1]) (t := 70) ?hr ?_; (case hd => rfl); (case hg => rfl); (case hr => (go_simp; done)); intro gb101 hg w3 hbox hb; have BK101 := aS_ (hbox); have GW101 := aS_ ((by rw [hg]; exact (bz_ (bel_ HB.out)) : w.heap.size ≤ gb101)); have GE101 := aS_ ((by rw [hg]; exact (bz_ (bel_ HB.out)) : w.heap.size ≤ gb101)); replace HB := aS_ (bt_ (bel_ HB.out) hb); clear hb hbox hg; obtain ⟨hcz4_0, hcz4_1, hfz4_0, hfz4_1⟩ := blk2 BK101.out))
  go_ret
  exact ⟨by rfl, by with_reducible repeat exact HB.out⟩
 ·rw [if_neg c2] at H
  have c2b0 : decide (2147483647 < (a0_1.size : Int)) = false := decide_eq_false c2
  have c2b1 : decide (2147483647 < a0_1.size) = false := decide_eq_false (by omega)
  clear c2
  obtain rfl := Option.some.inj H
  go_enter Tryz.func53, Tryz.ntmps53
  go_wp2_with (((with_reducible refine gate_dst (N := 1) rfl ?_); refine box_event ?hg (N := 1) ?hd (cs := #[.int .i64 a0_0, .string a0_1]) (t := 70) ?hr ?_; (case hd => rfl); (case hg => rfl); (case hr => (go_simp; done)); intro gb101 hg w5 hbox hb; have BK101 := aS_ (hbox); have GW101 := aS_ ((by rw [hg]; exact (bz_ (bel_ HB.out)) : w.heap.size ≤ gb101)); have GE101 := aS_ ((by rw [hg]; exact (bz_ (bel_ HB.out)) : w.heap.size ≤ gb101)); replace HB := aS_ (bt_ (bel_ HB.out) hb); clear hb hbox hg; obtain ⟨hcz6_0, hcz6_1, hfz6_0, hfz6_1⟩ := blk2 BK101.out))
  go_ret
  exact ⟨by rfl, by with_reducible repeat exact HB.out⟩
def laws_zzFits3.l0 : Nat → List (S70) → Int → Int → Option (Bool)
 | 0, _, _, _ => none
 | k + 1, x8, x9, x10 => if x10 < x9 then (if 0 ≤ x10 then (if x10 < (x8.length : Int) then ((laws_zzFits4.f ((rd_T70 x8 x10).f0) ((rd_T70 x8 x10).f1)).bind fun t104 => (if t104 = true then (laws_zzFits3.l0 k x8 x9 (wrap64 (x10 + 1))) else (some false))) else (none)) else (none)) else (some true)
def laws_zzFits3.f (k : Nat) (l0 : List (S70)) : Option (Bool) := if (l0.length : Int) > 2147483647 then (some false) else (laws_zzFits3.l0 k l0 (l0.length : Int) 0)
theorem laws_zzFits3.calls (k : Nat) (A0 : Option Addr) (c0 : Nat) (l0 : List (S70)) (r : Bool) (w : World) (hr0 : Kd.C k70 w A0 l0.length l0) (hc0 : l0.length ≤ c0) (h : laws_zzFits3.f k l0 = some r) :
  Calls Tryz.prog 30 #[.slice A0 l0.length c0] w fun e w' => e = .returned (.bool r) ∧ Below w.heap.size w w' := by
 have hu70 := Tryz.underlying70
 have HR0 := Aside0.mk hr0
 have HC0 := Aside0.mk hc0
 clear hr0 hc0
 have HB := aS_ (Below.refl w.heap.size w)
 have H : (if (l0.length : Int) > 2147483647 then (some false) else (laws_zzFits3.l0 k l0 (l0.length : Int) 0)) = some r := h
 clear h
 by_cases c2 : (l0.length : Int) > 2147483647
 ·rw [if_pos c2] at H
  have c2b0 : decide (2147483647 < (l0.length : Int)) = true := decide_eq_true c2
  have c2b1 : decide (2147483647 < l0.length) = true := decide_eq_true (by omega)
  clear c2
  obtain rfl := Option.some.inj H
  go_enter Tryz.func30, Tryz.ntmps30
  go_wp2
  go_ret
  exact ⟨by rfl, bel_ HB.out⟩
 ·rw [if_neg c2] at H
  have c2b0 : decide (2147483647 < (l0.length : Int)) = false := decide_eq_false c2
  have c2b1 : decide (2147483647 < l0.length) = false := decide_eq_false (by omega)
  clear c2
  have H' := Aside0.mk H
  clear H
  go_enter Tryz.func30, Tryz.ntmps30
  go_wp2
  go_loopg [10] k (fun kq v10 w' => ∃ (x10_1 : Int), v10 = .int .i64 x10_1 ∧ Aside0 (laws_zzFits3.l0 kq l0 (l0.length : Int) x10_1 = some r) ∧ Aside0 (kq ≤ k) ∧ Aside0 (Below w.heap.size w w'))
  case atStart => exact ⟨(0), (by rfl), H', ⟨Nat.le_refl _⟩, ⟨bel_ HB.out⟩⟩
  case round =>
   clear H'
   obtain ⟨x10_1, rfl, HA, HK1, HB⟩ := hrel
   cases gk with
   | zero => exact absurd HA.out (by simp [laws_zzFits3.l0])
   | succ k1 =>
    have H := HA.out; clear HA
    simp only [laws_zzFits3.l0] at H
    by_cases c3 : x10_1 < (l0.length : Int)
    ·rw [if_pos c3] at H
     have c3b0 := decide_eq_true c3
     clear c3
     replace H := yes_ H; obtain ⟨c4, H⟩ := H
     have c4b0 := decide_eq_true c4
     clear c4
     replace H := yes_ H; obtain ⟨c5, H⟩ := H
     have c5b0 := decide_eq_true c5
     clear c5
     replace H := Option.bind_eq_some_iff.mp H
     obtain ⟨t104, A60, H⟩ := H
     have A6 := Aside0.mk A60
     clear A60
     by_cases c7 : t104 = true
     ·subst c7
      rw [if_pos rfl] at H
      have H' := Aside0.mk H
      clear H
      have p102 : 0 ≤ (x10_1 : Int) := of_decide_eq_true (by assumption)
      have q102 : x10_1 < (l0.length : Int) := of_decide_eq_true (by assumption)
      obtain ⟨ad102, e102, hx102_0, hx102_1⟩ := at_T70 HR0.out x10_1 p102 q102
      cases e102
      replace hx102_0 := (HB.out.cell (World.block_lt_of_cell? w _ hx102_0)).trans hx102_0
      replace hx102_1 := (HB.out.cell (World.block_lt_of_cell? w _ hx102_1)).trans hx102_1
      replace p102 := eq_true p102
      replace q102 := eq_true q102
      go_wp2_with (first | ((with_reducible refine gate_dst (N := 4) rfl ?_); refine box_event ?hg (N := 4) ?hd (cs := #[.int .i64 0, .string (⟨#[]⟩ : ByteArray)]) (t := 70) ?hr ?_; (case hd => rfl); (case hg => rfl); (case hr => (go_simp; done)); intro gb103 hg w8 hbox hb; have BK103 := aS_ (hbox); have GW103 := aS_ ((by rw [hg]; exact (bz_ (bel_ HB.out)) : w.heap.size ≤ gb103)); have GE103 := aS_ ((by rw [hg]; exact (bz_ (bel_ HB.out)) : w.heap.size ≤ gb103)); replace HB := aS_ (bt_ (bel_ HB.out) hb); clear hb hbox hg; obtain ⟨hcz9_0, hcz9_1, hfz9_0, hfz9_1⟩ := blk2 BK103.out) | (go_at_call 53; (with_reducible refine (laws_zzFits4.calls ((rd_T70 l0 x10_1).f0) ((rd_T70 l0 x10_1).f1) true _ A6.out).mono ?_); rintro e w10 ⟨rfl, hb⟩; replace BK103 := aS_ (blk_below (g := gb103) (o := .cells #[.int .i64 ((rd_T70 l0 x10_1).f0), .string ((rd_T70 l0 x10_1).f1)] 70 (0, 0)) (by (with_reducible skip); refine blk_put (cs := #[.int .i64 ((rd_T70 l0 x10_1).f0), .string (⟨#[]⟩ : ByteArray)]) ?_ 1 _ rfl; (with_reducible skip); refine blk_put (cs := #[.int .i64 0, .string (⟨#[]⟩ : ByteArray)]) ?_ 0 _ rfl; (with_reducible skip); exact BK103.out) hb); replace HB := aS_ (bt_ (by with_reducible repeat first | exact HB.out | refine bS_ ?_ GE103.out) hb)))
      go_roundg k1
      case measure => have := HK1.out; omega
      case rel => exact ⟨(wrap64 (x10_1 + 1)), (by rfl), H', ⟨by have := HK1.out; omega⟩, ⟨by with_reducible repeat exact HB.out⟩⟩
     ·replace c7 := Bool.eq_false_iff.mpr c7
      subst c7
      rw [if_neg (show ¬ (false = true) by decide)] at H
      obtain rfl := Option.some.inj H
      have p102 : 0 ≤ (x10_1 : Int) := of_decide_eq_true (by assumption)
      have q102 : x10_1 < (l0.length : Int) := of_decide_eq_true (by assumption)
      obtain ⟨ad102, e102, hx102_0, hx102_1⟩ := at_T70 HR0.out x10_1 p102 q102
      cases e102
      replace hx102_0 := (HB.out.cell (World.block_lt_of_cell? w _ hx102_0)).trans hx102_0
      replace hx102_1 := (HB.out.cell (World.block_lt_of_cell? w _ hx102_1)).trans hx102_1
      replace p102 := eq_true p102
      replace q102 := eq_true q102
      go_wp2_with (first | ((with_reducible refine gate_dst (N := 4) rfl ?_); refine box_event ?hg (N := 4) ?hd (cs := #[.int .i64 0, .string (⟨#[]⟩ : ByteArray)]) (t := 70) ?hr ?_; (case hd => rfl); (case hg => rfl); (case hr => (go_simp; done)); intro gb103 hg w11 hbox hb; have BK103 := aS_ (hbox); have GW103 := aS_ ((by rw [hg]; exact (bz_ (bel_ HB.out)) : w.heap.size ≤ gb103)); have GE103 := aS_ ((by rw [hg]; exact (bz_ (bel_ HB.out)) : w.heap.size ≤ gb103)); replace HB := aS_ (bt_ (bel_ HB.out) hb); clear hb hbox hg; obtain ⟨hcz12_0, hcz12_1, hfz12_0, hfz12_1⟩ := blk2 BK103.out) | (go_at_call 53; (with_reducible refine (laws_zzFits4.calls ((rd_T70 l0 x10_1).f0) ((rd_T70 l0 x10_1).f1) false _ A6.out).mono ?_); rintro e w13 ⟨rfl, hb⟩; replace BK103 := aS_ (blk_below (g := gb103) (o := .cells #[.int .i64 ((rd_T70 l0 x10_1).f0), .string ((rd_T70 l0 x10_1).f1)] 70 (0, 0)) (by (with_reducible skip); refine blk_put (cs := #[.int .i64 ((rd_T70 l0 x10_1).f0), .string (⟨#[]⟩ : ByteArray)]) ?_ 1 _ rfl; (with_reducible skip); refine blk_put (cs := #[.int .i64 0, .string (⟨#[]⟩ : ByteArray)]) ?_ 0 _ rfl; (with_reducible skip); exact BK103.out) hb); replace HB := aS_ (bt_ (by with_reducible repeat first | exact HB.out | refine bS_ ?_ GE103.out) hb)))
      go_ret
      exact ⟨by rfl, by with_reducible repeat exact HB.out⟩
    ·rw [if_neg c3] at H
     have c3b0 := decide_eq_false c3
     clear c3
     obtain rfl := Option.some.inj H
     go_wp2
     go_ret
     exact ⟨by rfl, bel_ HB.out⟩
def laws_zzFits6.f (k : Nat) (a0_0 : Int) (a0_1 : Int) (a0_2 : Int) (a0_3 : Int) (l0_4 : List (S70)) : Option (Bool) := (laws_zzFits3.f k l0_4).bind fun t106 => (if t106 = true then (some true) else (some false))
theorem laws_zzFits6.calls (k : Nat) (a0_0 : Int) (a0_1 : Int) (a0_2 : Int) (a0_3 : Int) (A0_4 : Option Addr) (c0_4 : Nat) (l0_4 : List (S70)) (r : Bool) (w : World) (hr0_4 : Kd.C k70 w A0_4 l0_4.length l0_4) (hc0_4 : l0_4.length ≤ c0_4) (h : laws_zzFits6.f k a0_0 a0_1 a0_2 a0_3 l0_4 = some r) :
  Calls Tryz.prog 15 #[.agg #[.int .i64 a0_0, .int .i64 a0_1, .int .i64 a0_2, .int .i64 a0_3, .slice A0_4 l0_4.length c0_4]] w fun e w' => e = .returned (.bool r) ∧ Below w.heap.size w w' := by
 have hu33 := Tryz.underlying33
 have HR0_4 := Aside0.mk hr0_4
 have HC0_4 := Aside0.mk hc0_4
 clear hr0_4 hc0_4
 have HB := aS_ (Below.refl w.heap.size w)
 have H : ((laws_zzFits3.f k l0_4).bind fun t106 => (if t106 = true then (some true) else (some false))) = some r := h
 clear h
 replace H := Option.bind_eq_some_iff.mp H
 obtain ⟨t106, A20, H⟩ := H
 have A2 := Aside0.mk A20
 clear A20
 by_cases c3 : t106 = true
 ·subst c3
  rw [if_pos rfl] at H
  obtain rfl := Option.some.inj H
  go_enter Tryz.func15, Tryz.ntmps15
  go_wp2_with (first | ((with_reducible refine gate_dst (N := 1) rfl ?_); refine box_event ?hg (N := 1) ?hd (cs := #[.int .i64 a0_0, .int .i64 a0_1, .int .i64 a0_2, .int .i64 a0_3, .slice A0_4 l0_4.length c0_4]) (t := 33) ?hr ?_; (case hd => rfl); (case hg => rfl); (case hr => (go_simp; done)); intro gb105 hg w4 hbox hb; have BK105 := aS_ (hbox); have GW105 := aS_ ((by rw [hg]; exact (bz_ (bel_ HB.out)) : w.heap.size ≤ gb105)); have GE105 := aS_ ((by rw [hg]; exact (bz_ (bel_ HB.out)) : w.heap.size ≤ gb105)); replace HB := aS_ (bt_ (bel_ HB.out) hb); clear hb hbox hg; obtain ⟨hcz5_0, hcz5_1, hcz5_2, hcz5_3, hcz5_4, hfz5_0, hfz5_1, hfz5_2, hfz5_3, hfz5_4⟩ := blk5 BK105.out) | (go_at_call 30; (with_reducible refine (laws_zzFits3.calls k _ _ l0_4 true _ ?side1 ?side2 A2.out).mono ?_); (case side1 => repeat (exact (Kd.C_below HR0_4.out HB.out))); (case side2 => exact HC0_4.out); rintro e w6 ⟨rfl, hb⟩; replace BK105 := aS_ (blk_below (g := gb105) (o := .cells #[.int .i64 a0_0, .int .i64 a0_1, .int .i64 a0_2, .int .i64 a0_3, .slice A0_4 l0_4.length c0_4] 33 (0, 0)) (blk_st BK105.out) hb); replace HB := aS_ (bt_ (by with_reducible repeat exact HB.out) hb)))
  go_ret
  exact ⟨by rfl, by with_reducible repeat exact HB.out⟩
 ·replace c3 := Bool.eq_false_iff.mpr c3
  subst c3
  rw [if_neg (show ¬ (false = true) by decide)] at H
  obtain rfl := Option.some.inj H
  go_enter Tryz.func15, Tryz.ntmps15
  go_wp2_with (first | ((with_reducible refine gate_dst (N := 1) rfl ?_); refine box_event ?hg (N := 1) ?hd (cs := #[.int .i64 a0_0, .int .i64 a0_1, .int .i64 a0_2, .int .i64 a0_3, .slice A0_4 l0_4.length c0_4]) (t := 33) ?hr ?_; (case hd => rfl); (case hg => rfl); (case hr => (go_simp; done)); intro gb105 hg w7 hbox hb; have BK105 := aS_ (hbox); have GW105 := aS_ ((by rw [hg]; exact (bz_ (bel_ HB.out)) : w.heap.size ≤ gb105)); have GE105 := aS_ ((by rw [hg]; exact (bz_ (bel_ HB.out)) : w.heap.size ≤ gb105)); replace HB := aS_ (bt_ (bel_ HB.out) hb); clear hb hbox hg; obtain ⟨hcz8_0, hcz8_1, hcz8_2, hcz8_3, hcz8_4, hfz8_0, hfz8_1, hfz8_2, hfz8_3, hfz8_4⟩ := blk5 BK105.out) | (go_at_call 30; (with_reducible refine (laws_zzFits3.calls k _ _ l0_4 false _ ?side1 ?side2 A2.out).mono ?_); (case side1 => repeat (exact (Kd.C_below HR0_4.out HB.out))); (case side2 => exact HC0_4.out); rintro e w9 ⟨rfl, hb⟩; replace BK105 := aS_ (blk_below (g := gb105) (o := .cells #[.int .i64 a0_0, .int .i64 a0_1, .int .i64 a0_2, .int .i64 a0_3, .slice A0_4 l0_4.length c0_4] 33 (0, 0)) (blk_st BK105.out) hb); replace HB := aS_ (bt_ (by with_reducible repeat exact HB.out) hb)))
  go_ret
  exact ⟨by rfl, by with_reducible repeat exact HB.out⟩
def laws_zzFits5.l0 : Nat → List (S33) → Int → Int → Option (Bool)
 | 0, _, _, _ => none
 | k + 1, x8, x9, x10 => if x10 < x9 then (if 0 ≤ x10 then (if x10 < (x8.length : Int) then ((laws_zzFits6.f k ((rd_T33 x8 x10).f0) ((rd_T33 x8 x10).f1) ((rd_T33 x8 x10).f2) ((rd_T33 x8 x10).f3) ((rd_T33 x8 x10).f4)).bind fun t109 => (if t109 = true then (laws_zzFits5.l0 k x8 x9 (wrap64 (x10 + 1))) else (some false))) else (none)) else (none)) else (some true)
def laws_zzFits5.f (k : Nat) (l0 : List (S33)) : Option (Bool) := if (l0.length : Int) > 2147483647 then (some false) else (laws_zzFits5.l0 k l0 (l0.length : Int) 0)
theorem laws_zzFits5.calls (k : Nat) (A0 : Option Addr) (c0 : Nat) (l0 : List (S33)) (r : Bool) (w : World) (hr0 : Kd.C k33 w A0 l0.length l0) (hc0 : l0.length ≤ c0) (h : laws_zzFits5.f k l0 = some r) :
  Calls Tryz.prog 5 #[.slice A0 l0.length c0] w fun e w' => e = .returned (.bool r) ∧ Below w.heap.size w w' := by
 have hu33 := Tryz.underlying33
 have HR0 := Aside0.mk hr0
 have HC0 := Aside0.mk hc0
 clear hr0 hc0
 have HB := aS_ (Below.refl w.heap.size w)
 have H : (if (l0.length : Int) > 2147483647 then (some false) else (laws_zzFits5.l0 k l0 (l0.length : Int) 0)) = some r := h
 clear h
 by_cases c2 : (l0.length : Int) > 2147483647
 ·rw [if_pos c2] at H
  have c2b0 : decide (2147483647 < (l0.length : Int)) = true := decide_eq_true c2
  have c2b1 : decide (2147483647 < l0.length) = true := decide_eq_true (by omega)
  clear c2
  obtain rfl := Option.some.inj H
  go_enter Tryz.func5, Tryz.ntmps5
  go_wp2
  go_ret
  exact ⟨by rfl, bel_ HB.out⟩
 ·rw [if_neg c2] at H
  have c2b0 : decide (2147483647 < (l0.length : Int)) = false := decide_eq_false c2
  have c2b1 : decide (2147483647 < l0.length) = false := decide_eq_false (by omega)
  clear c2
  have H' := Aside0.mk H
  clear H
  go_enter Tryz.func5, Tryz.ntmps5
  go_wp2
  go_loopg [10] k (fun kq v10 w' => ∃ (x10_1 : Int), v10 = .int .i64 x10_1 ∧ Aside0 (laws_zzFits5.l0 kq l0 (l0.length : Int) x10_1 = some r) ∧ Aside0 (kq ≤ k) ∧ Aside0 (Below w.heap.size w w'))
  case atStart => exact ⟨(0), (by rfl), H', ⟨Nat.le_refl _⟩, ⟨bel_ HB.out⟩⟩
  case round =>
   clear H'
   obtain ⟨x10_1, rfl, HA, HK1, HB⟩ := hrel
   cases gk with
   | zero => exact absurd HA.out (by simp [laws_zzFits5.l0])
   | succ k1 =>
    have H := HA.out; clear HA
    simp only [laws_zzFits5.l0] at H
    by_cases c3 : x10_1 < (l0.length : Int)
    ·rw [if_pos c3] at H
     have c3b0 := decide_eq_true c3
     clear c3
     replace H := yes_ H; obtain ⟨c4, H⟩ := H
     have c4b0 := decide_eq_true c4
     clear c4
     replace H := yes_ H; obtain ⟨c5, H⟩ := H
     have c5b0 := decide_eq_true c5
     clear c5
     replace H := Option.bind_eq_some_iff.mp H
     obtain ⟨t109, A60, H⟩ := H
     have A6 := Aside0.mk A60
     clear A60
     by_cases c7 : t109 = true
     ·subst c7
      rw [if_pos rfl] at H
      have H' := Aside0.mk H
      clear H
      have p107 : 0 ≤ (x10_1 : Int) := of_decide_eq_true (by assumption)
      have q107 : x10_1 < (l0.length : Int) := of_decide_eq_true (by assumption)
      obtain ⟨ad107, A107_4, c107_4, e107, hx107_0, hx107_1, hx107_2, hx107_3, hx107_4, hl107_4, hi107_4⟩ := at_T33 HR0.out x10_1 p107 q107
      cases e107
      replace hx107_0 := (HB.out.cell (World.block_lt_of_cell? w _ hx107_0)).trans hx107_0
      replace hx107_1 := (HB.out.cell (World.block_lt_of_cell? w _ hx107_1)).trans hx107_1
      replace hx107_2 := (HB.out.cell (World.block_lt_of_cell? w _ hx107_2)).trans hx107_2
      replace hx107_3 := (HB.out.cell (World.block_lt_of_cell? w _ hx107_3)).trans hx107_3
      replace hx107_4 := (HB.out.cell (World.block_lt_of_cell? w _ hx107_4)).trans hx107_4
      have HR107_4 := Aside0.mk hi107_4
      have HC107_4 := Aside0.mk hl107_4
      clear hi107_4 hl107_4
      replace p107 := eq_true p107
      replace q107 := eq_true q107
      go_wp2_with (first | ((with_reducible refine gate_dst (N := 4) rfl ?_); refine box_event ?hg (N := 4) ?hd (cs := #[.int .i64 0, .int .i64 0, .int .i64 0, .int .i64 0, .slice none 0 0]) (t := 33) ?hr ?_; (case hd => rfl); (case hg => rfl); (case hr => (go_simp; done)); intro gb108 hg w8 hbox hb; have BK108 := aS_ (hbox); have GW108 := aS_ ((by rw [hg]; exact (bz_ (bel_ HB.out)) : w.heap.size ≤ gb108)); have GE108 := aS_ ((by rw [hg]; exact (bz_ (bel_ HB.out)) : w.heap.size ≤ gb108)); replace HB := aS_ (bt_ (bel_ HB.out) hb); clear hb hbox hg; obtain ⟨hcz9_0, hcz9_1, hcz9_2, hcz9_3, hcz9_4, hfz9_0, hfz9_1, hfz9_2, hfz9_3, hfz9_4⟩ := blk5 BK108.out) | (go_at_call 15; (with_reducible refine (laws_zzFits6.calls k1 ((rd_T33 l0 x10_1).f0) ((rd_T33 l0 x10_1).f1) ((rd_T33 l0 x10_1).f2) ((rd_T33 l0 x10_1).f3) _ _ ((rd_T33 l0 x10_1).f4) true _ ?side1 ?side2 A6.out).mono ?_); (case side1 => exact Kd.C_below HR107_4.out (by with_reducible repeat first | exact HB.out | refine bS_ ?_ GE108.out)); (case side2 => exact HC107_4.out); rintro e w10 ⟨rfl, hb⟩; replace BK108 := aS_ (blk_below (g := gb108) (o := .cells #[.int .i64 ((rd_T33 l0 x10_1).f0), .int .i64 ((rd_T33 l0 x10_1).f1), .int .i64 ((rd_T33 l0 x10_1).f2), .int .i64 ((rd_T33 l0 x10_1).f3), .slice A107_4 ((rd_T33 l0 x10_1).f4).length c107_4] 33 (0, 0)) (by (with_reducible skip); refine blk_put (cs := #[.int .i64 ((rd_T33 l0 x10_1).f0), .int .i64 ((rd_T33 l0 x10_1).f1), .int .i64 ((rd_T33 l0 x10_1).f2), .int .i64 ((rd_T33 l0 x10_1).f3), .slice none 0 0]) ?_ 4 _ rfl; (with_reducible skip); refine blk_put (cs := #[.int .i64 ((rd_T33 l0 x10_1).f0), .int .i64 ((rd_T33 l0 x10_1).f1), .int .i64 ((rd_T33 l0 x10_1).f2), .int .i64 0, .slice none 0 0]) ?_ 3 _ rfl; (with_reducible skip); refine blk_put (cs := #[.int .i64 ((rd_T33 l0 x10_1).f0), .int .i64 ((rd_T33 l0 x10_1).f1), .int .i64 0, .int .i64 0, .slice none 0 0]) ?_ 2 _ rfl; (with_reducible skip); refine blk_put (cs := #[.int .i64 ((rd_T33 l0 x10_1).f0), .int .i64 0, .int .i64 0, .int .i64 0, .slice none 0 0]) ?_ 1 _ rfl; (with_reducible skip); refine blk_put (cs := #[.int .i64 0, .int .i64 0, .int .i64 0, .int .i64 0, .slice none 0 0]) ?_ 0 _ rfl; (with_reducible skip); exact BK108.out) hb); replace HB := aS_ (bt_ (by with_reducible repeat first | exact HB.out | refine bS_ ?_ GE108.out) hb)))
      go_roundg k1
      case measure => have := HK1.out; omega
      case rel => exact ⟨(wrap64 (x10_1 + 1)), (by rfl), H', ⟨by have := HK1.out; omega⟩, ⟨by with_reducible repeat exact HB.out⟩⟩
     ·replace c7 := Bool.eq_false_iff.mpr c7
      subst c7
      rw [if_neg (show ¬ (false = true) by decide)] at H
      obtain rfl := Option.some.inj H
      have p107 : 0 ≤ (x10_1 : Int) := of_decide_eq_true (by assumption)
      have q107 : x10_1 < (l0.length : Int) := of_decide_eq_true (by assumption)
      obtain ⟨ad107, A107_4, c107_4, e107, hx107_0, hx107_1, hx107_2, hx107_3, hx107_4, hl107_4, hi107_4⟩ := at_T33 HR0.out x10_1 p107 q107
      cases e107
      replace hx107_0 := (HB.out.cell (World.block_lt_of_cell? w _ hx107_0)).trans hx107_0
      replace hx107_1 := (HB.out.cell (World.block_lt_of_cell? w _ hx107_1)).trans hx107_1
      replace hx107_2 := (HB.out.cell (World.block_lt_of_cell? w _ hx107_2)).trans hx107_2
      replace hx107_3 := (HB.out.cell (World.block_lt_of_cell? w _ hx107_3)).trans hx107_3
      replace hx107_4 := (HB.out.cell (World.block_lt_of_cell? w _ hx107_4)).trans hx107_4
      have HR107_4 := Aside0.mk hi107_4
      have HC107_4 := Aside0.mk hl107_4
      clear hi107_4 hl107_4
      replace p107 := eq_true p107
      replace q107 := eq_true q107
      go_wp2_with (first | ((with_reducible refine gate_dst (N := 4) rfl ?_); refine box_event ?hg (N := 4) ?hd (cs := #[.int .i64 0, .int .i64 0, .int .i64 0, .int .i64 0, .slice none 0 0]) (t := 33) ?hr ?_; (case hd => rfl); (case hg => rfl); (case hr => (go_simp; done)); intro gb108 hg w11 hbox hb; have BK108 := aS_ (hbox); have GW108 := aS_ ((by rw [hg]; exact (bz_ (bel_ HB.out)) : w.heap.size ≤ gb108)); have GE108 := aS_ ((by rw [hg]; exact (bz_ (bel_ HB.out)) : w.heap.size ≤ gb108)); replace HB := aS_ (bt_ (bel_ HB.out) hb); clear hb hbox hg; obtain ⟨hcz12_0, hcz12_1, hcz12_2, hcz12_3, hcz12_4, hfz12_0, hfz12_1, hfz12_2, hfz12_3, hfz12_4⟩ := blk5 BK108.out) | (go_at_call 15; (with_reducible refine (laws_zzFits6.calls k1 ((rd_T33 l0 x10_1).f0) ((rd_T33 l0 x10_1).f1) ((rd_T33 l0 x10_1).f2) ((rd_T33 l0 x10_1).f3) _ _ ((rd_T33 l0 x10_1).f4) false _ ?side1 ?side2 A6.out).mono ?_); (case side1 => exact Kd.C_below HR107_4.out (by with_reducible repeat first | exact HB.out | refine bS_ ?_ GE108.out)); (case side2 => exact HC107_4.out); rintro e w13 ⟨rfl, hb⟩; replace BK108 := aS_ (blk_below (g := gb108) (o := .cells #[.int .i64 ((rd_T33 l0 x10_1).f0), .int .i64 ((rd_T33 l0 x10_1).f1), .int .i64 ((rd_T33 l0 x10_1).f2), .int .i64 ((rd_T33 l0 x10_1).f3), .slice A107_4 ((rd_T33 l0 x10_1).f4).length c107_4] 33 (0, 0)) (by (with_reducible skip); refine blk_put (cs := #[.int .i64 ((rd_T33 l0 x10_1).f0), .int .i64 ((rd_T33 l0 x10_1).f1), .int .i64 ((rd_T33 l0 x10_1).f2), .int .i64 ((rd_T33 l0 x10_1).f3), .slice none 0 0]) ?_ 4 _ rfl; (with_reducible skip); refine blk_put (cs := #[.int .i64 ((rd_T33 l0 x10_1).f0), .int .i64 ((rd_T33 l0 x10_1).f1), .int .i64 ((rd_T33 l0 x10_1).f2), .int .i64 0, .slice none 0 0]) ?_ 3 _ rfl; (with_reducible skip); refine blk_put (cs := #[.int .i64 ((rd_T33 l0 x10_1).f0), .int .i64 ((rd_T33 l0 x10_1).f1), .int .i64 0, .int .i64 0, .slice none 0 0]) ?_ 2 _ rfl; (with_reducible skip); refine blk_put (cs := #[.int .i64 ((rd_T33 l0 x10_1).f0), .int .i64 0, .int .i64 0, .int .i64 0, .slice none 0 0]) ?_ 1 _ rfl; (with_reducible skip); refine blk_put (cs := #[.int .i64 0, .int .i64 0, .int .i64 0, .int .i64 0, .slice none 0 0]) ?_ 0 _ rfl; (with_reducible skip); exact BK108.out) hb); replace HB := aS_ (bt_ (by with_reducible repeat first | exact HB.out | refine bS_ ?_ GE108.out) hb)))
      go_ret
      exact ⟨by rfl, by with_reducible repeat exact HB.out⟩
    ·rw [if_neg c3] at H
     have c3b0 := decide_eq_false c3
     clear c3
     obtain rfl := Option.some.inj H
     go_wp2
     go_ret
     exact ⟨by rfl, bel_ HB.out⟩
def Ev {α : Type} (f : Nat → Option α) (r : α) : Prop := ∃ K, ∀ k, K ≤ k → f k = some r
section
variable {α β σ ρ : Type}
theorem Ev.const (r : α) : Ev (fun _ => some r) r := ⟨0, fun _ _ => rfl⟩
theorem Ev.bind {f : Nat → Option α} {g : Nat → α → Option β} {a : α} {r : β} (hf : Ev f a) (hg : Ev (fun k => g k a) r) : Ev (fun k => (f k).bind (g k)) r := by
 obtain ⟨K1, h1⟩ := hf
 obtain ⟨K2, h2⟩ := hg
 exact ⟨max K1 K2, fun k hk => by show (f k).bind (g k) = _; rw [h1 k (by omega)]; exact h2 k (by omega)⟩
theorem Ev.succ {f : Nat → Option α} {r : α} (h : Ev (fun k => f (k + 1)) r) : Ev f r := by
 obtain ⟨K, h⟩ := h
 refine ⟨K + 1, fun k hk => ?_⟩
 obtain ⟨j, rfl⟩ : ∃ j, k = j + 1 := ⟨k - 1, by omega⟩
 exact h j (by omega)
theorem Ev.congr {f g : Nat → Option α} {r : α} (h : Ev f r) (e : ∀ k, g k = f k) : Ev g r := by
 obtain ⟨K, h⟩ := h
 exact ⟨K, fun k hk => (e k).trans (h k hk)⟩
theorem Ev.at {f : Nat → Option α} {r : α} (h : Ev f r) : ∃ k, f k = some r := by
 obtain ⟨K, h⟩ := h
 exact ⟨K, h K (Nat.le_refl _)⟩
theorem Ev.if_pos {c : Prop} [Decidable c] {f g : Nat → Option α} {r : α} (hc : c) (h : Ev f r) : Ev (fun k => if c then f k else g k) r := h.congr fun k => _root_.if_pos hc
theorem Ev.if_neg {c : Prop} [Decidable c] {f g : Nat → Option α} {r : α} (hc : ¬ c) (h : Ev g r) : Ev (fun k => if c then f k else g k) r := h.congr fun k => _root_.if_neg hc
theorem w64 (n : Nat) (h : n ≤ 9223372036854775807) : wrap64 (n : Int) = n := by unfold wrap64; omega
theorem w64s (n : Nat) (h : n < 9223372036854775807) : wrap64 ((n : Int) + 1) = ((n + 1 : Nat) : Int) := by unfold wrap64; omega
theorem fold_loop (F : Nat → σ → Int → Option ρ) (l : List β) (step : σ → β → σ) (inv : Nat → σ → Prop) (fin : σ → ρ)
  (hinv : ∀ i (hi : i < l.length) s, inv i s → inv (i + 1) (step s l[i]))
  (hend : ∀ s, inv l.length s → Ev (fun k => F k s (l.length : Int)) (fin s))
  (hgo : ∀ i (hi : i < l.length) s r, inv i s → Ev (fun k => F k (step s l[i]) ((i + 1 : Nat) : Int)) r → Ev (fun k => F k s (i : Int)) r) :
  ∀ n i s, i + n = l.length → inv i s → Ev (fun k => F k s (i : Int)) (fin ((l.drop i).foldl step s))
 | 0, i, s, h, hi => by
  obtain rfl : i = l.length := by omega
  rw [List.drop_length]
  exact hend s hi
 | n + 1, i, s, h, hi => by
  have hl : i < l.length := by omega
  rw [List.drop_eq_getElem_cons hl, List.foldl_cons]
  exact hgo i hl s _ hi (fold_loop F l step inv fin hinv hend hgo n (i + 1) _ (by omega) (hinv i hl s hi))
theorem fold_loop0 (F : Nat → σ → Int → Option ρ) (l : List β) (step : σ → β → σ) (inv : Nat → σ → Prop) (fin : σ → ρ) (s : σ) (h0 : inv 0 s)
  (hinv : ∀ i (hi : i < l.length) s, inv i s → inv (i + 1) (step s l[i]))
  (hend : ∀ s, inv l.length s → Ev (fun k => F k s (l.length : Int)) (fin s))
  (hgo : ∀ i (hi : i < l.length) s r, inv i s → Ev (fun k => F k (step s l[i]) ((i + 1 : Nat) : Int)) r → Ev (fun k => F k s (i : Int)) r) :
  Ev (fun k => F k s 0) (fin (l.foldl step s)) := fold_loop F l step inv fin hinv hend hgo l.length 0 s (by omega) h0
theorem all_loop (F : Nat → Int → Option Bool) (l : List β) (p : β → Bool) (fin : Bool)
  (hend : Ev (fun k => F k (l.length : Int)) fin)
  (hgo : ∀ i (hi : i < l.length) r, p l[i] = true → Ev (fun k => F k ((i + 1 : Nat) : Int)) r → Ev (fun k => F k (i : Int)) r)
  (hstop : ∀ i (hi : i < l.length), p l[i] = false → Ev (fun k => F k (i : Int)) false) :
  ∀ n i, i + n = l.length → Ev (fun k => F k (i : Int)) ((l.drop i).all p && fin)
 | 0, i, h => by
  obtain rfl : i = l.length := by omega
  rw [List.drop_length]
  exact hend
 | n + 1, i, h => by
  have hl : i < l.length := by omega
  rw [List.drop_eq_getElem_cons hl, List.all_cons]
  cases hp : p l[i] with
  | true => simpa using hgo i hl _ hp (all_loop F l p fin hend hgo hstop n (i + 1) (by omega))
  | false => simpa using hstop i hl hp
theorem all_loop0 (F : Nat → Int → Option Bool) (l : List β) (p : β → Bool) (fin : Bool)
  (hend : Ev (fun k => F k (l.length : Int)) fin)
  (hgo : ∀ i (hi : i < l.length) r, p l[i] = true → Ev (fun k => F k ((i + 1 : Nat) : Int)) r → Ev (fun k => F k (i : Int)) r)
  (hstop : ∀ i (hi : i < l.length), p l[i] = false → Ev (fun k => F k (i : Int)) false) :
  Ev (fun k => F k 0) (l.all p && fin) := all_loop F l p fin hend hgo hstop l.length 0 (by omega)
theorem getD_nat (l : List β) (d : β) (i : Nat) (hi : i < l.length) : l.getD (i : Int).toNat d = l[i] := by simp [List.getD, hi]
end
def fits4 (d : S70) : Bool := decide (d.f1.size ≤ 2147483647)
def fits3 (l : List S70) : Bool := decide (l.length ≤ 2147483647) && l.all fits4
def fits5 (l : List S33) : Bool := decide (l.length ≤ 2147483647) && l.all fun p => fits3 p.f4
theorem ev_fits3 (l : List S70) : Ev (fun k => laws_zzFits3.f k l) (fits3 l) := by
 by_cases hl : (l.length : Int) > 2147483647
 ·have : fits3 l = false := by simp [fits3]; omega
  rw [this]
  exact ⟨0, fun k _ => by simp only [laws_zzFits3.f]; rw [if_pos hl]⟩
 ·have e : fits3 l = (l.all fits4 && true) := by simp [fits3]; omega
  rw [e]
  refine Ev.congr (f := fun k => laws_zzFits3.l0 k l (l.length : Int) 0) ?_ (fun k => by simp only [laws_zzFits3.f]; rw [if_neg hl])
  refine all_loop0 (fun k i => laws_zzFits3.l0 k l (l.length : Int) i) l fits4 true ?_ ?_ ?_
  ·exact Ev.succ ⟨0, fun k _ => by simp only [laws_zzFits3.l0]; rw [if_neg (by omega)]⟩
  ·intro i hi r hp hr
   refine Ev.succ ?_
   simp only [laws_zzFits3.l0]
   refine Ev.if_pos (by omega) (Ev.if_pos (by omega) (Ev.if_pos (by omega) ?_))
   rw [w64s i (by omega)]
   refine Ev.bind (a := true) ⟨0, fun k _ => ?_⟩ (Ev.if_pos rfl hr)
   simp only [laws_zzFits4.f, rd_T70, getD_nat _ _ i hi]
   have hp' : l[i].f1.size ≤ 2147483647 := by simpa [fits4] using hp
   rw [if_neg (by omega)]
  ·intro i hi hp
   refine Ev.succ ?_
   simp only [laws_zzFits3.l0]
   refine Ev.if_pos (by omega) (Ev.if_pos (by omega) (Ev.if_pos (by omega) ?_))
   refine Ev.bind (a := false) ⟨0, fun k _ => ?_⟩ (Ev.if_neg (by decide) (Ev.const _))
   simp only [laws_zzFits4.f, rd_T70, getD_nat _ _ i hi]
   rw [if_pos]
   have : ¬ l[i].f1.size ≤ 2147483647 := by simpa [fits4] using hp
   omega
theorem ev_fits6 (a b c d : Int) (l : List S70) : Ev (fun k => laws_zzFits6.f k a b c d l) (fits3 l) := by
 simp only [laws_zzFits6.f]
 refine Ev.bind (ev_fits3 l) ?_
 cases fits3 l with
 | true => exact Ev.if_pos rfl (Ev.const _)
 | false => exact Ev.if_neg (by decide) (Ev.const _)
theorem ev_fits5 (l : List S33) : Ev (fun k => laws_zzFits5.f k l) (fits5 l) := by
 by_cases hl : (l.length : Int) > 2147483647
 ·have : fits5 l = false := by simp [fits5]; omega
  rw [this]
  exact ⟨0, fun k _ => by simp only [laws_zzFits5.f]; rw [if_pos hl]⟩
 ·have e : fits5 l = (l.all (fun p => fits3 p.f4) && true) := by simp [fits5]; omega
  rw [e]
  refine Ev.congr (f := fun k => laws_zzFits5.l0 k l (l.length : Int) 0) ?_ (fun k => by simp only [laws_zzFits5.f]; rw [if_neg hl])
  refine all_loop0 (fun k i => laws_zzFits5.l0 k l (l.length : Int) i) l (fun p => fits3 p.f4) true ?_ ?_ ?_
  ·exact Ev.succ ⟨0, fun k _ => by simp only [laws_zzFits5.l0]; rw [if_neg (by omega)]⟩
  ·intro i hi r hp hr
   refine Ev.succ ?_
   simp only [laws_zzFits5.l0]
   refine Ev.if_pos (by omega) (Ev.if_pos (by omega) (Ev.if_pos (by omega) ?_))
   rw [w64s i (by omega)]
   refine Ev.bind (a := true) ?_ (Ev.if_pos rfl hr)
   simp only [rd_T33, getD_nat _ _ i hi]
   exact hp ▸ ev_fits6 _ _ _ _ _
  ·intro i hi hp
   refine Ev.succ ?_
   simp only [laws_zzFits5.l0]
   refine Ev.if_pos (by omega) (Ev.if_pos (by omega) (Ev.if_pos (by omega) ?_))
   refine Ev.bind (a := false) ?_ (Ev.if_neg (by decide) (Ev.const _))
   simp only [rd_T33, getD_nat _ _ i hi]
   exact hp ▸ ev_fits6 _ _ _ _ _
def toD (d : S70) : S75 := ⟨d.f0, d.f1⟩
def toP (p : S33) : S42 := ⟨p.f0, p.f1, p.f2, p.f3, p.f4.map toD⟩
theorem foldl_snoc {α β : Type} (g : α → β) : ∀ (l : List α) (s : List β), l.foldl (fun s x => s ++ [g x]) s = s ++ l.map g
 | [], s => by simp
 | x :: l, s => by simp [foldl_snoc g l]
theorem ev_patchDiffs (l : List S70) (hl : l.length ≤ 2147483647) : Ev (fun k => laws_patchDiffs.f k l) (l.map toD) := by
 have := fold_loop0 (fun k s i => laws_patchDiffs.l0 k s l (l.length : Int) i) l (fun s x => s ++ [toD x]) (fun i s => s.length = i) id [] rfl
  (fun i hi s hs => by simp [hs]) ?_ ?_
 ·rw [foldl_snoc] at this
  exact this
 ·intro s hs
  exact Ev.succ ⟨0, fun k _ => by simp only [laws_patchDiffs.l0]; rw [if_neg (by omega)]; rfl⟩
 ·intro i hi s r hs hr
  refine Ev.succ ?_
  simp only [laws_patchDiffs.l0]
  refine Ev.if_pos (by omega) (Ev.if_pos (by omega) (Ev.if_pos (by omega) (Ev.if_pos (by omega) ?_)))
  rw [w64s i (by omega)]
  simp only [rd_T70, getD_nat _ _ i hi]
  exact hr
theorem ev_patchesOf (l : List S33) (h : fits5 l = true) : Ev (fun k => laws_patchesOf.f k l) (l.map toP) := by
 simp only [fits5, Bool.and_eq_true, decide_eq_true_eq, List.all_eq_true] at h
 obtain ⟨hl, hd⟩ := h
 have := fold_loop0 (fun k s i => laws_patchesOf.l0 k s l (l.length : Int) i) l (fun s x => s ++ [toP x]) (fun i s => s.length = i) id [] rfl
  (fun i hi s hs => by simp [hs]) ?_ ?_
 ·rw [foldl_snoc] at this
  exact this
 ·intro s hs
  exact Ev.succ ⟨0, fun k _ => by simp only [laws_patchesOf.l0]; rw [if_neg (by omega)]; rfl⟩
 ·intro i hi s r hs hr
  refine Ev.succ ?_
  simp only [laws_patchesOf.l0]
  refine Ev.if_pos (by omega) (Ev.if_pos (by omega) (Ev.if_pos (by omega) ?_))
  rw [w64s i (by omega)]
  simp only [rd_T33, getD_nat _ _ i hi]
  have h4 := hd l[i] (List.getElem_mem hi)
  simp only [fits3, Bool.and_eq_true, decide_eq_true_eq] at h4
  refine Ev.bind (a := (l[i].f0, l[i].f1, l[i].f2, l[i].f3, l[i].f4.map toD)) ?_ (Ev.if_pos (by omega) hr)
  simp only [laws_patchOf.f]
  exact Ev.bind (ev_patchDiffs _ h4.1) (Ev.const _)
def okNum (n : Int) : Bool := decide (0 ≤ n) && decide (n ≤ 1000000)
def okByte (c : UInt8) : Bool := (decide (32 ≤ c.toNat) && decide (c.toNat ≤ 126)) || c.toNat == 10 || c.toNat == 9
def okText (s : ByteArray) : Bool := s.data.toList.all okByte && decide (s.size ≤ 40)
def okDiff (d : S75) : Bool := decide (-1 ≤ d.f0) && decide (d.f0 ≤ 1) && decide (d.f1.data.toList ≠ []) && okText d.f1
def okDiffs (l : List S75) : Bool := l.all okDiff && decide (l.length ≤ 8)
def okPiece (p : S42) : Bool := ([p.f0, p.f1, p.f2, p.f3].all okNum) && decide (p.f4 ≠ []) && okDiffs p.f4
def okPatches (l : List S33) : Bool := ((l.map toP).all okPiece) && decide (l.length ≤ 8)
theorem ev_numbers (a b c d : Int) (l : List S75) : Ev (fun k => spec_IsPatchNumbers.f k a b c d l) ([a, b, c, d].all okNum) := by
 have := all_loop0 (fun k i => spec_IsPatchNumbers.l0 k [a, b, c, d] (([a, b, c, d] : List Int).length : Int) i) [a, b, c, d] okNum true ?_ ?_ ?_
 ·rw [Bool.and_true] at this
  exact this
 ·exact Ev.succ ⟨0, fun k _ => by simp only [spec_IsPatchNumbers.l0]; rw [if_neg (by omega)]⟩
 ·intro i hi r hp hr
  refine Ev.succ ?_
  simp only [spec_IsPatchNumbers.l0]
  simp only [okNum, Bool.and_eq_true, decide_eq_true_eq] at hp
  have hi4 : i < 4 := hi
  refine Ev.if_pos (by omega) (Ev.if_pos (by omega) (Ev.if_pos (by omega) ?_))
  rw [w64s i (by omega)]
  simp only [rd, getD_nat _ _ i hi]
  exact Ev.if_neg (by omega) (Ev.if_neg (by omega) hr)
 ·intro i hi hp
  refine Ev.succ ?_
  simp only [spec_IsPatchNumbers.l0]
  have hi4 : i < 4 := hi
  refine Ev.if_pos (by omega) (Ev.if_pos (by omega) (Ev.if_pos (by omega) ?_))
  simp only [rd, getD_nat _ _ i hi]
  by_cases h0 : ([a, b, c, d] : List Int)[i] < 0
  ·exact Ev.if_pos h0 (Ev.const _)
  ·refine Ev.if_neg h0 (Ev.if_pos ?_ (Ev.const _))
   have : ¬ (0 ≤ ([a, b, c, d] : List Int)[i] ∧ ([a, b, c, d] : List Int)[i] ≤ 1000000) := by
    intro hh
    have : okNum ([a, b, c, d] : List Int)[i] = true := by simp only [okNum, Bool.and_eq_true, decide_eq_true_eq]; exact hh
    rw [this] at hp
    cases hp
   omega
theorem size_data (s : ByteArray) : s.size = s.data.toList.length := by rw [Array.length_toList]; rfl
theorem bt_nat (s : ByteArray) (i : Nat) (hi : i < s.data.toList.length) : bt s (i : Int) = (s.data.toList[i].toNat : Int) := by
 have hi' : i < s.size := by rw [size_data]; exact hi
 unfold bt
 rw [dif_pos (show ((i : Int)).toNat < s.size from hi')]
 rfl
theorem ev_plain (s : ByteArray) (hs : s.size ≤ 2147483647) : Ev (fun k => spec_IsPatchPlain.f k s 40) (okText s) := by
 have e : okText s = (s.data.toList.all okByte && decide ((s.size : Int) ≤ 40)) := by simp only [okText]; rw [decide_eq_decide.2 (show ((s.size : Int) ≤ 40) ↔ s.size ≤ 40 by omega)]
 rw [e]
 simp only [spec_IsPatchPlain.f]
 have hsz := size_data s
 have := all_loop0 (fun k i => spec_IsPatchPlain.l0 k s 40 (s.size : Int) i) s.data.toList okByte (decide ((s.size : Int) ≤ 40)) ?_ ?_ ?_
 ·exact this
 ·exact Ev.succ ⟨0, fun k _ => by simp only [spec_IsPatchPlain.l0]; rw [if_neg (by omega)]⟩
 ·intro i hi r hp hr
  refine Ev.succ ?_
  simp only [spec_IsPatchPlain.l0]
  refine Ev.if_pos (by omega) (Ev.if_pos (by omega) (Ev.if_pos (by omega) ?_))
  rw [w64s i (by omega), bt_nat s i hi]
  simp only [okByte, Bool.or_eq_true, Bool.and_eq_true, decide_eq_true_eq, beq_iff_eq] at hp
  generalize s.data.toList[i].toNat = c at hp
  by_cases h1 : (c : Int) < 32
  ·refine Ev.if_pos h1 ?_
   by_cases h2 : (c : Int) = 10
   ·exact Ev.if_pos h2 hr
   ·exact Ev.if_neg h2 (Ev.if_pos (by omega) hr)
  ·refine Ev.if_neg h1 ?_
   by_cases h3 : (c : Int) > 126
   ·exfalso; omega
   ·exact Ev.if_neg h3 hr
 ·intro i hi hp
  refine Ev.succ ?_
  simp only [spec_IsPatchPlain.l0]
  refine Ev.if_pos (by omega) (Ev.if_pos (by omega) (Ev.if_pos (by omega) ?_))
  rw [bt_nat s i hi]
  simp only [okByte, Bool.or_eq_false_iff, Bool.and_eq_false_iff, decide_eq_false_iff_not, beq_eq_false_iff_ne] at hp
  generalize s.data.toList[i].toNat = c at hp
  by_cases h1 : (c : Int) < 32
  ·refine Ev.if_pos h1 ?_
   exact Ev.if_neg (by omega) (Ev.if_neg (by omega) (Ev.const _))
  ·refine Ev.if_neg h1 (Ev.if_pos (by omega) ?_)
   exact Ev.if_neg (by omega) (Ev.if_neg (by omega) (Ev.const _))
theorem ev_diffs (l : List S75) (hl : l.length ≤ 2147483647) (hs : ∀ d ∈ l, d.f1.size ≤ 2147483647) : Ev (fun k => spec_IsPatchDiffs.f k l 8 40) (okDiffs l) := by
 have e : okDiffs l = (l.all okDiff && decide ((l.length : Int) ≤ 8)) := by simp only [okDiffs]; rw [decide_eq_decide.2 (show ((l.length : Int) ≤ 8) ↔ l.length ≤ 8 by omega)]
 rw [e]
 simp only [spec_IsPatchDiffs.f]
 have := all_loop0 (fun k i => spec_IsPatchDiffs.l0 k l 8 40 l (l.length : Int) i) l okDiff (decide ((l.length : Int) ≤ 8)) ?_ ?_ ?_
 ·exact this
 ·exact Ev.succ ⟨0, fun k _ => by simp only [spec_IsPatchDiffs.l0]; rw [if_neg (by omega)]⟩
 ·intro i hi r hp hr
  refine Ev.succ ?_
  simp only [spec_IsPatchDiffs.l0]
  refine Ev.if_pos (by omega) (Ev.if_pos (by omega) (Ev.if_pos (by omega) ?_))
  rw [w64s i (by omega)]
  simp only [rd_T75, getD_nat _ _ i hi]
  simp only [okDiff, Bool.and_eq_true, decide_eq_true_eq] at hp
  refine Ev.if_neg (by omega) (Ev.if_neg (by omega) (Ev.if_neg (by rw [ByteArray.toList_eq]; exact hp.1.2) ?_))
  exact Ev.bind (hp.2 ▸ ev_plain _ (hs _ (List.getElem_mem hi))) (Ev.if_pos rfl hr)
 ·intro i hi hp
  refine Ev.succ ?_
  simp only [spec_IsPatchDiffs.l0]
  refine Ev.if_pos (by omega) (Ev.if_pos (by omega) (Ev.if_pos (by omega) ?_))
  simp only [rd_T75, getD_nat _ _ i hi]
  by_cases h1 : l[i].f0 < -1
  ·exact Ev.if_pos h1 (Ev.const _)
  ·refine Ev.if_neg h1 ?_
   by_cases h2 : l[i].f0 > 1
   ·exact Ev.if_pos h2 (Ev.const _)
   ·refine Ev.if_neg h2 ?_
    by_cases h3 : l[i].f1.toList = []
    ·exact Ev.if_pos h3 (Ev.const _)
    ·refine Ev.if_neg h3 ?_
     have h4 : okText l[i].f1 = false := by
      rw [ByteArray.toList_eq] at h3
      simp only [okDiff] at hp
      rw [decide_eq_true (show -1 ≤ l[i].f0 by omega), decide_eq_true (show l[i].f0 ≤ 1 by omega), decide_eq_true h3] at hp
      simpa using hp
     exact Ev.bind (h4 ▸ ev_plain _ (hs _ (List.getElem_mem hi))) (Ev.if_neg (by decide) (Ev.const _))
theorem fits_piece {l : List S33} (h : fits5 l = true) : ∀ p ∈ l.map toP, p.f4.length ≤ 2147483647 ∧ ∀ d ∈ p.f4, d.f1.size ≤ 2147483647 := by
 simp only [fits5, fits3, fits4, Bool.and_eq_true, decide_eq_true_eq, List.all_eq_true] at h
 intro p hp
 obtain ⟨q, hq, rfl⟩ := List.mem_map.1 hp
 refine ⟨by simpa [toP] using (h.2 q hq).1, fun d hd => ?_⟩
 obtain ⟨e, he, rfl⟩ := List.mem_map.1 (show d ∈ q.f4.map toD from hd)
 exact (h.2 q hq).2 e he
theorem ev_arePatches (l : List S33) (h : fits5 l = true) : Ev (fun k => laws_arePatches.f k l) (okPatches l) := by
 have e : okPatches l = ((l.map toP).all okPiece && decide ((l.length : Int) ≤ 8)) := by simp only [okPatches]; rw [decide_eq_decide.2 (show ((l.length : Int) ≤ 8) ↔ l.length ≤ 8 by omega)]
 rw [e]
 have hl : l.length ≤ 2147483647 := by
  simp only [fits5, Bool.and_eq_true, decide_eq_true_eq] at h
  exact h.1
 have hfp := fits_piece h
 simp only [laws_arePatches.f]
 refine Ev.bind (ev_patchesOf l h) ?_
 have hps : (l.map toP).length ≤ 2147483647 := by rw [List.length_map]; exact hl
 generalize l.map toP = ps at hfp hps ⊢
 refine all_loop0 (fun k i => laws_arePatches.l0 k l ps (ps.length : Int) i) ps okPiece (decide ((l.length : Int) ≤ 8)) ?_ ?_ ?_
 ·exact Ev.succ ⟨0, fun k _ => by simp only [laws_arePatches.l0]; rw [if_neg (by omega)]⟩
 ·intro i hi r hp hr
  refine Ev.succ ?_
  simp only [laws_arePatches.l0]
  refine Ev.if_pos (by omega) (Ev.if_pos (by omega) (Ev.if_pos (by omega) ?_))
  rw [w64s i (by omega)]
  simp only [rd_T42, getD_nat _ _ i hi]
  simp only [okPiece, Bool.and_eq_true, decide_eq_true_eq] at hp
  have hm := hfp _ (List.getElem_mem hi)
  refine Ev.bind (a := true) (hp.1.1 ▸ ev_numbers _ _ _ _ _) (Ev.if_pos rfl (Ev.if_neg ?_ ?_))
  ·intro h0
   exact hp.1.2 (List.length_eq_zero_iff.mp (by omega))
  ·exact Ev.bind (a := true) (hp.2 ▸ ev_diffs _ hm.1 hm.2) (Ev.if_pos rfl hr)
 ·intro i hi hp
  refine Ev.succ ?_
  simp only [laws_arePatches.l0]
  refine Ev.if_pos (by omega) (Ev.if_pos (by omega) (Ev.if_pos (by omega) ?_))
  simp only [rd_T42, getD_nat _ _ i hi]
  have hm := hfp _ (List.getElem_mem hi)
  refine Ev.bind (ev_numbers _ _ _ _ _) ?_
  cases h1 : [ps[i].f0, ps[i].f1, ps[i].f2, ps[i].f3].all okNum with
  | false => exact Ev.if_neg (by decide) (Ev.const _)
  | true =>
   refine Ev.if_pos rfl ?_
   by_cases h2 : (ps[i].f4.length : Int) = 0
   ·exact Ev.if_pos h2 (Ev.const _)
   ·refine Ev.if_neg h2 ?_
    have h3 : okDiffs ps[i].f4 = false := by
     have h2' : ps[i].f4 ≠ [] := fun h0 => h2 (by rw [h0]; rfl)
     simp only [okPiece, h1, decide_eq_true h2'] at hp
     simpa using hp
    exact Ev.bind (a := false) (h3 ▸ ev_diffs _ hm.1 hm.2) (Ev.if_neg (by decide) (Ev.const _))
def spec_PatchDecimal.f : Nat → Int → Option (ByteArray)
 | 0, _ => none
 | k + 1, a0 => if a0 < 10 then (some (strOfNums (([(wrap64 (48 + a0)) % 256] : List Int)))) else ((spec_PatchDecimal.f k (wrap64 (Int.tdiv a0 10))).bind fun t803 => ((some (([(wrap64 (48 + (Int.tmod a0 10))) % 256] : List Int) : List Int)).bind fun y804 => (if t803.size + (strOfNums y804).size ≤ 9223372036854775807 then (some (t803 ++ (strOfNums y804))) else (none))))
def spec_PatchDecimal.T3 : Bool × List (List Nat × List Nat) := (true, [([], []), ([0], [0]), ([1], [1]), ([], []), ([3], [3]), ([4], [4]), ([5], [5]), ([6], [6]), ([7], [7]), ([2, 8], [2, 8]), ([9, 2, 0, 1, 2, 3, 4, 5, 6, 7, 8, 9], [9])])
def spec_PatchDecimal.B3 : List Nat := [0, 1, 3, 0, 8, 24, 56, 120, 248, 511, 1023]
theorem spec_PatchDecimal.tab3 : rtab .any (opsOf Tryz.f76 3) = spec_PatchDecimal.T3 := by kernel_rfl
theorem spec_PatchDecimal.bits3 : waitsOk spec_PatchDecimal.T3.2 spec_PatchDecimal.B3 = true := by kernel_rfl
theorem spec_PatchDecimal.calls (k : Nat) : ∀ (a0 : Int) (r : ByteArray) (w : World) (h : spec_PatchDecimal.f k a0 = some r),
  Calls Tryz.prog 76 #[.int .i64 a0] w fun e w' => e = .returned (.string r) ∧ Below w.heap.size w w' := by
 induction k using Nat.strongRecOn with
 | _ k ih =>
 intro a0 r w h
 cases k with
 | zero => exact absurd h (by simp [spec_PatchDecimal.f])
 | succ k =>
 simp only [spec_PatchDecimal.f] at h
 have HB := aS_ (Below.refl w.heap.size w)
 have H : (if a0 < 10 then (some (strOfNums (([(wrap64 (48 + a0)) % 256] : List Int)))) else ((spec_PatchDecimal.f k (wrap64 (Int.tdiv a0 10))).bind fun t803 => ((some (([(wrap64 (48 + (Int.tmod a0 10))) % 256] : List Int) : List Int)).bind fun y804 => (if t803.size + (strOfNums y804).size ≤ 9223372036854775807 then (some (t803 ++ (strOfNums y804))) else (none))))) = some r := h
 clear h
 by_cases c2 : a0 < 10
 ·rw [if_pos c2] at H
  have c2b0 := decide_eq_true c2
  clear c2
  obtain ⟨y800, hy800⟩ : ∃ y_ : List Int, y_ = (([(wrap64 (48 + a0)) % 256] : List Int)) := ⟨_, rfl⟩
  replace H : (some (strOfNums y800)) = some r := by (rw [hy800]; with_reducible exact H)
  have Ny800 := Aside0.mk hy800
  clear hy800
  obtain rfl := Option.some.inj H
  go_enter Tryz.func76, Tryz.ntmps76
  go_wp2_with (((with_reducible refine gate_dst (N := 8) rfl ?_); refine Kd.R_lit (Kd.int .u8) _ 5 ?hg (N := 8) ?hd (xs := ([(wrap64 (48 + a0)) % 256] : List Int)) (inner := [.int .u8 ((wrap64 (48 + a0)) % 256)]) (ok := fun _ => True) (okp := fun _ => True) ?hr ?hp (fun _ hk => hk) trivial (Below.refl _ _) (Nat.le_refl _) (by simp) ?_; (case hd => rfl); (case hg => rfl); (case hr => (go_simp; done)); (case hp => exact (Reps.one (show Kd.M (Kd.int .u8) _ _ _ ((wrap64 (48 + a0)) % 256) [.int .u8 ((wrap64 (48 + a0)) % 256)] from rfl) (Reps.none _ _))); intro v801 w3 ho4 hb hg_ hnew_; clear hg_ hnew_; (rw [← Ny800.out] at ho4); have HO802 := aS_ (Kd.R_lower ho4 (bz_ (bel_ HB.out))); replace HB := aS_ (bt_ (bel_ HB.out) hb); clear hb ho4; have hcv5 := own_string (P := Tryz.prog) Tryz.underlying97 Tryz.underlying5 Tryz.underlying9 (Kd.own_of_R HO802.out)))
  go_ret
  exact ⟨by rfl, bel_ HB.out⟩
 ·rw [if_neg c2] at H
  have c2b0 := decide_eq_false c2
  clear c2
  replace H := Option.bind_eq_some_iff.mp H
  obtain ⟨t803, A60, H⟩ := H
  have A6 := Aside0.mk A60
  clear A60
  obtain ⟨y804, hy804, H⟩ := bindc_ H
  have Ny804 := Aside0.mk hy804
  clear hy804
  replace H := yes_ H; obtain ⟨c7, H⟩ := H
  have c7b0 := eq_true c7
  have c7b1 := decide_eq_true c7
  try have c7b2 : (9223372036854775807 < t803.size + (strOfNums y804).size) = False := eq_false (Nat.not_lt.2 c7)
  obtain rfl := Option.some.inj H
  go_enter Tryz.func76, Tryz.ntmps76
  try go_wp2
  replace HB := aS_ (bD_ HB.out)
  refine sA_ (fun w' => True) [] spec_PatchDecimal.tab3 spec_PatchDecimal.bits3 trivial (fun hHeld HT_ HW_ => ?_)
  generalize w.drew = w8 at HB hHeld ⊢
  refine pA_ 0 (h:=pA_ 1 (h:=pA_ 3 (h:=pA_ 4 (h:=pA_ 5 (h:=pA_ 6 (h:=?_))))))
  refine join_ (σ := Value) 2 #[tt, tt, tt, tt, tt, tt, tt, tt, tt, ff, ff] (fun s_ => [(12, .string t803), (17, s_), (18, .string (strOfNums y804))]) (fun s_ w' => (Kd.R (Kd.int .u8) 5 w' w.heap.size (fun _ => True) s_ y804) ∧ (Below w.heap.size w w')) ?_ ?_
  rotate_left
  ·intro hCont
   refine two_ (i := 2) (j := 7) (Ni := some 12) (Nj := some 17) #[tt, tt, tt, tt, tt, tt, tt, ff, ff, ff, ff] #[tt, tt, ff, tt, tt, tt, tt, tt, ff, ff, ff] rfl rfl rfl rfl (two_of HT_.out (by kernel_rfl)) (by decide) (by decide) (fun K hK => ?_) (fun K hK => ?_)
   ·skip
    refine goes_ Tryz.func76 (by kernel_rfl) rfl #[.int .i64 (wrap64 (Int.tdiv a0 10))] (by rfl) rfl rfl (by (try simp only [List.map_toArray, List.map_cons, List.map_nil]); rfl) ?_
    with_reducible refine (ih k (by omega) (wrap64 (Int.tdiv a0 10)) t803 _ A6.out).mono ?_
    rintro e w9 ⟨rfl, hb⟩
    refine ⟨_, rfl, ?_⟩
    replace HB := aS_ (bt_ (bel_ HB.out) hb)
    refine hK.out _ _ trivial (fun hHeld => ?_)
    clear hK K
    refine nA_ (h:=?_)
    refine oA_ 7 (some 17) (h:=fun K hK => ?_)
    refine Kd.R_lit_step (Kd.int .u8) _ 5 ?hg (N := 17) ?hd (xs := ([(wrap64 (48 + (Int.tmod a0 10))) % 256] : List Int)) (inner := [.int .u8 ((wrap64 (48 + (Int.tmod a0 10))) % 256)]) (ok := fun _ => True) (okp := fun _ => True) ?hr ?hp (fun _ hk => hk) trivial (Below.refl _ _) (Nat.le_refl _) (by simp) ?_; (case hd => rfl); (case hg => rfl); (case hr => (go_simp; rfl)); (case hp => exact (Reps.one (show Kd.M (Kd.int .u8) _ _ _ ((wrap64 (48 + (Int.tmod a0 10))) % 256) [.int .u8 ((wrap64 (48 + (Int.tmod a0 10))) % 256)] from rfl) (Reps.none _ _)))
    intro v805 w10 ho11 hb hg_ hnew_
    clear hg_ hnew_
    (rw [← Ny804.out] at ho11)
    have HO806 := aS_ (Kd.R_lower ho11 (bz_ (bel_ HB.out)))
    replace HB := aS_ (bt_ (bel_ HB.out) hb)
    clear hb ho11
    refine hK.out _ _ trivial (fun hHeld => ?_)
    clear hK K
    refine nA_ (h:=?_)
    refine oA_ 8 (some 18) (h:=fun K hK => ?_)
    have hcv12 := own_string (P := Tryz.prog) Tryz.underlying97 Tryz.underlying5 Tryz.underlying9 (Kd.own_of_R HO806.out)
    refine value_ (w1 := ?_) (v := ?_) (by rfl) rfl ?_ ?_
    rotate_left 2
    ·go_simp
     constructor
     ·rfl
     ·rfl
    clear hcv12
    refine hK.out _ _ trivial (fun hHeld => ?_)
    clear hK K
    refine nA_ (h:=?_)
    exact norm_ (by simp only [putAll, Act.put, List.setIfInBounds_toArray, List.set_cons_zero, List.set_cons_succ]) (hCont (v805) _ ⟨(Kd.R_st HO806.out), (bel_ HB.out)⟩)
   ·skip
    refine Kd.R_lit_step (Kd.int .u8) _ 5 ?hg (N := 17) ?hd (xs := ([(wrap64 (48 + (Int.tmod a0 10))) % 256] : List Int)) (inner := [.int .u8 ((wrap64 (48 + (Int.tmod a0 10))) % 256)]) (ok := fun _ => True) (okp := fun _ => True) ?hr ?hp (fun _ hk => hk) trivial (Below.refl _ _) (Nat.le_refl _) (by simp) ?_; (case hd => rfl); (case hg => rfl); (case hr => (go_simp; rfl)); (case hp => exact (Reps.one (show Kd.M (Kd.int .u8) _ _ _ ((wrap64 (48 + (Int.tmod a0 10))) % 256) [.int .u8 ((wrap64 (48 + (Int.tmod a0 10))) % 256)] from rfl) (Reps.none _ _)))
    intro v805 w9 ho10 hb hg_ hnew_
    clear hg_ hnew_
    (rw [← Ny804.out] at ho10)
    have HO806 := aS_ (Kd.R_lower ho10 (bz_ (bel_ HB.out)))
    replace HB := aS_ (bt_ (bel_ HB.out) hb)
    clear hb ho10
    refine hK.out _ _ trivial (fun hHeld => ?_)
    clear hK K
    refine nA_ (h:=?_)
    refine two_ (i := 2) (j := 8) (Ni := some 12) (Nj := some 18) #[tt, tt, tt, tt, tt, tt, tt, tt, ff, ff, ff] #[tt, tt, ff, tt, tt, tt, tt, tt, tt, ff, ff] rfl rfl rfl rfl (two_of HT_.out (by kernel_rfl)) (by decide) (by decide) (fun K hK => ?_) (fun K hK => ?_)
    ·skip
     refine goes_ Tryz.func76 (by kernel_rfl) rfl #[.int .i64 (wrap64 (Int.tdiv a0 10))] (by rfl) rfl rfl (by (try simp only [List.map_toArray, List.map_cons, List.map_nil]); rfl) ?_
     with_reducible refine (ih k (by omega) (wrap64 (Int.tdiv a0 10)) t803 _ A6.out).mono ?_
     rintro e w11 ⟨rfl, hb⟩
     refine ⟨_, rfl, ?_⟩
     replace HO806 := aS_ (Kd.R_below (Kd.R_st HO806.out) hb)
     replace HB := aS_ (bt_ (bel_ HB.out) hb)
     refine hK.out _ _ trivial (fun hHeld => ?_)
     clear hK K
     refine nA_ (h:=?_)
     refine oA_ 8 (some 18) (h:=fun K hK => ?_)
     have hcv12 := own_string (P := Tryz.prog) Tryz.underlying97 Tryz.underlying5 Tryz.underlying9 (Kd.own_of_R HO806.out)
     refine value_ (w1 := ?_) (v := ?_) (by rfl) rfl ?_ ?_
     rotate_left 2
     ·go_simp
      constructor
      ·rfl
      ·rfl
     clear hcv12
     refine hK.out _ _ trivial (fun hHeld => ?_)
     clear hK K
     refine nA_ (h:=?_)
     exact norm_ (by simp only [putAll, Act.put, List.setIfInBounds_toArray, List.set_cons_zero, List.set_cons_succ]) (hCont (v805) _ ⟨(Kd.R_st HO806.out), (bel_ HB.out)⟩)
    ·skip
     have hcv11 := own_string (P := Tryz.prog) Tryz.underlying97 Tryz.underlying5 Tryz.underlying9 (Kd.own_of_R HO806.out)
     refine value_ (w1 := ?_) (v := ?_) (by rfl) rfl ?_ ?_
     rotate_left 2
     ·go_simp
      constructor
      ·rfl
      ·rfl
     clear hcv11
     refine hK.out _ _ trivial (fun hHeld => ?_)
     clear hK K
     refine nA_ (h:=?_)
     refine oA_ 2 (some 12) (h:=fun K hK => ?_)
     refine goes_ Tryz.func76 (by kernel_rfl) rfl #[.int .i64 (wrap64 (Int.tdiv a0 10))] (by rfl) rfl rfl (by (try simp only [List.map_toArray, List.map_cons, List.map_nil]); rfl) ?_
     with_reducible refine (ih k (by omega) (wrap64 (Int.tdiv a0 10)) t803 _ A6.out).mono ?_
     rintro e w12 ⟨rfl, hb⟩
     refine ⟨_, rfl, ?_⟩
     replace HO806 := aS_ (Kd.R_below (Kd.R_st HO806.out) hb)
     replace HB := aS_ (bt_ (bel_ HB.out) hb)
     refine hK.out _ _ trivial (fun hHeld => ?_)
     clear hK K
     refine nA_ (h:=?_)
     exact norm_ (by simp only [putAll, Act.put, List.setIfInBounds_toArray, List.set_cons_zero, List.set_cons_succ]) (hCont (v805) _ ⟨(Kd.R_st HO806.out), (bel_ HB.out)⟩)
  rintro v805 w13 ⟨h0_, h1_⟩
  have n0_ : Aside0 (Kd.R (Kd.int .u8) 5 w13 w.heap.size (fun _ => True) v805 y804) := ⟨h0_⟩
  have n1_ : Aside0 (Below w.heap.size w w13) := ⟨h1_⟩
  clear HB
  clear h0_ h1_
  have HO806 := n0_
  have HB := n1_
  clear n0_ n1_
  have hHeld := trivial
  refine nA_ (h:=?_)
  refine pA_ 9 (h:=pA_ 10 (h:=?_))
  refine done_ (done_of HT_.out (by kernel_rfl)) ?_
  try go_wp2
  go_ret
  exact ⟨by rfl, bel_ HB.out⟩
def spec_patchSpan.f (k : Nat) (a0 : Int) (a1 : Int) : Option (ByteArray) := if a1 = 0 then ((spec_PatchDecimal.f k a0).bind fun t807 => (if t807.size + 2 ≤ 9223372036854775807 then (some (t807 ++ (⟨#[44, 48]⟩ : ByteArray))) else (none))) else (if a1 = 1 then ((spec_PatchDecimal.f k (wrap64 (a0 + 1))).bind fun t808 => (some t808)) else ((spec_PatchDecimal.f k (wrap64 (a0 + 1))).bind fun t809 => (if t809.size + 1 ≤ 9223372036854775807 then ((spec_PatchDecimal.f k a1).bind fun t810 => (if (t809 ++ (⟨#[44]⟩ : ByteArray)).size + t810.size ≤ 9223372036854775807 then (some ((t809 ++ (⟨#[44]⟩ : ByteArray)) ++ t810)) else (none))) else (none))))
theorem spec_patchSpan.calls (k : Nat) (a0 : Int) (a1 : Int) (r : ByteArray) (w : World) (h : spec_patchSpan.f k a0 a1 = some r) :
  Calls Tryz.prog 44 #[.int .i64 a0, .int .i64 a1] w fun e w' => e = .returned (.string r) ∧ Below w.heap.size w w' := by
 have HB := aS_ (Below.refl w.heap.size w)
 have H : (if a1 = 0 then ((spec_PatchDecimal.f k a0).bind fun t807 => (if t807.size + 2 ≤ 9223372036854775807 then (some (t807 ++ (⟨#[44, 48]⟩ : ByteArray))) else (none))) else (if a1 = 1 then ((spec_PatchDecimal.f k (wrap64 (a0 + 1))).bind fun t808 => (some t808)) else ((spec_PatchDecimal.f k (wrap64 (a0 + 1))).bind fun t809 => (if t809.size + 1 ≤ 9223372036854775807 then ((spec_PatchDecimal.f k a1).bind fun t810 => (if (t809 ++ (⟨#[44]⟩ : ByteArray)).size + t810.size ≤ 9223372036854775807 then (some ((t809 ++ (⟨#[44]⟩ : ByteArray)) ++ t810)) else (none))) else (none))))) = some r := h
 clear h
 by_cases c3 : a1 = 0
 ·rw [if_pos c3] at H
  have c3b0 := beq_iff_eq.mpr c3
  have c3b1 := bne_eq_false_iff_eq.mpr c3
  clear c3
  replace H := Option.bind_eq_some_iff.mp H
  obtain ⟨t807, A40, H⟩ := H
  have A4 := Aside0.mk A40
  clear A40
  replace H := yes_ H; obtain ⟨c5, H⟩ := H
  have c5b0 := eq_true c5
  have c5b1 := decide_eq_true c5
  try have c5b2 : (9223372036854775807 < t807.size + 2) = False := eq_false (Nat.not_lt.2 c5)
  obtain rfl := Option.some.inj H
  go_enter Tryz.func44, Tryz.ntmps44
  go_wp2_with ((go_at_call 76; (with_reducible refine (spec_PatchDecimal.calls k a0 t807 _ A4.out).mono ?_); rintro e w6 ⟨rfl, hb⟩; replace HB := aS_ (bt_ (bel_ HB.out) hb)))
  go_ret
  exact ⟨by rfl, bel_ HB.out⟩
 ·rw [if_neg c3] at H
  have c3b0 := beq_eq_false_iff_ne.mpr c3
  have c3b1 := bne_iff_ne.mpr c3
  by_cases c7 : a1 = 1
  ·rw [if_pos c7] at H
   have c7b0 := beq_iff_eq.mpr c7
   have c7b1 := bne_eq_false_iff_eq.mpr c7
   clear c7
   replace H := Option.bind_eq_some_iff.mp H
   obtain ⟨t808, A80, H⟩ := H
   have A8 := Aside0.mk A80
   clear A80
   obtain rfl := Option.some.inj H
   go_enter Tryz.func44, Tryz.ntmps44
   go_wp2_with ((go_at_call 76; (with_reducible refine (spec_PatchDecimal.calls k (wrap64 (a0 + 1)) t808 _ A8.out).mono ?_); rintro e w9 ⟨rfl, hb⟩; replace HB := aS_ (bt_ (bel_ HB.out) hb)))
   go_ret
   exact ⟨by rfl, bel_ HB.out⟩
  ·rw [if_neg c7] at H
   have c7b0 := beq_eq_false_iff_ne.mpr c7
   have c7b1 := bne_iff_ne.mpr c7
   replace H := Option.bind_eq_some_iff.mp H
   obtain ⟨t809, A100, H⟩ := H
   have A10 := Aside0.mk A100
   clear A100
   replace H := yes_ H; obtain ⟨c11, H⟩ := H
   have c11b0 := eq_true c11
   have c11b1 := decide_eq_true c11
   try have c11b2 : (9223372036854775807 < t809.size + 1) = False := eq_false (Nat.not_lt.2 c11)
   replace H := Option.bind_eq_some_iff.mp H
   obtain ⟨t810, A120, H⟩ := H
   have A12 := Aside0.mk A120
   clear A120
   replace H := yes_ H; obtain ⟨c13, H⟩ := H
   have c13b0 := eq_true c13
   have c13b1 := decide_eq_true c13
   try have c13b2 : (9223372036854775807 < (t809 ++ (⟨#[44]⟩ : ByteArray)).size + t810.size) = False := eq_false (Nat.not_lt.2 c13)
   try have c13b3 : (9223372036854775807 < t809.size + 1 + t810.size) = False := eq_false (Nat.not_lt.2 (by have h_ := c13; simp only [ByteArray.size_append] at h_; exact h_))
   try have c13b4 : decide (t809.size + 1 + t810.size ≤ 9223372036854775807) = true := decide_eq_true (by have h_ := c13; simp only [ByteArray.size_append] at h_; exact h_)
   obtain rfl := Option.some.inj H
   go_enter Tryz.func44, Tryz.ntmps44
   go_wp2_with (first | (go_at_call 76; (with_reducible refine (spec_PatchDecimal.calls k (wrap64 (a0 + 1)) t809 _ A10.out).mono ?_); rintro e w14 ⟨rfl, hb⟩; replace HB := aS_ (bt_ (bel_ HB.out) hb)) | (go_at_call 76; (with_reducible refine (spec_PatchDecimal.calls k a1 t810 _ A12.out).mono ?_); rintro e w15 ⟨rfl, hb⟩; replace HB := aS_ (bt_ (bel_ HB.out) hb)))
   go_ret
   exact ⟨by rfl, bel_ HB.out⟩
theorem const_row (w : World) (l : List Int) (C : Array Value) (t : TypeId) (fr : Nat × Nat) (hC : C = (l.map (Value.int .u8)).toArray) (hl : l.length ≤ 9223372036854775807) :
  Kd.C (Kd.int .u8) (w.alloc (.cells C t fr)) (some ⟨w.heap.size, 0, none⟩) l.length l := by
 refine ⟨rfl, hl, fun _ => ⟨_, rfl, fun j p hj => ?_⟩⟩
 refine ⟨[.int .u8 p], rfl, rfl, fun i u hu => ?_⟩
 have hi : i = 0 := by
  cases i with
  | zero => rfl
  | succ i => simp at hu
 subst hi
 have hu' : u = .int .u8 p := by simpa using hu.symm
 subst hu'
 subst hC
 have hj' : j < l.length := (List.getElem?_eq_some_iff.1 hj).1
 have := cell_of_row (w.alloc (.cells (l.map (Value.int .u8)).toArray t fr)) w.heap.size j (l.map (Value.int .u8)).toArray t fr (heap_alloc_new w _)
 have ha : (Addr.add ⟨w.heap.size, 0, none⟩ (j * (Kd.int .u8).sz + 0)) = ⟨w.heap.size, j, none⟩ := by
  have e1 : (j * (Kd.int .u8).sz + 0) = j := by simp [Kd.int, Kd.scalar]
  rw [e1]
  unfold Addr.add
  split <;> simp_all
 rw [ha, this]
 simp [hj]
mutual
def spec_PatchEscaped.l0 : Nat → ByteArray → ByteArray → ByteArray → Int → Int → Option (ByteArray)
 | 0, _, _, _, _, _ => none
 | k + 1, x0, x3, x4, x11, x12 => if x12 < x11 then (if 0 ≤ x12 then (if x12 < (x0.size : Int) then (if 97 ≤ (bt x0 x12) then (if (bt x0 x12) ≤ 122 then (spec_PatchEscaped.j1 k x0 x3 x4 x12 (bt x0 x12) true x11 x12) else (if 65 ≤ (bt x0 x12) then (if (bt x0 x12) ≤ 90 then (spec_PatchEscaped.j1 k x0 x3 x4 x12 (bt x0 x12) true x11 x12) else (if 48 ≤ (bt x0 x12) then (if (bt x0 x12) ≤ 57 then (spec_PatchEscaped.j1 k x0 x3 x4 x12 (bt x0 x12) true x11 x12) else (spec_PatchEscaped.j1 k x0 x3 x4 x12 (bt x0 x12) ((bt x0 x12) == 32) x11 x12)) else (spec_PatchEscaped.j1 k x0 x3 x4 x12 (bt x0 x12) ((bt x0 x12) == 32) x11 x12))) else (if 48 ≤ (bt x0 x12) then (if (bt x0 x12) ≤ 57 then (spec_PatchEscaped.j1 k x0 x3 x4 x12 (bt x0 x12) true x11 x12) else (spec_PatchEscaped.j1 k x0 x3 x4 x12 (bt x0 x12) ((bt x0 x12) == 32) x11 x12)) else (spec_PatchEscaped.j1 k x0 x3 x4 x12 (bt x0 x12) ((bt x0 x12) == 32) x11 x12)))) else (if 65 ≤ (bt x0 x12) then (if (bt x0 x12) ≤ 90 then (spec_PatchEscaped.j1 k x0 x3 x4 x12 (bt x0 x12) true x11 x12) else (if 48 ≤ (bt x0 x12) then (if (bt x0 x12) ≤ 57 then (spec_PatchEscaped.j1 k x0 x3 x4 x12 (bt x0 x12) true x11 x12) else (spec_PatchEscaped.j1 k x0 x3 x4 x12 (bt x0 x12) ((bt x0 x12) == 32) x11 x12)) else (spec_PatchEscaped.j1 k x0 x3 x4 x12 (bt x0 x12) ((bt x0 x12) == 32) x11 x12))) else (if 48 ≤ (bt x0 x12) then (if (bt x0 x12) ≤ 57 then (spec_PatchEscaped.j1 k x0 x3 x4 x12 (bt x0 x12) true x11 x12) else (spec_PatchEscaped.j1 k x0 x3 x4 x12 (bt x0 x12) ((bt x0 x12) == 32) x11 x12)) else (spec_PatchEscaped.j1 k x0 x3 x4 x12 (bt x0 x12) ((bt x0 x12) == 32) x11 x12)))) else (none)) else (none)) else (some x3)
def spec_PatchEscaped.j1 : Nat → ByteArray → ByteArray → ByteArray → Int → Int → Bool → Int → Int → Option (ByteArray)
 | 0, _, _, _, _, _, _, _, _ => none
 | k + 1, x0, x3, x4, x5, x6, x7, x11, x12 => (some (([45, 95, 46, 126, 33, 39, 40, 41, 59, 47, 63, 58, 64, 38, 61, 43, 36, 44, 35, 42] : List Int) : List Int)).bind fun y811 => (spec_PatchEscaped.l1 k x0 x3 x4 x5 x6 x7 x11 x12 y811 (y811.length : Int) 0)
def spec_PatchEscaped.l1 : Nat → ByteArray → ByteArray → ByteArray → Int → Int → Bool → Int → Int → List Int → Int → Int → Option (ByteArray)
 | 0, _, _, _, _, _, _, _, _, _, _, _ => none
 | k + 1, x0, x3, x4, x5, x6, x7, x11, x12, x45, x46, x47 => if x47 < x46 then (if 0 ≤ x47 then (if x47 < (x45.length : Int) then (if x7 = true then (spec_PatchEscaped.l1 k x0 x3 x4 x5 x6 true x11 x12 x45 x46 (wrap64 (x47 + 1))) else (spec_PatchEscaped.l1 k x0 x3 x4 x5 x6 (x6 == (rd x45 x47)) x11 x12 x45 x46 (wrap64 (x47 + 1)))) else (none)) else (none)) else (if x7 = true then (if 0 ≤ x5 then (if x5 ≤ (wrap64 (x5 + 1)) then (if (wrap64 (x5 + 1)) ≤ (x0.size : Int) then (if x3.size + (x0.extract (x5 : Int).toNat ((wrap64 (x5 + 1)) : Int).toNat).size ≤ 9223372036854775807 then (spec_PatchEscaped.l0 k x0 (x3 ++ (x0.extract (x5 : Int).toNat ((wrap64 (x5 + 1)) : Int).toNat)) x4 x11 (wrap64 (x12 + 1))) else (none)) else (none)) else (none)) else (none)) else (if 0 ≤ (x6 / 16) then (if (x6 / 16) ≤ (((x6 / 16) + 1) % 256) then (if (((x6 / 16) + 1) % 256) ≤ (x4.size : Int) then (if 1 + (x4.extract ((x6 / 16) : Int).toNat ((((x6 / 16) + 1) % 256) : Int).toNat).size ≤ 9223372036854775807 then (if 0 ≤ (Go.bits .and .u8 x6 15) then (if (Go.bits .and .u8 x6 15) ≤ (((Go.bits .and .u8 x6 15) + 1) % 256) then (if (((Go.bits .and .u8 x6 15) + 1) % 256) ≤ (x4.size : Int) then (if ((⟨#[37]⟩ : ByteArray) ++ (x4.extract ((x6 / 16) : Int).toNat ((((x6 / 16) + 1) % 256) : Int).toNat)).size + (x4.extract ((Go.bits .and .u8 x6 15) : Int).toNat ((((Go.bits .and .u8 x6 15) + 1) % 256) : Int).toNat).size ≤ 9223372036854775807 then (if x3.size + (((⟨#[37]⟩ : ByteArray) ++ (x4.extract ((x6 / 16) : Int).toNat ((((x6 / 16) + 1) % 256) : Int).toNat)) ++ (x4.extract ((Go.bits .and .u8 x6 15) : Int).toNat ((((Go.bits .and .u8 x6 15) + 1) % 256) : Int).toNat)).size ≤ 9223372036854775807 then (spec_PatchEscaped.l0 k x0 (x3 ++ (((⟨#[37]⟩ : ByteArray) ++ (x4.extract ((x6 / 16) : Int).toNat ((((x6 / 16) + 1) % 256) : Int).toNat)) ++ (x4.extract ((Go.bits .and .u8 x6 15) : Int).toNat ((((Go.bits .and .u8 x6 15) + 1) % 256) : Int).toNat))) x4 x11 (wrap64 (x12 + 1))) else (none)) else (none)) else (none)) else (none)) else (none)) else (none)) else (none)) else (none)) else (none)))
end
def spec_PatchEscaped.f (k : Nat) (a0 : ByteArray) : Option (ByteArray) := spec_PatchEscaped.l0 k a0 (⟨#[]⟩ : ByteArray) (⟨#[48, 49, 50, 51, 52, 53, 54, 55, 56, 57, 65, 66, 67, 68, 69, 70]⟩ : ByteArray) (a0.size : Int) 0
theorem spec_PatchEscaped.calls (k : Nat) (a0 : ByteArray) (r : ByteArray) (w : World) (h : spec_PatchEscaped.f k a0 = some r) :
  Calls Tryz.prog 45 #[.string a0] w fun e w' => e = .returned (.string r) ∧ Below w.heap.size w w' := by
 have HB := aS_ (Below.refl w.heap.size w)
 have H : (spec_PatchEscaped.l0 k a0 (⟨#[]⟩ : ByteArray) (⟨#[48, 49, 50, 51, 52, 53, 54, 55, 56, 57, 65, 66, 67, 68, 69, 70]⟩ : ByteArray) (a0.size : Int) 0) = some r := h
 clear h
 have H' := Aside0.mk H
 clear H
 go_enter Tryz.func45, Tryz.ntmps45
 go_wp2
 go_loopg [3, 12] k (fun kq v3 v12 w' => ∃ (x3_1 : ByteArray) (x12_1 : Int), v3 = .string x3_1 ∧ v12 = .int .i64 x12_1 ∧ Aside0 (spec_PatchEscaped.l0 kq a0 x3_1 (⟨#[48, 49, 50, 51, 52, 53, 54, 55, 56, 57, 65, 66, 67, 68, 69, 70]⟩ : ByteArray) (a0.size : Int) x12_1 = some r) ∧ Aside0 (kq ≤ k) ∧ Aside0 (Below w.heap.size w w'))
 case atStart => exact ⟨((⟨#[]⟩ : ByteArray)), (0), (by rfl), (by rfl), H', ⟨Nat.le_refl _⟩, ⟨bel_ HB.out⟩⟩
 case round =>
  clear H'
  obtain ⟨x3_1, x12_1, rfl, rfl, HA, HK1, HB⟩ := hrel
  cases gk with
  | zero => exact absurd HA.out (by simp [spec_PatchEscaped.l0])
  | succ k1 =>
   have H := HA.out; clear HA
   simp only [spec_PatchEscaped.l0] at H
   by_cases c2 : x12_1 < (a0.size : Int)
   ·rw [if_pos c2] at H
    have c2b0 := decide_eq_true c2
    clear c2
    replace H := yes_ H; obtain ⟨c3, H⟩ := H
    have c3b0 := decide_eq_true c3
    clear c3
    replace H := yes_ H; obtain ⟨c4, H⟩ := H
    have c4b0 := decide_eq_true c4
    clear c4
    have HC6 := Aside0.mk H
    clear H
    have p5 : 0 ≤ (x12_1 : Int) := of_decide_eq_true (by assumption)
    have q5 : x12_1 < (a0.size : Int) := of_decide_eq_true (by assumption)
    have hx5 := bt_at a0 x12_1
    replace p5 := eq_true p5
    replace q5 := eq_true q5
    go_upto_region 6 with (fail)
    go_cut [7] (fun v7 wc => ∃ (kq : Nat) (x7_5 : Bool), v7 = .bool x7_5 ∧ Aside0 (spec_PatchEscaped.j1 kq a0 x3_1 (⟨#[48, 49, 50, 51, 52, 53, 54, 55, 56, 57, 65, 66, 67, 68, 69, 70]⟩ : ByteArray) x12_1 (bt a0 x12_1) x7_5 (a0.size : Int) x12_1 = some r) ∧ Aside0 (kq ≤ k1) ∧ Aside0 (Below w.heap.size w wc))
    case first =>
     have H := HC6.out
     clear HC6
     by_cases c7 : 97 ≤ (bt a0 x12_1)
     ·rw [if_pos c7] at H
      have c7b0 := decide_eq_true c7
      clear c7
      by_cases c8 : (bt a0 x12_1) ≤ 122
      ·rw [if_pos c8] at H
       have c8b0 := decide_eq_true c8
       clear c8
       have H' := Aside0.mk H
       clear H
       go_wp2
       go_meet
       case rel => exact ⟨_, (true), (by rfl), H', ⟨by have := HK1.out; omega⟩, ⟨bel_ HB.out⟩⟩
      ·rw [if_neg c8] at H
       have c8b0 := decide_eq_false c8
       clear c8
       by_cases c9 : 65 ≤ (bt a0 x12_1)
       ·rw [if_pos c9] at H
        have c9b0 := decide_eq_true c9
        clear c9
        by_cases c10 : (bt a0 x12_1) ≤ 90
        ·rw [if_pos c10] at H
         have c10b0 := decide_eq_true c10
         clear c10
         have H' := Aside0.mk H
         clear H
         go_wp2
         go_meet
         case rel => exact ⟨_, (true), (by rfl), H', ⟨by have := HK1.out; omega⟩, ⟨bel_ HB.out⟩⟩
        ·rw [if_neg c10] at H
         have c10b0 := decide_eq_false c10
         clear c10
         by_cases c11 : 48 ≤ (bt a0 x12_1)
         ·rw [if_pos c11] at H
          have c11b0 := decide_eq_true c11
          clear c11
          by_cases c12 : (bt a0 x12_1) ≤ 57
          ·rw [if_pos c12] at H
           have c12b0 := decide_eq_true c12
           clear c12
           have H' := Aside0.mk H
           clear H
           go_wp2
           go_meet
           case rel => exact ⟨_, (true), (by rfl), H', ⟨by have := HK1.out; omega⟩, ⟨bel_ HB.out⟩⟩
          ·rw [if_neg c12] at H
           have c12b0 := decide_eq_false c12
           clear c12
           have H' := Aside0.mk H
           clear H
           go_wp2
           go_meet
           case rel => exact ⟨_, (((bt a0 x12_1) == 32)), (by rfl), H', ⟨by have := HK1.out; omega⟩, ⟨bel_ HB.out⟩⟩
         ·rw [if_neg c11] at H
          have c11b0 := decide_eq_false c11
          clear c11
          have H' := Aside0.mk H
          clear H
          go_wp2
          go_meet
          case rel => exact ⟨_, (((bt a0 x12_1) == 32)), (by rfl), H', ⟨by have := HK1.out; omega⟩, ⟨bel_ HB.out⟩⟩
       ·rw [if_neg c9] at H
        have c9b0 := decide_eq_false c9
        clear c9
        by_cases c13 : 48 ≤ (bt a0 x12_1)
        ·rw [if_pos c13] at H
         have c13b0 := decide_eq_true c13
         clear c13
         by_cases c14 : (bt a0 x12_1) ≤ 57
         ·rw [if_pos c14] at H
          have c14b0 := decide_eq_true c14
          clear c14
          have H' := Aside0.mk H
          clear H
          go_wp2
          go_meet
          case rel => exact ⟨_, (true), (by rfl), H', ⟨by have := HK1.out; omega⟩, ⟨bel_ HB.out⟩⟩
         ·rw [if_neg c14] at H
          have c14b0 := decide_eq_false c14
          clear c14
          have H' := Aside0.mk H
          clear H
          go_wp2
          go_meet
          case rel => exact ⟨_, (((bt a0 x12_1) == 32)), (by rfl), H', ⟨by have := HK1.out; omega⟩, ⟨bel_ HB.out⟩⟩
        ·rw [if_neg c13] at H
         have c13b0 := decide_eq_false c13
         clear c13
         have H' := Aside0.mk H
         clear H
         go_wp2
         go_meet
         case rel => exact ⟨_, (((bt a0 x12_1) == 32)), (by rfl), H', ⟨by have := HK1.out; omega⟩, ⟨bel_ HB.out⟩⟩
     ·rw [if_neg c7] at H
      have c7b0 := decide_eq_false c7
      clear c7
      by_cases c15 : 65 ≤ (bt a0 x12_1)
      ·rw [if_pos c15] at H
       have c15b0 := decide_eq_true c15
       clear c15
       by_cases c16 : (bt a0 x12_1) ≤ 90
       ·rw [if_pos c16] at H
        have c16b0 := decide_eq_true c16
        clear c16
        have H' := Aside0.mk H
        clear H
        go_wp2
        go_meet
        case rel => exact ⟨_, (true), (by rfl), H', ⟨by have := HK1.out; omega⟩, ⟨bel_ HB.out⟩⟩
       ·rw [if_neg c16] at H
        have c16b0 := decide_eq_false c16
        clear c16
        by_cases c17 : 48 ≤ (bt a0 x12_1)
        ·rw [if_pos c17] at H
         have c17b0 := decide_eq_true c17
         clear c17
         by_cases c18 : (bt a0 x12_1) ≤ 57
         ·rw [if_pos c18] at H
          have c18b0 := decide_eq_true c18
          clear c18
          have H' := Aside0.mk H
          clear H
          go_wp2
          go_meet
          case rel => exact ⟨_, (true), (by rfl), H', ⟨by have := HK1.out; omega⟩, ⟨bel_ HB.out⟩⟩
         ·rw [if_neg c18] at H
          have c18b0 := decide_eq_false c18
          clear c18
          have H' := Aside0.mk H
          clear H
          go_wp2
          go_meet
          case rel => exact ⟨_, (((bt a0 x12_1) == 32)), (by rfl), H', ⟨by have := HK1.out; omega⟩, ⟨bel_ HB.out⟩⟩
        ·rw [if_neg c17] at H
         have c17b0 := decide_eq_false c17
         clear c17
         have H' := Aside0.mk H
         clear H
         go_wp2
         go_meet
         case rel => exact ⟨_, (((bt a0 x12_1) == 32)), (by rfl), H', ⟨by have := HK1.out; omega⟩, ⟨bel_ HB.out⟩⟩
      ·rw [if_neg c15] at H
       have c15b0 := decide_eq_false c15
       clear c15
       by_cases c19 : 48 ≤ (bt a0 x12_1)
       ·rw [if_pos c19] at H
        have c19b0 := decide_eq_true c19
        clear c19
        by_cases c20 : (bt a0 x12_1) ≤ 57
        ·rw [if_pos c20] at H
         have c20b0 := decide_eq_true c20
         clear c20
         have H' := Aside0.mk H
         clear H
         go_wp2
         go_meet
         case rel => exact ⟨_, (true), (by rfl), H', ⟨by have := HK1.out; omega⟩, ⟨bel_ HB.out⟩⟩
        ·rw [if_neg c20] at H
         have c20b0 := decide_eq_false c20
         clear c20
         have H' := Aside0.mk H
         clear H
         go_wp2
         go_meet
         case rel => exact ⟨_, (((bt a0 x12_1) == 32)), (by rfl), H', ⟨by have := HK1.out; omega⟩, ⟨bel_ HB.out⟩⟩
       ·rw [if_neg c19] at H
        have c19b0 := decide_eq_false c19
        clear c19
        have H' := Aside0.mk H
        clear H
        go_wp2
        go_meet
        case rel => exact ⟨_, (((bt a0 x12_1) == 32)), (by rfl), H', ⟨by have := HK1.out; omega⟩, ⟨bel_ HB.out⟩⟩
    case rest =>
     clear HC6
     obtain ⟨kq, x7_5, rfl, HA, HJ5, HB⟩ := hcut
     cases kq with
     | zero => exact absurd HA.out (by simp [spec_PatchEscaped.j1])
     | succ kj5 =>
      have H := HA.out; clear HA
      simp only [spec_PatchEscaped.j1] at H
      obtain ⟨y811, hy811, H⟩ := bindc_ H
      have Ny811 := Aside0.mk hy811
      clear hy811
      have H' := Aside0.mk H
      clear H
      have kc := fun (w : World) (C : Array Value) (n c : Nat) => Lib.run_convert_bytes_const (P := Tryz.prog) w 97 5 C n c Tryz.underlying97 Tryz.underlying5
      go_wp2
      clear kc
      have HO45_ : Kd.C (Kd.int .u8) (wc.alloc (.cells #[.int .u8 45, .int .u8 95, .int .u8 46, .int .u8 126, .int .u8 33, .int .u8 39, .int .u8 40, .int .u8 41, .int .u8 59, .int .u8 47, .int .u8 63, .int .u8 58, .int .u8 64, .int .u8 38, .int .u8 61, .int .u8 43, .int .u8 36, .int .u8 44, .int .u8 35, .int .u8 42] 5 (20, 21))) (some ⟨wc.heap.size, 0, none⟩) y811.length y811 := by rw [Ny811.out]; exact const_row wc _ _ _ _ rfl (by decide)
      have L20_ : (y811.length : Int) = 20 := by rw [Ny811.out]; rfl
      obtain ⟨ad45, had45⟩ : ∃ a : Addr, a = ⟨wc.heap.size, 0, none⟩ := ⟨_, rfl⟩
      rw [← had45] at HO45_ ⊢
      have HO813 := Aside0.mk HO45_
      clear HO45_ had45
      go_loopg [7, 47] kj5 (fun kq v7 v47 w' => ∃ (x7_3 : Bool) (x47_3 : Int), v7 = .bool x7_3 ∧ v47 = .int .i64 x47_3 ∧ Aside0 (spec_PatchEscaped.l1 kq a0 x3_1 (⟨#[48, 49, 50, 51, 52, 53, 54, 55, 56, 57, 65, 66, 67, 68, 69, 70]⟩ : ByteArray) x12_1 (bt a0 x12_1) x7_3 (a0.size : Int) x12_1 y811 (y811.length : Int) x47_3 = some r) ∧ Aside0 (kq ≤ kj5) ∧ Aside0 (Kd.C (Kd.int .u8) w' (some ad45) y811.length y811) ∧ Aside0 (Below w.heap.size w w'))
      case atStart => exact ⟨(x7_5), (0), (by rfl), (by rfl), H', ⟨Nat.le_refl _⟩, ⟨by exact HO813.out⟩, ⟨bel_ HB.out⟩⟩
      case round =>
       clear H'
       obtain ⟨x7_3, x47_3, rfl, rfl, HA, HK3, HO_45, HB⟩ := hrel
       cases gk with
       | zero => exact absurd HA.out (by simp [spec_PatchEscaped.l1])
       | succ k3 =>
        have H := HA.out; clear HA
        simp only [spec_PatchEscaped.l1] at H
        by_cases c24 : x47_3 < (y811.length : Int)
        ·rw [if_pos c24] at H
         have c24b0 := decide_eq_true c24
         have c24b0z := c24b0
         rw [L20_] at c24b0z
         clear c24
         replace H := yes_ H; obtain ⟨c25, H⟩ := H
         have c25b0 := decide_eq_true c25
         clear c25
         replace H := yes_ H; obtain ⟨c26, H⟩ := H
         have c26b0 := decide_eq_true c26
         have c26b0z := c26b0
         rw [L20_] at c26b0z
         clear c26
         by_cases c27 : x7_3 = true
         ·subst c27
          rw [if_pos rfl] at H
          have H' := Aside0.mk H
          clear H
          have p814 : 0 ≤ (x47_3 : Int) := of_decide_eq_true (by assumption)
          have q814 : x47_3 < (y811.length : Int) := of_decide_eq_true (by assumption)
          obtain ⟨ad814, e814, hx814_0⟩ := Kd.at_int HO_45.out x47_3 p814 q814
          cases e814
          replace p814 := eq_true p814
          rw [L20_] at q814
          replace q814 := eq_true q814
          go_wp2
          go_roundg k3
          case measure => have := HK1.out; have := HJ5.out; have := HK3.out; omega
          case rel => exact ⟨(true), (wrap64 (x47_3 + 1)), (by rfl), (by rfl), H', ⟨by have := HK1.out; have := HJ5.out; have := HK3.out; omega⟩, ⟨by ((with_reducible skip); exact HO_45.out)⟩, ⟨bel_ HB.out⟩⟩
         ·replace c27 := Bool.eq_false_iff.mpr c27
          subst c27
          rw [if_neg (show ¬ (false = true) by decide)] at H
          have H' := Aside0.mk H
          clear H
          have p814 : 0 ≤ (x47_3 : Int) := of_decide_eq_true (by assumption)
          have q814 : x47_3 < (y811.length : Int) := of_decide_eq_true (by assumption)
          obtain ⟨ad814, e814, hx814_0⟩ := Kd.at_int HO_45.out x47_3 p814 q814
          cases e814
          replace p814 := eq_true p814
          rw [L20_] at q814
          replace q814 := eq_true q814
          go_wp2
          go_roundg k3
          case measure => have := HK1.out; have := HJ5.out; have := HK3.out; omega
          case rel => exact ⟨(((bt a0 x12_1) == (rd y811 x47_3))), (wrap64 (x47_3 + 1)), (by rfl), (by rfl), H', ⟨by have := HK1.out; have := HJ5.out; have := HK3.out; omega⟩, ⟨by ((with_reducible skip); exact HO_45.out)⟩, ⟨bel_ HB.out⟩⟩
        ·rw [if_neg c24] at H
         have c24b0 := decide_eq_false c24
         have c24b0z := c24b0
         rw [L20_] at c24b0z
         clear c24
         by_cases c28 : x7_3 = true
         ·subst c28
          rw [if_pos rfl] at H
          replace H := yes_ H; obtain ⟨c29, H⟩ := H
          have c29b0 := eq_true c29
          have c29b1 := decide_eq_true c29
          clear c29
          replace H := yes_ H; obtain ⟨c30, H⟩ := H
          have c30b0 := eq_true c30
          have c30b1 := decide_eq_true c30
          replace H := yes_ H; obtain ⟨c31, H⟩ := H
          have c31b0 := eq_true c31
          have c31b1 := decide_eq_true c31
          replace H := yes_ H; obtain ⟨c32, H⟩ := H
          have c32b0 := eq_true c32
          have c32b1 := decide_eq_true c32
          try have c32b2 : (9223372036854775807 < x3_1.size + (a0.extract (x12_1 : Int).toNat ((wrap64 (x12_1 + 1)) : Int).toNat).size) = False := eq_false (Nat.not_lt.2 c32)
          have H' := Aside0.mk H
          clear H
          go_wp2
          go_roundg k3
          case measure => have := HK1.out; have := HJ5.out; have := HK3.out; omega
          case rel => exact ⟨(x3_1 ++ (a0.extract (x12_1 : Int).toNat ((wrap64 (x12_1 + 1)) : Int).toNat)), (wrap64 (x12_1 + 1)), (by rfl), (by rfl), H', ⟨by have := HK1.out; have := HJ5.out; have := HK3.out; omega⟩, ⟨bel_ HB.out⟩⟩
         ·replace c28 := Bool.eq_false_iff.mpr c28
          subst c28
          rw [if_neg (show ¬ (false = true) by decide)] at H
          obtain ⟨ji33, hji33⟩ : ∃ j_ : Int, ((bt a0 x12_1) / 16) = j_ := ⟨_, rfl⟩
          rw [hji33] at H
          replace H := yes_ H; obtain ⟨c34, H⟩ := H
          have c34b0 := eq_true c34
          have c34b1 := decide_eq_true c34
          clear c34
          replace H := yes_ H; obtain ⟨c35, H⟩ := H
          have c35b0 := eq_true c35
          have c35b1 := decide_eq_true c35
          replace H := yes_ H; obtain ⟨c36, H⟩ := H
          have c36b0 := eq_true c36
          have c36b1 := decide_eq_true c36
          replace H := yes_ H; obtain ⟨c37, H⟩ := H
          have c37b0 := eq_true c37
          have c37b1 := decide_eq_true c37
          try have c37b2 : (9223372036854775807 < 1 + ((⟨#[48, 49, 50, 51, 52, 53, 54, 55, 56, 57, 65, 66, 67, 68, 69, 70]⟩ : ByteArray).extract ((ji33) : Int).toNat ((((ji33) + 1) % 256) : Int).toNat).size) = False := eq_false (Nat.not_lt.2 c37)
          replace H := yes_ H; obtain ⟨c38, H⟩ := H
          have c38b0 := eq_true c38
          have c38b1 := decide_eq_true c38
          clear c38
          replace H := yes_ H; obtain ⟨c39, H⟩ := H
          have c39b0 := eq_true c39
          have c39b1 := decide_eq_true c39
          replace H := yes_ H; obtain ⟨c40, H⟩ := H
          have c40b0 := eq_true c40
          have c40b1 := decide_eq_true c40
          replace H := yes_ H; obtain ⟨c41, H⟩ := H
          have c41b0 := eq_true c41
          have c41b1 := decide_eq_true c41
          try have c41b2 : (9223372036854775807 < ((⟨#[37]⟩ : ByteArray) ++ ((⟨#[48, 49, 50, 51, 52, 53, 54, 55, 56, 57, 65, 66, 67, 68, 69, 70]⟩ : ByteArray).extract ((ji33) : Int).toNat ((((ji33) + 1) % 256) : Int).toNat)).size + ((⟨#[48, 49, 50, 51, 52, 53, 54, 55, 56, 57, 65, 66, 67, 68, 69, 70]⟩ : ByteArray).extract ((Go.bits .and .u8 (bt a0 x12_1) 15) : Int).toNat ((((Go.bits .and .u8 (bt a0 x12_1) 15) + 1) % 256) : Int).toNat).size) = False := eq_false (Nat.not_lt.2 c41)
          replace H := yes_ H; obtain ⟨c42, H⟩ := H
          have c42b0 := eq_true c42
          have c42b1 := decide_eq_true c42
          try have c42b2 : (9223372036854775807 < x3_1.size + (((⟨#[37]⟩ : ByteArray) ++ ((⟨#[48, 49, 50, 51, 52, 53, 54, 55, 56, 57, 65, 66, 67, 68, 69, 70]⟩ : ByteArray).extract ((ji33) : Int).toNat ((((ji33) + 1) % 256) : Int).toNat)) ++ ((⟨#[48, 49, 50, 51, 52, 53, 54, 55, 56, 57, 65, 66, 67, 68, 69, 70]⟩ : ByteArray).extract ((Go.bits .and .u8 (bt a0 x12_1) 15) : Int).toNat ((((Go.bits .and .u8 (bt a0 x12_1) 15) + 1) % 256) : Int).toNat)).size) = False := eq_false (Nat.not_lt.2 c42)
          have H' := Aside0.mk H
          clear H
          go_wp2
          repeat (go_quiet (fail); try go_wp2)
          go_roundg k3
          case measure => have := HK1.out; have := HJ5.out; have := HK3.out; omega
          case rel => exact ⟨(x3_1 ++ (((⟨#[37]⟩ : ByteArray) ++ ((⟨#[48, 49, 50, 51, 52, 53, 54, 55, 56, 57, 65, 66, 67, 68, 69, 70]⟩ : ByteArray).extract ((ji33) : Int).toNat ((((ji33) + 1) % 256) : Int).toNat)) ++ ((⟨#[48, 49, 50, 51, 52, 53, 54, 55, 56, 57, 65, 66, 67, 68, 69, 70]⟩ : ByteArray).extract ((Go.bits .and .u8 (bt a0 x12_1) 15) : Int).toNat ((((Go.bits .and .u8 (bt a0 x12_1) 15) + 1) % 256) : Int).toNat))), (wrap64 (x12_1 + 1)), (by rfl), (by rfl), H', ⟨by have := HK1.out; have := HJ5.out; have := HK3.out; omega⟩, ⟨bel_ HB.out⟩⟩
   ·rw [if_neg c2] at H
    have c2b0 := decide_eq_false c2
    clear c2
    obtain rfl := Option.some.inj H
    go_wp2
    go_ret
    exact ⟨by rfl, bel_ HB.out⟩
def spec_PatchLines.l0 : Nat → List ByteArray → List (S75) → Int → Int → Option (List ByteArray)
 | 0, _, _, _, _ => none
 | k + 1, x3, x22, x23, x24 => if x24 < x23 then (if 0 ≤ x24 then (if x24 < (x22.length : Int) then ((some (([(⟨#[45]⟩ : ByteArray), (⟨#[32]⟩ : ByteArray), (⟨#[43]⟩ : ByteArray)] : List ByteArray) : List ByteArray)).bind fun y823 => (if 0 ≤ (wrap64 (((rd_T75 x22 x24).f0) + 1)) then (if (wrap64 (((rd_T75 x22 x24).f0) + 1)) < (y823.length : Int) then ((spec_PatchEscaped.f k ((rd_T75 x22 x24).f1)).bind fun t827 => (if (rdOf ByteArray.empty y823 (wrap64 (((rd_T75 x22 x24).f0) + 1))).size + t827.size ≤ 9223372036854775807 then (if ((rdOf ByteArray.empty y823 (wrap64 (((rd_T75 x22 x24).f0) + 1))) ++ t827).size + 1 ≤ 9223372036854775807 then (if x3.length < 8796093022208 then (spec_PatchLines.l0 k (x3 ++ [((rdOf ByteArray.empty y823 (wrap64 (((rd_T75 x22 x24).f0) + 1))) ++ t827) ++ (⟨#[10]⟩ : ByteArray)]) x22 x23 (wrap64 (x24 + 1))) else (none)) else (none)) else (none))) else (none)) else (none))) else (none)) else (none)) else (some x3)
def spec_PatchLines.f (k : Nat) (a0_0 : Int) (a0_1 : Int) (a0_2 : Int) (a0_3 : Int) (l0_4 : List (S75)) : Option (List ByteArray) := (spec_patchSpan.f k a0_0 a0_2).bind fun t816 => (if 4 + t816.size ≤ 9223372036854775807 then (if ((⟨#[64, 64, 32, 45]⟩ : ByteArray) ++ t816).size + 2 ≤ 9223372036854775807 then ((spec_patchSpan.f k a0_1 a0_3).bind fun t817 => (if (((⟨#[64, 64, 32, 45]⟩ : ByteArray) ++ t816) ++ (⟨#[32, 43]⟩ : ByteArray)).size + t817.size ≤ 9223372036854775807 then (if ((((⟨#[64, 64, 32, 45]⟩ : ByteArray) ++ t816) ++ (⟨#[32, 43]⟩ : ByteArray)) ++ t817).size + 4 ≤ 9223372036854775807 then (spec_PatchLines.l0 k (([((((⟨#[64, 64, 32, 45]⟩ : ByteArray) ++ t816) ++ (⟨#[32, 43]⟩ : ByteArray)) ++ t817) ++ (⟨#[32, 64, 64, 10]⟩ : ByteArray)] : List ByteArray)) l0_4 (l0_4.length : Int) 0) else (none)) else (none))) else (none)) else (none))
def spec_PatchLines.T1 : Bool × List (List Nat × List Nat) := (true, [([], []), ([0], [0]), ([], []), ([2], [2]), ([1, 3], [1, 3]), ([4], [4]), ([5], [5]), ([], []), ([7], [7]), ([], []), ([9], [9]), ([8, 10, 4], [8, 10]), ([6, 11], [6, 11]), ([12], [12]), ([13], [13]), ([14, 11, 0, 1, 2, 3, 4, 5, 6, 7, 8, 9, 10, 11, 12, 13, 14], [14])])
def spec_PatchLines.B1 : List Nat := [0, 1, 0, 4, 15, 31, 63, 0, 128, 0, 512, 1951, 4095, 8191, 16383, 32767]
theorem spec_PatchLines.tab1 : rtab .any (opsOf Tryz.f24 1) = spec_PatchLines.T1 := by kernel_rfl
theorem spec_PatchLines.bits1 : waitsOk spec_PatchLines.T1.2 spec_PatchLines.B1 = true := by kernel_rfl
def spec_PatchLines.T5 : Bool × List (List Nat × List Nat) := (true, [([], []), ([], []), ([], []), ([2], [2]), ([3], [3]), ([1, 4], [1, 4]), ([5], [5]), ([], []), ([7], [7]), ([8], [8]), ([6, 9], [6, 9]), ([10], [10]), ([11], [11]), ([0, 12, 9], [0, 12]), ([13, 13, 0, 1, 2, 3, 4, 5, 6, 7, 8, 9, 10, 11, 12, 13], [0, 13])])
def spec_PatchLines.B5 : List Nat := [0, 0, 0, 4, 12, 30, 62, 0, 128, 384, 1022, 2046, 4094, 8191, 16383]
theorem spec_PatchLines.tab5 : rtab .any (opsOf Tryz.f24 5) = spec_PatchLines.T5 := by kernel_rfl
theorem spec_PatchLines.bits5 : waitsOk spec_PatchLines.T5.2 spec_PatchLines.B5 = true := by kernel_rfl
theorem spec_PatchLines.calls (k : Nat) (a0_0 : Int) (a0_1 : Int) (a0_2 : Int) (a0_3 : Int) (A0_4 : Option Addr) (c0_4 : Nat) (l0_4 : List (S75)) (r : List ByteArray) (w : World) (hr0_4 : Kd.C k75 w A0_4 l0_4.length l0_4) (hc0_4 : l0_4.length ≤ c0_4) (h : spec_PatchLines.f k a0_0 a0_1 a0_2 a0_3 l0_4 = some r) :
  Calls Tryz.prog 24 #[.agg #[.int .i64 a0_0, .int .i64 a0_1, .int .i64 a0_2, .int .i64 a0_3, .slice A0_4 l0_4.length c0_4]] w fun e w' => ∃ v0_ : Value, e = .returned (v0_) ∧ Kd.R Kd.string 9 w' w.heap.size (fun _ => True) v0_ r ∧ Below w.heap.size w w' := by
 have hu42 := Tryz.underlying42
 have hu75 := Tryz.underlying75
 have HR0_4 := Aside0.mk hr0_4
 have HC0_4 := Aside0.mk hc0_4
 clear hr0_4 hc0_4
 have HB := aS_ (Below.refl w.heap.size w)
 have H : ((spec_patchSpan.f k a0_0 a0_2).bind fun t816 => (if 4 + t816.size ≤ 9223372036854775807 then (if ((⟨#[64, 64, 32, 45]⟩ : ByteArray) ++ t816).size + 2 ≤ 9223372036854775807 then ((spec_patchSpan.f k a0_1 a0_3).bind fun t817 => (if (((⟨#[64, 64, 32, 45]⟩ : ByteArray) ++ t816) ++ (⟨#[32, 43]⟩ : ByteArray)).size + t817.size ≤ 9223372036854775807 then (if ((((⟨#[64, 64, 32, 45]⟩ : ByteArray) ++ t816) ++ (⟨#[32, 43]⟩ : ByteArray)) ++ t817).size + 4 ≤ 9223372036854775807 then (spec_PatchLines.l0 k (([((((⟨#[64, 64, 32, 45]⟩ : ByteArray) ++ t816) ++ (⟨#[32, 43]⟩ : ByteArray)) ++ t817) ++ (⟨#[32, 64, 64, 10]⟩ : ByteArray)] : List ByteArray)) l0_4 (l0_4.length : Int) 0) else (none)) else (none))) else (none)) else (none))) = some r := h
 clear h
 replace H := Option.bind_eq_some_iff.mp H
 obtain ⟨t816, A20, H⟩ := H
 have A2 := Aside0.mk A20
 clear A20
 replace H := yes_ H; obtain ⟨c3, H⟩ := H
 have c3b0 := eq_true c3
 have c3b1 := decide_eq_true c3
 try have c3b2 : (9223372036854775807 < 4 + t816.size) = False := eq_false (Nat.not_lt.2 c3)
 replace H := yes_ H; obtain ⟨c4, H⟩ := H
 have c4b0 := eq_true c4
 have c4b1 := decide_eq_true c4
 try have c4b2 : (9223372036854775807 < ((⟨#[64, 64, 32, 45]⟩ : ByteArray) ++ t816).size + 2) = False := eq_false (Nat.not_lt.2 c4)
 try have c4b3 : (9223372036854775807 < 4 + t816.size + 2) = False := eq_false (Nat.not_lt.2 (by have h_ := c4; simp only [ByteArray.size_append] at h_; exact h_))
 try have c4b4 : decide (4 + t816.size + 2 ≤ 9223372036854775807) = true := decide_eq_true (by have h_ := c4; simp only [ByteArray.size_append] at h_; exact h_)
 replace H := Option.bind_eq_some_iff.mp H
 obtain ⟨t817, A50, H⟩ := H
 have A5 := Aside0.mk A50
 clear A50
 replace H := yes_ H; obtain ⟨c6, H⟩ := H
 have c6b0 := eq_true c6
 have c6b1 := decide_eq_true c6
 try have c6b2 : (9223372036854775807 < (((⟨#[64, 64, 32, 45]⟩ : ByteArray) ++ t816) ++ (⟨#[32, 43]⟩ : ByteArray)).size + t817.size) = False := eq_false (Nat.not_lt.2 c6)
 try have c6b3 : (9223372036854775807 < 4 + t816.size + 2 + t817.size) = False := eq_false (Nat.not_lt.2 (by have h_ := c6; simp only [ByteArray.size_append] at h_; exact h_))
 try have c6b4 : decide (4 + t816.size + 2 + t817.size ≤ 9223372036854775807) = true := decide_eq_true (by have h_ := c6; simp only [ByteArray.size_append] at h_; exact h_)
 replace H := yes_ H; obtain ⟨c7, H⟩ := H
 have c7b0 := eq_true c7
 have c7b1 := decide_eq_true c7
 try have c7b2 : (9223372036854775807 < ((((⟨#[64, 64, 32, 45]⟩ : ByteArray) ++ t816) ++ (⟨#[32, 43]⟩ : ByteArray)) ++ t817).size + 4) = False := eq_false (Nat.not_lt.2 c7)
 try have c7b3 : (9223372036854775807 < 4 + t816.size + 2 + t817.size + 4) = False := eq_false (Nat.not_lt.2 (by have h_ := c7; simp only [ByteArray.size_append] at h_; exact h_))
 try have c7b4 : decide (4 + t816.size + 2 + t817.size + 4 ≤ 9223372036854775807) = true := decide_eq_true (by have h_ := c7; simp only [ByteArray.size_append] at h_; exact h_)
 obtain ⟨y818, hy818⟩ : ∃ y_ : List ByteArray, y_ = (([((((⟨#[64, 64, 32, 45]⟩ : ByteArray) ++ t816) ++ (⟨#[32, 43]⟩ : ByteArray)) ++ t817) ++ (⟨#[32, 64, 64, 10]⟩ : ByteArray)] : List ByteArray)) := ⟨_, rfl⟩
 replace H : (spec_PatchLines.l0 k y818 l0_4 (l0_4.length : Int) 0) = some r := by (rw [hy818]; with_reducible exact H)
 have Ny818 := Aside0.mk hy818
 clear hy818
 have H' := Aside0.mk H
 clear H
 go_enter Tryz.func24, Tryz.ntmps24
 try go_wp2_with (((with_reducible refine gate_dst (N := 1) rfl ?_); refine box_event ?hg (N := 1) ?hd (cs := #[.int .i64 a0_0, .int .i64 a0_1, .int .i64 a0_2, .int .i64 a0_3, .slice A0_4 l0_4.length c0_4]) (t := 42) ?hr ?_; (case hd => rfl); (case hg => rfl); (case hr => (go_simp; done)); intro gb815 hg w8 hbox hb; have BK815 := aS_ (hbox); have GW815 := aS_ ((by rw [hg]; exact (bz_ (bel_ HB.out)) : w.heap.size ≤ gb815)); have GE815 := aS_ ((by rw [hg]; exact (bz_ (bel_ HB.out)) : w.heap.size ≤ gb815)); replace HB := aS_ (bt_ (bel_ HB.out) hb); clear hb hbox hg))
 replace BK815 := aS_ (kD_ BK815.out)
 replace HB := aS_ (bD_ HB.out)
 refine sA_ (fun w' => w'.cell? ⟨gb815, 0, none⟩ = some (.int .i64 a0_0) ∧ w'.cell? ⟨gb815, 1, none⟩ = some (.int .i64 a0_1) ∧ w'.cell? ⟨gb815, 2, none⟩ = some (.int .i64 a0_2) ∧ w'.cell? ⟨gb815, 3, none⟩ = some (.int .i64 a0_3) ∧ w'.cell? ⟨gb815, 4, none⟩ = some (.slice A0_4 l0_4.length c0_4)) [] spec_PatchLines.tab1 spec_PatchLines.bits1 ⟨(bc_ BK815.out 0).trans rfl, (bc_ BK815.out 1).trans rfl, (bc_ BK815.out 2).trans rfl, (bc_ BK815.out 3).trans rfl, (bc_ BK815.out 4).trans rfl⟩ (fun hHeld HT_ HW_ => ?_)
 generalize w8.drew = w9 at BK815 HB hHeld ⊢
 refine pA_ 0 (h:=pA_ 2 (h:=pA_ 7 (h:=pA_ 9 (h:=tA_ 1 (h:=tA_ 3 (h:=tA_ 8 (h:=tA_ 10 (h:=?_))))))))
 refine oA_ 4 (some 10) (h:=fun K hK => ?_)
 refine goes_ Tryz.func44 (by kernel_rfl) rfl #[.int .i64 a0_0, .int .i64 a0_2] (by rfl) rfl rfl (by (try simp only [List.map_toArray, List.map_cons, List.map_nil]); rfl) ?_
 with_reducible refine (spec_patchSpan.calls k a0_0 a0_2 t816 _ A2.out).mono ?_
 rintro e w10 ⟨rfl, hb⟩
 refine ⟨_, rfl, ?_⟩
 replace BK815 := aS_ (blk_below (g := gb815) (o := .cells #[.int .i64 a0_0, .int .i64 a0_1, .int .i64 a0_2, .int .i64 a0_3, .slice A0_4 l0_4.length c0_4] 42 (0, 0)) (blk_st BK815.out) hb)
 replace HB := aS_ (bt_ (by with_reducible repeat exact HB.out) hb)
 refine hK.out _ _ ⟨(bc_ BK815.out 0).trans rfl, (bc_ BK815.out 1).trans rfl, (bc_ BK815.out 2).trans rfl, (bc_ BK815.out 3).trans rfl, (bc_ BK815.out 4).trans rfl⟩ (fun hHeld => ?_)
 clear hK K
 refine nA_ (h:=?_)
 refine pA_ 5 (h:=pA_ 6 (h:=?_))
 refine oA_ 11 (some 17) (h:=fun K hK => ?_)
 refine goes_ Tryz.func44 (by kernel_rfl) rfl #[.int .i64 a0_1, .int .i64 a0_3] (by rfl) rfl rfl (by (try simp only [List.map_toArray, List.map_cons, List.map_nil]); rfl) ?_
 with_reducible refine (spec_patchSpan.calls k a0_1 a0_3 t817 _ A5.out).mono ?_
 rintro e w11 ⟨rfl, hb⟩
 refine ⟨_, rfl, ?_⟩
 replace BK815 := aS_ (blk_below (g := gb815) (o := .cells #[.int .i64 a0_0, .int .i64 a0_1, .int .i64 a0_2, .int .i64 a0_3, .slice A0_4 l0_4.length c0_4] 42 (0, 0)) (blk_st BK815.out) hb)
 replace HB := aS_ (bt_ (by with_reducible repeat exact HB.out) hb)
 refine hK.out _ _ ⟨(bc_ BK815.out 0).trans rfl, (bc_ BK815.out 1).trans rfl, (bc_ BK815.out 2).trans rfl, (bc_ BK815.out 3).trans rfl, (bc_ BK815.out 4).trans rfl⟩ (fun hHeld => ?_)
 clear hK K
 refine nA_ (h:=?_)
 refine pA_ 12 (h:=pA_ 13 (h:=?_))
 refine oA_ 14 (some 20) (h:=fun K hK => ?_)
 refine Kd.R_lit_step Kd.string _ 9 ?hg (N := 20) ?hd (xs := ([((((⟨#[64, 64, 32, 45]⟩ : ByteArray) ++ t816) ++ (⟨#[32, 43]⟩ : ByteArray)) ++ t817) ++ (⟨#[32, 64, 64, 10]⟩ : ByteArray)] : List ByteArray)) (inner := [.string (((((⟨#[64, 64, 32, 45]⟩ : ByteArray) ++ t816) ++ (⟨#[32, 43]⟩ : ByteArray)) ++ t817) ++ (⟨#[32, 64, 64, 10]⟩ : ByteArray))]) (ok := fun _ => True) (okp := fun _ => True) ?hr ?hp (fun _ hk => hk) trivial (Below.refl _ _) (Nat.le_refl _) (by simp) ?_; (case hd => rfl); (case hg => rfl); (case hr => (go_simp; done)); (case hp => exact (Reps.one (show Kd.M Kd.string _ _ _ (((((⟨#[64, 64, 32, 45]⟩ : ByteArray) ++ t816) ++ (⟨#[32, 43]⟩ : ByteArray)) ++ t817) ++ (⟨#[32, 64, 64, 10]⟩ : ByteArray)) [.string (((((⟨#[64, 64, 32, 45]⟩ : ByteArray) ++ t816) ++ (⟨#[32, 43]⟩ : ByteArray)) ++ t817) ++ (⟨#[32, 64, 64, 10]⟩ : ByteArray))] from rfl) (Reps.none _ _)))
 intro v819 w12 ho13 hb hg_ hnew_
 clear hg_ hnew_
 (rw [← Ny818.out] at ho13)
 have HO820 := aS_ (Kd.R_lower ho13 (bz_ (by with_reducible repeat exact HB.out)))
 replace BK815 := aS_ (blk_below (g := gb815) (o := .cells #[.int .i64 a0_0, .int .i64 a0_1, .int .i64 a0_2, .int .i64 a0_3, .slice A0_4 l0_4.length c0_4] 42 (0, 0)) (blk_st BK815.out) hb)
 replace HB := aS_ (bt_ (by with_reducible repeat exact HB.out) hb)
 clear hb ho13
 refine hK.out _ _ ⟨(bc_ BK815.out 0).trans rfl, (bc_ BK815.out 1).trans rfl, (bc_ BK815.out 2).trans rfl, (bc_ BK815.out 3).trans rfl, (bc_ BK815.out 4).trans rfl⟩ (fun hHeld => ?_)
 clear hK K
 refine nA_ (h:=?_)
 refine pA_ 15 (h:=?_)
 refine done_ (done_of HT_.out (by kernel_rfl)) ?_
 obtain ⟨hcz14_0, hcz14_1, hcz14_2, hcz14_3, hcz14_4, hfz14_0, hfz14_1, hfz14_2, hfz14_3, hfz14_4⟩ := blk5 BK815.out
 try go_wp2
 go_loopg [3, 24] k (fun kq v3 v24 w' => ∃ (x3_1 : List ByteArray) (x24_1 : Int), v24 = .int .i64 x24_1 ∧ Aside0 (spec_PatchLines.l0 kq x3_1 l0_4 (l0_4.length : Int) x24_1 = some r) ∧ Aside0 (kq ≤ k) ∧ Aside0 (Kd.R Kd.string 9 w' w.heap.size (fun _ => True) v3 x3_1) ∧ Aside0 (w'.heap[gb815]? = some (.cells #[.int .i64 a0_0, .int .i64 a0_1, .int .i64 a0_2, .int .i64 a0_3, (.slice A0_4 l0_4.length c0_4)] 42 (0, 0))) ∧ Aside0 (Below w.heap.size w w'))
 case atStart => exact ⟨(y818), (0), (by rfl), H', ⟨Nat.le_refl _⟩, ⟨Kd.R_st HO820.out⟩, ⟨blk_st BK815.out⟩, ⟨by with_reducible repeat exact HB.out⟩⟩
 case round =>
  clear H'
  obtain ⟨x3_1, x24_1, rfl, HA, HK1, HO_3, BK815, HB⟩ := hrel
  cases gk with
  | zero => exact absurd HA.out (by simp [spec_PatchLines.l0])
  | succ k1 =>
   have H := HA.out; clear HA
   simp only [spec_PatchLines.l0] at H
   by_cases c15 : x24_1 < (l0_4.length : Int)
   ·rw [if_pos c15] at H
    have c15b0 := decide_eq_true c15
    clear c15
    replace H := yes_ H; obtain ⟨c16, H⟩ := H
    have c16b0 := decide_eq_true c16
    clear c16
    replace H := yes_ H; obtain ⟨c17, H⟩ := H
    have c17b0 := decide_eq_true c17
    clear c17
    obtain ⟨y823, hy823, H⟩ := bindc_ H
    have Ny823 := Aside0.mk hy823
    clear hy823
    obtain ⟨ji18, hji18⟩ : ∃ j_ : Int, (wrap64 (((rd_T75 l0_4 x24_1).f0) + 1)) = j_ := ⟨_, rfl⟩
    rw [hji18] at H
    have hji18w : (IntKind.i64.wrap (((rd_T75 l0_4 x24_1).f0) + 1)) = ji18 := (i64_w _).trans hji18
    replace H := yes_ H; obtain ⟨c19, H⟩ := H
    have c19b0 := decide_eq_true c19
    clear c19
    replace H := yes_ H; obtain ⟨c20, H⟩ := H
    have c20b0 := decide_eq_true c20
    clear c20
    replace H := Option.bind_eq_some_iff.mp H
    obtain ⟨t827, A210, H⟩ := H
    have A21 := Aside0.mk A210
    clear A210
    replace H := yes_ H; obtain ⟨c22, H⟩ := H
    have c22b0 := eq_true c22
    have c22b1 := decide_eq_true c22
    try have c22b2 : (9223372036854775807 < (rdOf ByteArray.empty y823 (ji18)).size + t827.size) = False := eq_false (Nat.not_lt.2 c22)
    replace H := yes_ H; obtain ⟨c23, H⟩ := H
    have c23b0 := eq_true c23
    have c23b1 := decide_eq_true c23
    try have c23b2 : (9223372036854775807 < ((rdOf ByteArray.empty y823 (ji18)) ++ t827).size + 1) = False := eq_false (Nat.not_lt.2 c23)
    have c23b9_ : (9223372036854775807 < (rdOf ByteArray.empty y823 (ji18)).size + t827.size + 1) = False := eq_false (by have h_ := c23; rw [ByteArray.size_append] at h_; omega)
    replace H := yes_ H; obtain ⟨c24, H⟩ := H
    have LMc24 := Aside0.mk c24
    clear c24
    obtain ⟨y828, hy828⟩ : ∃ y_ : List ByteArray, y_ = (x3_1 ++ [((rdOf ByteArray.empty y823 (ji18)) ++ t827) ++ (⟨#[10]⟩ : ByteArray)]) := ⟨_, rfl⟩
    replace H : (spec_PatchLines.l0 k1 y828 l0_4 (l0_4.length : Int) (wrap64 (x24_1 + 1))) = some r := by (rw [hy828]; with_reducible exact H)
    have Ny828 := Aside0.mk hy828
    clear hy828
    have H' := Aside0.mk H
    clear H
    have p821 : 0 ≤ (x24_1 : Int) := of_decide_eq_true (by assumption)
    have q821 : x24_1 < (l0_4.length : Int) := of_decide_eq_true (by assumption)
    obtain ⟨ad821, e821, hx821_0, hx821_1⟩ := at_T75 HR0_4.out x24_1 p821 q821
    cases e821
    replace hx821_0 := (HB.out.cell (World.block_lt_of_cell? w _ hx821_0)).trans hx821_0
    replace hx821_1 := (HB.out.cell (World.block_lt_of_cell? w _ hx821_1)).trans hx821_1
    replace p821 := eq_true p821
    replace q821 := eq_true q821
    try go_wp2_with (((with_reducible refine gate_dst (N := 5) rfl ?_); refine box_event ?hg (N := 5) ?hd (cs := #[.int .i64 0, .string (⟨#[]⟩ : ByteArray)]) (t := 75) ?hr ?_; (case hd => rfl); (case hg => rfl); (case hr => (go_simp; done)); intro gb822 hg w25 hbox hb; replace HO_3 := aS_ (Kd.R_below (Kd.R_st HO_3.out) hb); have BK822 := aS_ (hbox); have GW822 := aS_ ((by rw [hg]; exact (bz_ (by with_reducible repeat exact HB.out)) : w.heap.size ≤ gb822)); have GE822 := aS_ ((by rw [hg]; exact (bz_ (by with_reducible repeat exact HB.out)) : w.heap.size ≤ gb822)); replace HB := aS_ (bt_ (by with_reducible repeat exact HB.out) hb); have NB815_822 := aS_ ((by rw [hg]; exact Nat.ne_of_lt (blk_lt (g := gb815) (o := .cells #[.int .i64 a0_0, .int .i64 a0_1, .int .i64 a0_2, .int .i64 a0_3, .slice (some ad821) l0_4.length c0_4] 42 (0, 0)) (blk_st BK815.out)) : gb815 ≠ gb822)); have NB822_815 := aS_ ((by rw [hg]; exact Nat.ne_of_gt (blk_lt (g := gb815) (o := .cells #[.int .i64 a0_0, .int .i64 a0_1, .int .i64 a0_2, .int .i64 a0_3, .slice (some ad821) l0_4.length c0_4] 42 (0, 0)) (blk_st BK815.out)) : gb822 ≠ gb815)); replace BK815 := aS_ (blk_below (g := gb815) (o := .cells #[.int .i64 a0_0, .int .i64 a0_1, .int .i64 a0_2, .int .i64 a0_3, .slice (some ad821) l0_4.length c0_4] 42 (0, 0)) (blk_st BK815.out) hb); clear hb hbox hg; have hnb26 := NB822_815.out; have hnc26 := NB815_822.out; obtain ⟨hcz27_0, hcz27_1, hfz27_0, hfz27_1⟩ := blk2 BK822.out; obtain ⟨Ao28, co28, eo28⟩ := Kd.R_slice HO_3.out; subst eo28))
    have pi826 : (0 ≤ ((ji18) : Int)) = True := eq_true (of_decide_eq_true (by assumption))
    have qi826 : ((ji18) < (y823.length : Int)) = True := eq_true (of_decide_eq_true (by assumption))
    have n0_ : Aside0 (Kd.R Kd.string 9 ((w25.setCell ⟨gb822, 0, none⟩ (.int .i64 ((rd_T75 l0_4 x24_1).f0))).setCell ⟨gb822, 1, none⟩ (.string ((rd_T75 l0_4 x24_1).f1))) w.heap.size (fun _ => True) (.slice Ao28 x3_1.length co28) x3_1) := ⟨Kd.R_st (Kd.R_mono (Kd.R_far (p := ⟨gb822, 1, none⟩) (Kd.R_far (p := ⟨gb822, 0, none⟩) (Kd.R_types HO_3.out BK822.out (by decide)) (fun _ hk => hk.2) (.int .i64 ((rd_T75 l0_4 x24_1).f0))) (fun _ hk => hk.2) (.string ((rd_T75 l0_4 x24_1).f1))) (fun _ hk => trivial))⟩
    have n1_ : Aside0 (((w25.setCell ⟨gb822, 0, none⟩ (.int .i64 ((rd_T75 l0_4 x24_1).f0))).setCell ⟨gb822, 1, none⟩ (.string ((rd_T75 l0_4 x24_1).f1))).heap[gb815]? = some (.cells #[.int .i64 a0_0, .int .i64 a0_1, .int .i64 a0_2, .int .i64 a0_3, .slice (some ad821) l0_4.length c0_4] 42 (0, 0))) := ⟨by (with_reducible skip); refine blk_far ?_ NB815_822.out _; (with_reducible skip); refine blk_far ?_ NB815_822.out _; (with_reducible skip); exact BK815.out⟩
    have n2_ : Aside0 (((w25.setCell ⟨gb822, 0, none⟩ (.int .i64 ((rd_T75 l0_4 x24_1).f0))).setCell ⟨gb822, 1, none⟩ (.string ((rd_T75 l0_4 x24_1).f1))).heap[gb822]? = some (.cells #[.int .i64 ((rd_T75 l0_4 x24_1).f0), .string ((rd_T75 l0_4 x24_1).f1)] 75 (0, 0))) := ⟨by (with_reducible skip); refine blk_put (cs := #[.int .i64 ((rd_T75 l0_4 x24_1).f0), .string (⟨#[]⟩ : ByteArray)]) ?_ 1 _ rfl; (with_reducible skip); refine blk_put (cs := #[.int .i64 0, .string (⟨#[]⟩ : ByteArray)]) ?_ 0 _ rfl; (with_reducible skip); exact BK822.out⟩
    have n3_ : Aside0 (Below w.heap.size w ((w25.setCell ⟨gb822, 0, none⟩ (.int .i64 ((rd_T75 l0_4 x24_1).f0))).setCell ⟨gb822, 1, none⟩ (.string ((rd_T75 l0_4 x24_1).f1)))) := ⟨by with_reducible repeat first | exact HB.out | refine bS_ ?_ GE822.out⟩
    generalize ((w25.setCell ⟨gb822, 0, none⟩ (.int .i64 ((rd_T75 l0_4 x24_1).f0))).setCell ⟨gb822, 1, none⟩ (.string ((rd_T75 l0_4 x24_1).f1))) = w29 at n0_ n1_ n2_ n3_ ⊢
    have HO_3 := n0_
    have BK815 := n1_
    have BK822 := n2_
    have HB := n3_
    clear n0_ n1_ n2_ n3_
    replace HO_3 := aS_ (Kd.R_drew HO_3.out)
    replace BK815 := aS_ (kD_ BK815.out)
    replace BK822 := aS_ (kD_ BK822.out)
    replace HB := aS_ (bD_ HB.out)
    refine sA_ (fun w' => w'.cell? ⟨gb822, 0, none⟩ = some (.int .i64 ((rd_T75 l0_4 x24_1).f0)) ∧ w'.cell? ⟨gb822, 1, none⟩ = some (.string ((rd_T75 l0_4 x24_1).f1))) [] spec_PatchLines.tab5 spec_PatchLines.bits5 ⟨(bc_ BK822.out 0).trans rfl, (bc_ BK822.out 1).trans rfl⟩ (fun hHeld HT_ HW_ => ?_)
    generalize w29.drew = w30 at HO_3 BK815 BK822 HB hHeld ⊢
    refine pA_ 0 (h:=pA_ 2 (h:=pA_ 7 (h:=tA_ 3 (h:=pA_ 4 (h:=tA_ 8 (h:=?_))))))
    refine join_ (σ := Value × Addr) 5 #[tt, tt, tt, tt, tt, tt, tt, tt, tt, tt, ff, ff, ff, ff, ff] (fun s_ => [(29, s_.1), (34, .string (rdOf ByteArray.empty y823 (ji18))), (37, .string t827), (33, .pointer (some (s_.2.add ((ji18)).toNat)))]) (fun s_ w' => (w'.cell? ⟨gb822, 0, none⟩ = some (.int .i64 ((rd_T75 l0_4 x24_1).f0)) ∧ w'.cell? ⟨gb822, 1, none⟩ = some (.string ((rd_T75 l0_4 x24_1).f1))) ∧ (Kd.R Kd.string 9 w' w.heap.size (fun k_ => some k_ ≠ (.slice Ao28 x3_1.length co28 : Value).ownBlock) s_.1 y823) ∧ (Kd.R Kd.string 9 w' w.heap.size (fun k_ => some k_ ≠ (s_.1 : Value).ownBlock) (.slice Ao28 x3_1.length co28) x3_1) ∧ (∃ c_, (s_.1 : Value) = .slice (some s_.2) y823.length c_) ∧ (w'.heap[gb815]? = some (.cells #[.int .i64 a0_0, .int .i64 a0_1, .int .i64 a0_2, .int .i64 a0_3, .slice (some ad821) l0_4.length c0_4] 42 (0, 0))) ∧ (w'.heap[gb822]? = some (.cells #[.int .i64 ((rd_T75 l0_4 x24_1).f0), .string ((rd_T75 l0_4 x24_1).f1)] 75 (0, 0))) ∧ (Below w.heap.size w w')) ?_ ?_
    rotate_left
    ·intro hCont
     refine two_ (i := 1) (j := 9) (Ni := some 29) (Nj := some 37) #[tt, tt, tt, tt, tt, ff, ff, tt, tt, ff, ff, ff, ff, ff, ff] #[tt, ff, tt, tt, tt, ff, ff, tt, tt, tt, ff, ff, ff, ff, ff] rfl rfl rfl rfl (two_of HT_.out (by kernel_rfl)) (by decide) (by decide) (fun K hK => ?_) (fun K hK => ?_)
     ·skip
      refine Kd.R_lit_step Kd.string _ 9 ?hg (N := 29) ?hd (xs := ([(⟨#[45]⟩ : ByteArray), (⟨#[32]⟩ : ByteArray), (⟨#[43]⟩ : ByteArray)] : List ByteArray)) (inner := [.string (⟨#[45]⟩ : ByteArray), .string (⟨#[32]⟩ : ByteArray), .string (⟨#[43]⟩ : ByteArray)]) (ok := fun _ => True) (okp := fun _ => True) ?hr ?hp (fun _ hk => hk) trivial (Below.refl _ _) (Nat.le_refl _) (by simp) ?_; (case hd => rfl); (case hg => rfl); (case hr => (go_simp; done)); (case hp => exact (Reps.one (show Kd.M Kd.string _ _ _ (⟨#[45]⟩ : ByteArray) [.string (⟨#[45]⟩ : ByteArray)] from rfl) (Reps.one (show Kd.M Kd.string _ _ _ (⟨#[32]⟩ : ByteArray) [.string (⟨#[32]⟩ : ByteArray)] from rfl) (Reps.one (show Kd.M Kd.string _ _ _ (⟨#[43]⟩ : ByteArray) [.string (⟨#[43]⟩ : ByteArray)] from rfl) (Reps.none _ _)))))
      intro v824 w31 ho32 hb hg_ hnew_
      clear hg_ hnew_
      (rw [← Ny823.out] at ho32)
      have HO825 := aS_ (Kd.R_lower (Kd.R_new' ho32 (Kd.R_lt (Kd.R_st HO_3.out))) (bz_ (by with_reducible repeat exact HB.out)))
      replace HO_3 := aS_ (Kd.R_elder' (Kd.R_st HO_3.out) (Kd.R_base ho32) hb)
      replace BK815 := aS_ (blk_below (g := gb815) (o := .cells #[.int .i64 a0_0, .int .i64 a0_1, .int .i64 a0_2, .int .i64 a0_3, .slice (some ad821) l0_4.length c0_4] 42 (0, 0)) (blk_st BK815.out) hb)
      replace BK822 := aS_ (blk_below (g := gb822) (o := .cells #[.int .i64 ((rd_T75 l0_4 x24_1).f0), .string ((rd_T75 l0_4 x24_1).f1)] 75 (0, 0)) (blk_st BK822.out) hb)
      replace HB := aS_ (bt_ (by with_reducible repeat exact HB.out) hb)
      clear hb ho32
      obtain ⟨Ao33, co33, eo33⟩ := Kd.R_slice HO825.out
      subst eo33
      obtain ⟨ado33, fo33, _⟩ := Kd.at_string (Kd.R_reads' HO825.out).2.2 0 (by decide) (by rw [Ny823.out]; simp)
      cases fo33
      refine hK.out _ _ ⟨(bc_ BK822.out 0).trans rfl, (bc_ BK822.out 1).trans rfl⟩ (fun hHeld => ?_)
      clear hK K
      refine nA_ (h:=?_)
      refine pA_ 5 (h:=?_)
      refine two_ (i := 6) (j := 9) (Ni := some 34) (Nj := some 37) #[tt, tt, tt, tt, tt, tt, tt, tt, tt, ff, ff, ff, ff, ff, ff] #[tt, tt, tt, tt, tt, tt, ff, tt, tt, tt, ff, ff, ff, ff, ff] rfl rfl rfl rfl (two_of HT_.out (by kernel_rfl)) (by decide) (by decide) (fun K hK => ?_) (fun K hK => ?_)
      ·skip
       (have p826 : 0 ≤ ((ji18) : Int) := of_decide_eq_true (by assumption); have q826 : (ji18) < (y823.length : Int) := of_decide_eq_true (by assumption); obtain ⟨ad826, e826, hx826_0⟩ := Kd.at_string (Kd.R_reads' HO825.out).2.2 (ji18) p826 q826; obtain rfl : ado33 = ad826 := (by injection e826))
       refine value_ (w1 := ?_) (v := ?_) (by rfl) rfl ?_ ?_
       rotate_left 2
       ·go_simp
        constructor
        ·rfl
        ·rfl
       clear hx826_0
       refine hK.out _ _ ⟨(bc_ BK822.out 0).trans rfl, (bc_ BK822.out 1).trans rfl⟩ (fun hHeld => ?_)
       clear hK K
       refine nA_ (h:=?_)
       refine oA_ 9 (some 37) (h:=fun K hK => ?_)
       refine goes_ Tryz.func45 (by kernel_rfl) rfl #[.string ((rd_T75 l0_4 x24_1).f1)] (by rfl) rfl rfl (by (try simp only [List.map_toArray, List.map_cons, List.map_nil]); rfl) ?_
       with_reducible refine (spec_PatchEscaped.calls k1 ((rd_T75 l0_4 x24_1).f1) t827 _ A21.out).mono ?_
       rintro e w34 ⟨rfl, hb⟩
       refine ⟨_, rfl, ?_⟩
       replace HO_3 := aS_ (Kd.R_below (Kd.R_st HO_3.out) hb)
       replace HO825 := aS_ (Kd.R_below (Kd.R_st HO825.out) hb)
       replace BK815 := aS_ (blk_below (g := gb815) (o := .cells #[.int .i64 a0_0, .int .i64 a0_1, .int .i64 a0_2, .int .i64 a0_3, .slice (some ad821) l0_4.length c0_4] 42 (0, 0)) (blk_st BK815.out) hb)
       replace BK822 := aS_ (blk_below (g := gb822) (o := .cells #[.int .i64 ((rd_T75 l0_4 x24_1).f0), .string ((rd_T75 l0_4 x24_1).f1)] 75 (0, 0)) (blk_st BK822.out) hb)
       replace HB := aS_ (bt_ (by with_reducible repeat exact HB.out) hb)
       refine hK.out _ _ ⟨(bc_ BK822.out 0).trans rfl, (bc_ BK822.out 1).trans rfl⟩ (fun hHeld => ?_)
       clear hK K
       refine nA_ (h:=?_)
       exact norm_ (by simp only [putAll, Act.put, List.setIfInBounds_toArray, List.set_cons_zero, List.set_cons_succ]) (hCont (.slice (some ado33) y823.length co33, ado33) _ ⟨hHeld, (Kd.R_st (Kd.R_mono HO825.out (fun _ hk => hk.2))), (Kd.R_st (Kd.R_mono HO_3.out (fun _ hk => hk.2))), ⟨_, rfl⟩, (blk_st BK815.out), (blk_st BK822.out), (by with_reducible repeat exact HB.out)⟩)
      ·skip
       refine goes_ Tryz.func45 (by kernel_rfl) rfl #[.string ((rd_T75 l0_4 x24_1).f1)] (by rfl) rfl rfl (by (try simp only [List.map_toArray, List.map_cons, List.map_nil]); rfl) ?_
       with_reducible refine (spec_PatchEscaped.calls k1 ((rd_T75 l0_4 x24_1).f1) t827 _ A21.out).mono ?_
       rintro e w34 ⟨rfl, hb⟩
       refine ⟨_, rfl, ?_⟩
       replace HO_3 := aS_ (Kd.R_below (Kd.R_st HO_3.out) hb)
       replace HO825 := aS_ (Kd.R_below (Kd.R_st HO825.out) hb)
       replace BK815 := aS_ (blk_below (g := gb815) (o := .cells #[.int .i64 a0_0, .int .i64 a0_1, .int .i64 a0_2, .int .i64 a0_3, .slice (some ad821) l0_4.length c0_4] 42 (0, 0)) (blk_st BK815.out) hb)
       replace BK822 := aS_ (blk_below (g := gb822) (o := .cells #[.int .i64 ((rd_T75 l0_4 x24_1).f0), .string ((rd_T75 l0_4 x24_1).f1)] 75 (0, 0)) (blk_st BK822.out) hb)
       replace HB := aS_ (bt_ (by with_reducible repeat exact HB.out) hb)
       refine hK.out _ _ ⟨(bc_ BK822.out 0).trans rfl, (bc_ BK822.out 1).trans rfl⟩ (fun hHeld => ?_)
       clear hK K
       refine nA_ (h:=?_)
       refine oA_ 6 (some 34) (h:=fun K hK => ?_)
       (have p826 : 0 ≤ ((ji18) : Int) := of_decide_eq_true (by assumption); have q826 : (ji18) < (y823.length : Int) := of_decide_eq_true (by assumption); obtain ⟨ad826, e826, hx826_0⟩ := Kd.at_string (Kd.R_reads' HO825.out).2.2 (ji18) p826 q826; obtain rfl : ado33 = ad826 := (by injection e826))
       refine value_ (w1 := ?_) (v := ?_) (by rfl) rfl ?_ ?_
       rotate_left 2
       ·go_simp
        constructor
        ·rfl
        ·rfl
       clear hx826_0
       refine hK.out _ _ ⟨(bc_ BK822.out 0).trans rfl, (bc_ BK822.out 1).trans rfl⟩ (fun hHeld => ?_)
       clear hK K
       refine nA_ (h:=?_)
       exact norm_ (by simp only [putAll, Act.put, List.setIfInBounds_toArray, List.set_cons_zero, List.set_cons_succ]) (hCont (.slice (some ado33) y823.length co33, ado33) _ ⟨hHeld, (Kd.R_st (Kd.R_mono HO825.out (fun _ hk => hk.2))), (Kd.R_st (Kd.R_mono HO_3.out (fun _ hk => hk.2))), ⟨_, rfl⟩, (blk_st BK815.out), (blk_st BK822.out), (by with_reducible repeat exact HB.out)⟩)
     ·skip
      refine goes_ Tryz.func45 (by kernel_rfl) rfl #[.string ((rd_T75 l0_4 x24_1).f1)] (by rfl) rfl rfl (by (try simp only [List.map_toArray, List.map_cons, List.map_nil]); rfl) ?_
      with_reducible refine (spec_PatchEscaped.calls k1 ((rd_T75 l0_4 x24_1).f1) t827 _ A21.out).mono ?_
      rintro e w31 ⟨rfl, hb⟩
      refine ⟨_, rfl, ?_⟩
      replace HO_3 := aS_ (Kd.R_below (Kd.R_st HO_3.out) hb)
      replace BK815 := aS_ (blk_below (g := gb815) (o := .cells #[.int .i64 a0_0, .int .i64 a0_1, .int .i64 a0_2, .int .i64 a0_3, .slice (some ad821) l0_4.length c0_4] 42 (0, 0)) (blk_st BK815.out) hb)
      replace BK822 := aS_ (blk_below (g := gb822) (o := .cells #[.int .i64 ((rd_T75 l0_4 x24_1).f0), .string ((rd_T75 l0_4 x24_1).f1)] 75 (0, 0)) (blk_st BK822.out) hb)
      replace HB := aS_ (bt_ (by with_reducible repeat exact HB.out) hb)
      refine hK.out _ _ ⟨(bc_ BK822.out 0).trans rfl, (bc_ BK822.out 1).trans rfl⟩ (fun hHeld => ?_)
      clear hK K
      refine nA_ (h:=?_)
      refine oA_ 1 (some 29) (h:=fun K hK => ?_)
      refine Kd.R_lit_step Kd.string _ 9 ?hg (N := 29) ?hd (xs := ([(⟨#[45]⟩ : ByteArray), (⟨#[32]⟩ : ByteArray), (⟨#[43]⟩ : ByteArray)] : List ByteArray)) (inner := [.string (⟨#[45]⟩ : ByteArray), .string (⟨#[32]⟩ : ByteArray), .string (⟨#[43]⟩ : ByteArray)]) (ok := fun _ => True) (okp := fun _ => True) ?hr ?hp (fun _ hk => hk) trivial (Below.refl _ _) (Nat.le_refl _) (by simp) ?_; (case hd => rfl); (case hg => rfl); (case hr => (go_simp; done)); (case hp => exact (Reps.one (show Kd.M Kd.string _ _ _ (⟨#[45]⟩ : ByteArray) [.string (⟨#[45]⟩ : ByteArray)] from rfl) (Reps.one (show Kd.M Kd.string _ _ _ (⟨#[32]⟩ : ByteArray) [.string (⟨#[32]⟩ : ByteArray)] from rfl) (Reps.one (show Kd.M Kd.string _ _ _ (⟨#[43]⟩ : ByteArray) [.string (⟨#[43]⟩ : ByteArray)] from rfl) (Reps.none _ _)))))
      intro v824 w32 ho33 hb hg_ hnew_
      clear hg_ hnew_
      (rw [← Ny823.out] at ho33)
      have HO825 := aS_ (Kd.R_lower (Kd.R_new' ho33 (Kd.R_lt (Kd.R_st HO_3.out))) (bz_ (by with_reducible repeat exact HB.out)))
      replace HO_3 := aS_ (Kd.R_elder' (Kd.R_st HO_3.out) (Kd.R_base ho33) hb)
      replace BK815 := aS_ (blk_below (g := gb815) (o := .cells #[.int .i64 a0_0, .int .i64 a0_1, .int .i64 a0_2, .int .i64 a0_3, .slice (some ad821) l0_4.length c0_4] 42 (0, 0)) (blk_st BK815.out) hb)
      replace BK822 := aS_ (blk_below (g := gb822) (o := .cells #[.int .i64 ((rd_T75 l0_4 x24_1).f0), .string ((rd_T75 l0_4 x24_1).f1)] 75 (0, 0)) (blk_st BK822.out) hb)
      replace HB := aS_ (bt_ (by with_reducible repeat exact HB.out) hb)
      clear hb ho33
      obtain ⟨Ao34, co34, eo34⟩ := Kd.R_slice HO825.out
      subst eo34
      obtain ⟨ado34, fo34, _⟩ := Kd.at_string (Kd.R_reads' HO825.out).2.2 0 (by decide) (by rw [Ny823.out]; simp)
      cases fo34
      refine hK.out _ _ ⟨(bc_ BK822.out 0).trans rfl, (bc_ BK822.out 1).trans rfl⟩ (fun hHeld => ?_)
      clear hK K
      refine nA_ (h:=?_)
      refine pA_ 5 (h:=?_)
      refine oA_ 6 (some 34) (h:=fun K hK => ?_)
      (have p826 : 0 ≤ ((ji18) : Int) := of_decide_eq_true (by assumption); have q826 : (ji18) < (y823.length : Int) := of_decide_eq_true (by assumption); obtain ⟨ad826, e826, hx826_0⟩ := Kd.at_string (Kd.R_reads' HO825.out).2.2 (ji18) p826 q826; obtain rfl : ado34 = ad826 := (by injection e826))
      refine value_ (w1 := ?_) (v := ?_) (by rfl) rfl ?_ ?_
      rotate_left 2
      ·go_simp
       constructor
       ·rfl
       ·rfl
      clear hx826_0
      refine hK.out _ _ ⟨(bc_ BK822.out 0).trans rfl, (bc_ BK822.out 1).trans rfl⟩ (fun hHeld => ?_)
      clear hK K
      refine nA_ (h:=?_)
      exact norm_ (by simp only [putAll, Act.put, List.setIfInBounds_toArray, List.set_cons_zero, List.set_cons_succ]) (hCont (.slice (some ado34) y823.length co34, ado34) _ ⟨hHeld, (Kd.R_st (Kd.R_mono HO825.out (fun _ hk => hk.2))), (Kd.R_st (Kd.R_mono HO_3.out (fun _ hk => hk.2))), ⟨_, rfl⟩, (blk_st BK815.out), (blk_st BK822.out), (by with_reducible repeat exact HB.out)⟩)
    rintro ⟨v824, adz_v824⟩ w35 ⟨hS_, h0_, h1_, h2_, h3_, h4_, h5_⟩
    have n0_ : Aside0 (Kd.R Kd.string 9 w35 w.heap.size (fun k_ => some k_ ≠ (.slice Ao28 x3_1.length co28 : Value).ownBlock) v824 y823) := ⟨h0_⟩
    have n1_ : Aside0 (Kd.R Kd.string 9 w35 w.heap.size (fun k_ => some k_ ≠ (v824 : Value).ownBlock) (.slice Ao28 x3_1.length co28) x3_1) := ⟨h1_⟩
    have n2_ : Aside0 (∃ c_, (v824 : Value) = .slice (some adz_v824) y823.length c_) := ⟨h2_⟩
    have n3_ : Aside0 (w35.heap[gb815]? = some (.cells #[.int .i64 a0_0, .int .i64 a0_1, .int .i64 a0_2, .int .i64 a0_3, .slice (some ad821) l0_4.length c0_4] 42 (0, 0))) := ⟨h3_⟩
    have n4_ : Aside0 (w35.heap[gb822]? = some (.cells #[.int .i64 ((rd_T75 l0_4 x24_1).f0), .string ((rd_T75 l0_4 x24_1).f1)] 75 (0, 0))) := ⟨h4_⟩
    have n5_ : Aside0 (Below w.heap.size w w35) := ⟨h5_⟩
    clear HO_3
    clear BK815
    clear BK822
    clear HB
    clear h0_ h1_ h2_ h3_ h4_ h5_
    have HO825 := n0_
    have HO_3 := n1_
    have HA_HO825 := n2_
    have BK815 := n3_
    have BK822 := n4_
    have HB := n5_
    clear n0_ n1_ n2_ n3_ n4_ n5_
    have hHeld : w35.cell? ⟨gb822, 0, none⟩ = some (.int .i64 ((rd_T75 l0_4 x24_1).f0)) ∧ w35.cell? ⟨gb822, 1, none⟩ = some (.string ((rd_T75 l0_4 x24_1).f1)) := hS_
    obtain ⟨co36, eo36⟩ := HA_HO825.out
    clear HA_HO825
    subst eo36
    refine nA_ (h:=?_)
    refine pA_ 10 (h:=pA_ 11 (h:=?_))
    refine oA_ 12 (some 40) (h:=fun K hK => ?_)
    refine value_ (w1 := ?_) (v := ?_) (by rfl) rfl ?_ ?_
    rotate_left 2
    ·go_simp
     constructor
     ·rfl
     ·rfl
    refine hK.out _ _ ⟨(bc_ (kA_ BK822.out _) 0).trans rfl, (bc_ (kA_ BK822.out _) 1).trans rfl⟩ (fun hHeld => ?_)
    clear hK K
    refine nA_ (h:=?_)
    refine oA_ 13 (some 41) (h:=fun K hK => ?_)
    refine Kd.R_append_step Kd.string (w0 := w) w.heap.size (by rfl) (.tmp 28) (.tmp 40) 61 9 (.string ⟨#[]⟩) 16 rfl Tryz.underlying61 info9 rfl (by decide) (by omega) (.slice Ao28 x3_1.length co28) x3_1 (((rdOf ByteArray.empty y823 (ji18)) ++ t827) ++ (⟨#[10]⟩ : ByteArray)) [.string (((rdOf ByteArray.empty y823 (ji18)) ++ t827) ++ (⟨#[10]⟩ : ByteArray))] (fun k_ => some k_ ≠ (.slice (some adz_v824) y823.length co36 : Value).ownBlock) (fun _ => False) rfl rfl ?aP (fun _ hk => hk.elim) ?aF ?aO ?aB ?aS ?aL ?_
    (case aP => exact rfl)
    (case aB => exact (by with_reducible repeat exact HB.out))
    (case aF => exact (fun k_ hk => Kd.fresh' (Kd.R_lt (Kd.R_st HO825.out)) k_ hk))
    (case aO => exact (Kd.R_st HO_3.out))
    (case aS => exact (bz_ (by with_reducible repeat exact HB.out)))
    (case aL => have := LMc24.out; omega)
    intro v829 w37 ho hb hg hat
    rw [← Ny828.out] at ho
    replace BK815 := aS_ (blk_grown (g := gb815) (o := .cells #[.int .i64 a0_0, .int .i64 a0_1, .int .i64 a0_2, .int .i64 a0_3, .slice (some ad821) l0_4.length c0_4] 42 (0, 0)) (blk_st BK815.out) hg (Kd.R_ne HO_3.out BK815.out (by decide)))
    replace BK822 := aS_ (blk_grown (g := gb822) (o := .cells #[.int .i64 ((rd_T75 l0_4 x24_1).f0), .string ((rd_T75 l0_4 x24_1).f1)] 75 (0, 0)) (blk_st BK822.out) hg (Kd.R_ne HO_3.out BK822.out (by decide)))
    replace HO825 := aS_ (Kd.R_after (ok := (fun _ => True)) (Kd.R_st (Kd.R_mono HO825.out (fun _ hk => ⟨trivial, hk⟩))) hg hat)
    replace HB := aS_ (hb)
    have HO830 := aS_ (ho)
    clear HO_3
    clear ho hb hg hat
    refine hK.out _ _ ⟨(bc_ BK822.out 0).trans rfl, (bc_ BK822.out 1).trans rfl⟩ (fun hHeld => ?_)
    clear hK K
    refine nA_ (h:=?_)
    refine pA_ 14 (h:=?_)
    refine done_ (done_of HT_.out (by kernel_rfl)) ?_
    try go_wp2
    go_roundg k1
    case measure => have := HK1.out; omega
    case rel => exact ⟨(y828), (wrap64 (x24_1 + 1)), (by rfl), H', ⟨by have := HK1.out; omega⟩, ⟨Kd.R_st (Kd.R_mono HO830.out (fun _ hk => trivial))⟩, ⟨blk_st BK815.out⟩, ⟨by with_reducible repeat exact HB.out⟩⟩
   ·rw [if_neg c15] at H
    have c15b0 := decide_eq_false c15
    clear c15
    obtain rfl := Option.some.inj H
    go_wp2
    go_ret
    exact ⟨_, by rfl, Kd.R_st HO_3.out, by with_reducible repeat exact HB.out⟩
end Go.Proofs.YtgogjghfehcpoaaGreatDoor.QT
