/- Part of a verified symbolic run of the program's code (no condition of its own). -/
import Derived.Test.YtneeaigimifckaaGreatDoorQ11
import Derived.Test.YtneeaigimifckaaGreatDoorProg
import Derived.KernelRfl
import Derived.WalkKit
import Derived.Shelf.GgSortFunc.Whole
import Derived.Shelf.GgSortFunc.Tiny
import Derived.Deep.QuietTactic
import Derived.Ground.GgsProg
import Derived.Lib.SortBridge
import Derived.Sort.LotA
import Derived.Maps.RangeWalk
import Derived.Maps.OwnSet
import Derived.Maps.AppendAt
import Derived.Sort.OwnSorted
set_option linter.unusedVariables false
set_option linter.unusedSimpArgs false
noncomputable section
open Go Go.Dx Go.Mx Go.RowKit
namespace Go.Proofs
theorem wpList_mapUpdate_run {P : Program} (w w' : World) {ops : Array Oper} {rest : List Oper} {o : Oper} {a : Act} {Q : Exit → Act → World → Prop}
    (hg : o.guard = none) (m x v : Operand) (t : TypeId) (hop : o.op = Op.mapUpdate t m x v) (hrun : (Instr.mapUpdate t (a.eval m) (a.eval x) (a.eval v)).run P w = .ok () w')
    (hK : wpList P ops Q rest (a.put o.dst undef) w') : wpList P ops Q (o :: rest) a w := by
  refine wpList_plain hg fun K' hK' => ?_
  unfold Oper.wp
  simp [execOp, hop, hrun, Result.andThen]
  exact hK' _ _ hK
theorem eqSome (r : Nat) (w : World) : (binOp BinOp.eql 91 (.map (some r)) (.map none)).run Tryz.prog w = .ok (.bool false) w := by kernel_rfl
theorem eqNone (w : World) : (binOp BinOp.eql 91 (.map none) (.map none)).run Tryz.prog w = .ok (.bool true) w := by kernel_rfl
set_option maxHeartbeats 1000000 in
set_option maxRecDepth 100000 in
theorem set_some (w w' : World) (b off r : Nat) (n : Int) (v : Value) (hc : w.cell? ⟨b, off, none⟩ = some (.map (some r))) (hrun : (Instr.mapUpdate 91 (.map (some r)) (.int .u32 n) v).run Tryz.prog w = .ok () w') :
    Calls Tryz.prog 182 #[.pointer (some ⟨b, off, none⟩), .int .u32 n, v] w fun e w2 => e = .returned (.tuple #[]) ∧ w2 = w' := by
  have h1 := eqSome r
  go_enter Tryz.func182, Tryz.ntmps182
  go_wp2_with (first | (at_mapUpdate; refine wpList_mapUpdate_run _ w' rfl _ _ _ 91 rfl hrun ?_) | go_in)
  go_end0
  exact ⟨rfl, rfl⟩
set_option maxHeartbeats 1000000 in
set_option maxRecDepth 100000 in
theorem set_nil (w w' : World) (b off : Nat) (n : Int) (v : Value) (hc : w.cell? ⟨b, off, none⟩ = some (.map none)) (hf : w.frozen? ⟨b, off, none⟩ = false) (hb : b < w.heap.size)
    (hrun : (Instr.mapUpdate 91 (.map (some w.heap.size)) (.int .u32 n) v).run Tryz.prog ((w.setCell ⟨b, off, none⟩ (.map (some w.heap.size))).alloc (.map #[] 0)) = .ok () w') :
    Calls Tryz.prog 182 #[.pointer (some ⟨b, off, none⟩), .int .u32 n, v] w fun e w2 => e = .returned (.tuple #[]) ∧ w2 = w' := by
  have hmm := @run_makeMap Tryz.prog
  have h1 := eqNone
  go_enter Tryz.func182, Tryz.ntmps182
  go_wp2_with (first | (at_mapUpdate; refine wpList_mapUpdate_run _ w' rfl _ _ _ 91 rfl hrun ?_) | go_in)
  go_end0
  exact ⟨rfl, rfl⟩
theorem cellAt {w : World} {b off ty : Nat} {cs : Array Value} {v : Value} (hh : w.heap[b]? = some (.cells cs ty (0, 0))) (hc : cs[off]? = some v) : w.cell? ⟨b, off, none⟩ = some v := by
  simp [World.cell?, hh, hc]
theorem frozAt {w : World} {b off ty : Nat} {cs : Array Value} (hh : w.heap[b]? = some (.cells cs ty (0, 0))) : w.frozen? ⟨b, off, none⟩ = false := by
  simp [World.frozen?, hh]
theorem arr_same {cs : Array Value} {i : Nat} {v : Value} (h : cs[i]? = some v) : cs.setIfInBounds i v = cs := by
  apply Array.ext'
  rw [Array.toList_setIfInBounds]
  exact yYJ (by rw [Array.getElem?_toList]; exact h)
theorem hand182 : qRA Tryz.prog X side 182 ⟨[.wcell 172 91, .val 64, .val 22], .cell 91, 23, true⟩ := by
  refine ⟨yUE (by kernel_rfl), fun ok w vs ds hA hok hRd hp => ?_⟩
  have hum : Tryz.prog.underlying 91 = some (.map 64 22) := by kernel_rfl
  obtain @⟨⟩ | @⟨_, v1, d1, _, _, _, h1, hA⟩ := hA
  obtain @⟨⟩ | @⟨_, v2, d2, _, _, _, h2, hA⟩ := hA
  obtain @⟨⟩ | @⟨_, v3, d3, _, _, _, h3, hA⟩ := hA
  cases hA
  obtain ⟨n, rfl, hn⟩ : KOk (.int .u32) d2 := by
    cases h2 with | val h => exact ySB (by kernel_rfl) h
  cases h3 with
  | val h3 =>
  cases h2 with
  | val h2 =>
  cases h2 with
  | int hu2 hw2 =>
  have hu2' : Tryz.prog.underlying 64 = some (.int .u32) := by kernel_rfl
  rw [hu2'] at hu2; cases hu2
  cases h1 with
  | wcell hh hc h hne hone =>
  rename_i b off mv ty cs
  have hcell := cellAt hh hc
  have hbl : b < w.heap.size := (Array.getElem?_eq_some_iff.1 hh).1
  have hol : off < cs.size := (Array.getElem?_eq_some_iff.1 hc).1
  have hWb : Wr w [AK.wcell 172 91, .val 64, .val 22] [.pointer (some ⟨b, off, none⟩), .int .u32 n, v3] b := .inl (.inl rfl)
  have hokb : ∀ k, ok k → k ≠ b := fun k hk e => (hok k hk).2 (e ▸ hWb)
  have hX : X 23 [d1, .int n, d3] = .map (insM n d3 (mapL d1)) := X_23 _ _ _
  cases h with
  | nil hu =>
    let w2 : World := (w.setCell ⟨b, off, none⟩ (.map (some w.heap.size))).alloc (.map #[] 0)
    have hw2b : w2.heap[b]? = some (.cells (cs.setIfInBounds off (.map (some w.heap.size))) ty (0, 0)) := by
      show ((w.setCell ⟨b, off, none⟩ (.map (some w.heap.size))).alloc (.map #[] 0)).heap[b]? = _
      rw [(MapKept.heap_alloc _ _).2 b (by simpa using hbl)]
      simp only [World.setCell, Array.getElem?_modify, if_true, hh, Option.map_some]
      rfl
    have hw2r : w2.heap[w.heap.size]? = some (.map #[] 0) := by
      have := (MapKept.heap_alloc (w.setCell ⟨b, off, none⟩ (.map (some w.heap.size))) (.map #[] 0)).1
      have hs : (w.setCell ⟨b, off, none⟩ (.map (some w.heap.size))).heap.size = w.heap.size := by simp
      rw [hs] at this
      exact this
    have hw2o : ∀ k, k < w.heap.size → k ≠ b → w2.heap[k]? = w.heap[k]? := fun k hk hne' => by
      show ((w.setCell ⟨b, off, none⟩ (.map (some w.heap.size))).alloc (.map #[] 0)).heap[k]? = _
      rw [(MapKept.heap_alloc _ _).2 k (by simpa using hk)]
      exact heap_setCell_other w ⟨b, off, none⟩ k _ (by simpa using hne')
    have hsz2 : w2.heap.size = w.heap.size + 1 := by simp [w2]
    have ht : TagsAt Tryz.prog ok w2 91 (.map (some w.heap.size)) (.map []) := .map (es := #[]) (clock := 0) hum hu2' hw2r (by simp) (by simp) (by simp) (by simp) (by simp) (by simp)
    obtain ⟨es', clock', hrun, hfin⟩ := tags_update ht hum hw2 (h3.mono (fun _ h => h) (fun k hk => hw2o k (hok k hk).1 (hokb k hk)))
    have hblk : ∀ k, k ≠ w.heap.size → (ChangeMaps.setBlock w2 w.heap.size (.map es' clock')).heap[k]? = w2.heap[k]? := fun k hk => by
      simp [ChangeMaps.setBlock, Array.getElem?_setIfInBounds, Ne.symm hk]
    have hblkr : (ChangeMaps.setBlock w2 w.heap.size (.map es' clock')).heap[w.heap.size]? = some (.map es' clock') := by
      simp [ChangeMaps.setBlock, Array.getElem?_setIfInBounds, hsz2]
    refine (set_nil w _ b off n v3 hcell (frozAt hh) hbl hrun).mono fun e w' he => ?_
    obtain ⟨rfl, rfl⟩ := he
    refine ⟨_, rfl, ⟨rfl, rfl, rfl, by simp [ChangeMaps.setBlock, hsz2], fun k hk hm => ?_⟩, ?_⟩
    · rw [hblk k (by omega), hw2o k hk (fun e => hm (e ▸ hWb))]
    · refine ⟨rfl, b, off, ty, cs, .map (some w.heap.size), ⟨172, 0, rfl, rfl⟩, hh, ?_, fun r hr => ?_, fun ok' h1' h2' => ?_⟩
      · rw [hblk b (by omega), hw2b]
      · cases hr
        exact ⟨.inl (Nat.le_refl _), by simp [ChangeMaps.setBlock, hsz2], by omega⟩
      · rw [hX]
        exact hfin ok' _ hblkr (fun k hk => ⟨h1' k hk, hblk k (by have := (hok k hk).1; omega)⟩)
  | map hu hk hh' hkeys hkw hs hborn hclock hr =>
    rename_i kk ee r clock es ds
    have ht : TagsAt Tryz.prog ok w 91 (.map (some r)) (.map ds) := .map hu hk hh' hkeys hkw hs hborn hclock hr
    have hrb : r ≠ b := fun e => hne (by rw [e])
    have hrl : r < w.heap.size := (Array.getElem?_eq_some_iff.1 hh').1
    have hWr : Wr w [AK.wcell 172 91, .val 64, .val 22] [.pointer (some ⟨b, off, none⟩), .int .u32 n, v3] r := .inl (.inr hcell)
    obtain ⟨es', clock', hrun, hfin⟩ := tags_update ht hum hw2 h3
    have hblk : ∀ k, k ≠ r → (ChangeMaps.setBlock w r (.map es' clock')).heap[k]? = w.heap[k]? := fun k hk => by
      simp [ChangeMaps.setBlock, Array.getElem?_setIfInBounds, Ne.symm hk]
    have hblkr : (ChangeMaps.setBlock w r (.map es' clock')).heap[r]? = some (.map es' clock') := by
      simp [ChangeMaps.setBlock, Array.getElem?_setIfInBounds, hrl]
    refine (set_some w _ b off r n v3 hcell hrun).mono fun e w' he => ?_
    obtain ⟨rfl, rfl⟩ := he
    refine ⟨_, rfl, ⟨rfl, rfl, rfl, by simp [ChangeMaps.setBlock], fun k hk hm => hblk k (fun e => hm (e ▸ hWr))⟩, ?_⟩
    refine ⟨rfl, b, off, ty, cs, .map (some r), ⟨172, 0, rfl, rfl⟩, hh, ?_, fun r' hr' => ?_, fun ok' h1' h2' => ?_⟩
    · rw [hblk b (Ne.symm hrb), hh]
      rw [arr_same hc]
    · cases hr'
      exact ⟨.inr hWr, by simp [ChangeMaps.setBlock]; exact hrl, hrb⟩
    · rw [hX]
      exact hfin ok' _ hblkr (fun k hk => ⟨h1' k hk, hblk k (fun e => (hok k hk).2 (e ▸ hWr))⟩)
theorem len_nil (w : World) : (Builtin.len_ #[91] 3 #[.map none]).run Tryz.prog w = .ok (goInt 0) w := by kernel_rfl
theorem len_some (w : World) (r clock : Nat) (es : Array MapEntry) (hum : Tryz.prog.underlying 91 = some (.map 64 22)) (h : w.heap[r]? = some (.map es clock)) : (Builtin.len_ #[91] 3 #[.map (some r)]).run Tryz.prog w = .ok (goInt es.size) w := by
  simp [Builtin.len_, run_underlying hum, Go.MapKept.run_getObj_map h, Result.andThen]
def Tryz.sa6_ren : Go.Shelf.Ren := ⟨fun | 6 => 148 | 10 => 183 | 11 => 184 | 12 => 185 | 13 => 186 | 14 => 187 | 24 => 202 | 25 => 203 | 26 => 204 | 27 => 205 | 28 => 206 | 29 => 207 | 30 => 208 | 31 => 209 | 32 => 210 | 33 => 211 | 34 => 213 | 35 => 214 | 36 => 215 | 37 => 216 | 38 => 217 | 39 => 218 | n => n, fun | 20 => 20 | 26 => 175 | 35 => 204 | 0 => 0 | 37 => 206 | 3 => 3 | 41 => 178 | 44 => 211 | 49 => 64 | 51 => 108 | 4 => 4 | 54 => 222 | 53 => 221 | 58 => 226 | 5 => 5 | 9 => 9 | 60 => 229 | 64 => 232 | 66 => 234 | 67 => 235 | 17 => 17 | 32 => 201 | 33 => 202 | 82 => 250 | 12 => 12 | 75 => 243 | 76 => 244 | 77 => 245 | 78 => 246 | 79 => 247 | 80 => 248 | n => n, fun | n => n⟩
theorem Tryz.sa6 : Go.Proofs.LaysGg.n6 Tryz.prog Tryz.sa6_ren := {
  mixed := by kernel_rfl
  f6 := Tryz.func148.trans (congrArg some (by kernel_rfl))
  f10 := Tryz.func183.trans (congrArg some (by kernel_rfl))
  f11 := Tryz.func184.trans (congrArg some (by kernel_rfl))
  f12 := Tryz.func185.trans (congrArg some (by kernel_rfl))
  f13 := Tryz.func186.trans (congrArg some (by kernel_rfl))
  f14 := Tryz.func187.trans (congrArg some (by kernel_rfl))
  f24 := Tryz.func202.trans (congrArg some (by kernel_rfl))
  f25 := Tryz.func203.trans (congrArg some (by kernel_rfl))
  f26 := Tryz.func204.trans (congrArg some (by kernel_rfl))
  f27 := Tryz.func205.trans (congrArg some (by kernel_rfl))
  f28 := Tryz.func206.trans (congrArg some (by kernel_rfl))
  f29 := Tryz.func207.trans (congrArg some (by kernel_rfl))
  f30 := Tryz.func208.trans (congrArg some (by kernel_rfl))
  f31 := Tryz.func209.trans (congrArg some (by kernel_rfl))
  f32 := Tryz.func210.trans (congrArg some (by kernel_rfl))
  f33 := Tryz.func211.trans (congrArg some (by kernel_rfl))
  f34 := Tryz.func213.trans (congrArg some (by kernel_rfl))
  f35 := Tryz.func214.trans (congrArg some (by kernel_rfl))
  f36 := Tryz.func215.trans (congrArg some (by kernel_rfl))
  f37 := Tryz.func216.trans (congrArg some (by kernel_rfl))
  f38 := Tryz.func217.trans (congrArg some (by kernel_rfl))
  f39 := Tryz.func218.trans (congrArg some (by kernel_rfl))
  t0 := Tryz.underlying0
  a0 := Tryz.isAgg0
  z0 := Tryz.sizeOf0
  v0 := Tryz.zeroValue0
  i0 := by kernel_rfl
  t3 := Tryz.underlying3
  a3 := Tryz.isAgg3
  z3 := Tryz.sizeOf3
  v3 := Tryz.zeroValue3
  i3 := by kernel_rfl
  t4 := Tryz.underlying4
  a4 := Tryz.isAgg4
  z4 := Tryz.sizeOf4
  v4 := Tryz.zeroValue4
  i4 := by kernel_rfl
  t5 := Tryz.underlying5
  a5 := Tryz.isAgg5
  z5 := Tryz.sizeOf5
  v5 := Tryz.zeroValue5
  i5 := by kernel_rfl
  t9 := Tryz.underlying9
  a9 := Tryz.isAgg9
  z9 := Tryz.sizeOf9
  v9 := Tryz.zeroValue9
  i9 := by kernel_rfl
  t12 := Tryz.underlying12
  a12 := Tryz.isAgg12
  z12 := Tryz.sizeOf12
  v12 := Tryz.zeroValue12
  i12 := by kernel_rfl
  t17 := Tryz.underlying17
  a17 := Tryz.isAgg17
  z17 := Tryz.sizeOf17
  v17 := Tryz.zeroValue17
  i17 := by kernel_rfl
  t20 := Tryz.underlying20
  a20 := Tryz.isAgg20
  z20 := Tryz.sizeOf20
  v20 := Tryz.zeroValue20
  i20 := by kernel_rfl
  t26 := Tryz.underlying175
  a26 := Tryz.isAgg175
  z26 := Tryz.sizeOf175
  v26 := Tryz.zeroValue175
  i26 := by kernel_rfl
  t32 := Tryz.underlying201
  a32 := Tryz.isAgg201
  z32 := Tryz.sizeOf201
  v32 := Tryz.zeroValue201
  i32 := by kernel_rfl
  t33 := Tryz.underlying202
  a33 := Tryz.isAgg202
  z33 := Tryz.sizeOf202
  v33 := Tryz.zeroValue202
  i33 := by kernel_rfl
  t35 := Tryz.underlying204
  a35 := Tryz.isAgg204
  z35 := Tryz.sizeOf204
  v35 := Tryz.zeroValue204
  i35 := by kernel_rfl
  t37 := Tryz.underlying206
  a37 := Tryz.isAgg206
  z37 := Tryz.sizeOf206
  v37 := Tryz.zeroValue206
  i37 := by kernel_rfl
  t41 := Tryz.underlying178
  a41 := Tryz.isAgg178
  z41 := Tryz.sizeOf178
  v41 := Tryz.zeroValue178
  i41 := by kernel_rfl
  t44 := Tryz.underlying211
  a44 := Tryz.isAgg211
  z44 := Tryz.sizeOf211
  v44 := Tryz.zeroValue211
  i44 := by kernel_rfl
  t49 := Tryz.underlying64
  a49 := Tryz.isAgg64
  z49 := Tryz.sizeOf64
  v49 := Tryz.zeroValue64
  i49 := by kernel_rfl
  t51 := Tryz.underlying108
  a51 := Tryz.isAgg108
  z51 := Tryz.sizeOf108
  v51 := Tryz.zeroValue108
  i51 := by kernel_rfl
  t53 := Tryz.underlying221
  a53 := Tryz.isAgg221
  z53 := Tryz.sizeOf221
  v53 := Tryz.zeroValue221
  i53 := by kernel_rfl
  t54 := Tryz.underlying222
  a54 := Tryz.isAgg222
  z54 := Tryz.sizeOf222
  v54 := Tryz.zeroValue222
  i54 := by kernel_rfl
  t58 := Tryz.underlying226
  a58 := Tryz.isAgg226
  z58 := Tryz.sizeOf226
  v58 := Tryz.zeroValue226
  i58 := by kernel_rfl
  t60 := Tryz.underlying229
  a60 := Tryz.isAgg229
  z60 := Tryz.sizeOf229
  v60 := Tryz.zeroValue229
  i60 := by kernel_rfl
  t64 := Tryz.underlying232
  a64 := Tryz.isAgg232
  z64 := Tryz.sizeOf232
  v64 := Tryz.zeroValue232
  i64 := by kernel_rfl
  t66 := Tryz.underlying234
  a66 := Tryz.isAgg234
  z66 := Tryz.sizeOf234
  v66 := Tryz.zeroValue234
  i66 := by kernel_rfl
  t67 := Tryz.underlying235
  a67 := Tryz.isAgg235
  z67 := Tryz.sizeOf235
  v67 := Tryz.zeroValue235
  i67 := by kernel_rfl
  t75 := Tryz.underlying243
  a75 := Tryz.isAgg243
  z75 := Tryz.sizeOf243
  v75 := Tryz.zeroValue243
  i75 := by kernel_rfl
  t76 := Tryz.underlying244
  a76 := Tryz.isAgg244
  z76 := Tryz.sizeOf244
  v76 := Tryz.zeroValue244
  i76 := by kernel_rfl
  t77 := Tryz.underlying245
  a77 := Tryz.isAgg245
  z77 := Tryz.sizeOf245
  v77 := Tryz.zeroValue245
  i77 := by kernel_rfl
  t78 := Tryz.underlying246
  a78 := Tryz.isAgg246
  z78 := Tryz.sizeOf246
  v78 := Tryz.zeroValue246
  i78 := by kernel_rfl
  t79 := Tryz.underlying247
  a79 := Tryz.isAgg247
  z79 := Tryz.sizeOf247
  v79 := Tryz.zeroValue247
  i79 := by kernel_rfl
  t80 := Tryz.underlying248
  a80 := Tryz.isAgg248
  z80 := Tryz.sizeOf248
  v80 := Tryz.zeroValue248
  i80 := by kernel_rfl
  t82 := Tryz.underlying250
  a82 := Tryz.isAgg250
  z82 := Tryz.sizeOf250
  v82 := Tryz.zeroValue250
  i82 := by kernel_rfl }
end Go.Proofs
namespace Go.Proofs
open Go.Shelf Go.RowKit Go.Lib Go.Sort
theorem sorted_keys {zs ks : List Int} {d' : Array Int} (hp : PermIn 0 zs.toArray.size zs.toArray d') (hs : SortedIn ltInt 0 zs.toArray.size d') (hk : ks.Perm zs) (ho : ks.Pairwise (· < ·)) : d' = ks.toArray := by
  obtain ⟨h1, _, h3⟩ := hp
  have e1 : (d'.extract 0 zs.toArray.size).toList = d'.toList := by rw [← h1]; simp
  have e2 : (zs.toArray.extract 0 zs.toArray.size).toList = zs := by simp
  rw [e1, e2] at h3
  have hpw : d'.toList.Pairwise (· ≤ ·) := by
    rw [List.pairwise_iff_getElem]
    intro i j hi hj hij
    have := hs i j (Nat.zero_le _) hij (by rw [← h1]; simpa using hj)
    simp only [ltInt, decide_eq_false_iff_not] at this
    have hi' : i < d'.size := by simpa using hi
    have hj' : j < d'.size := by simpa using hj
    rw [getElem!_pos d' i hi', getElem!_pos d' j hj'] at this
    rw [Array.getElem_toList, Array.getElem_toList]
    omega
  have := List.Perm.eq_of_pairwise (le := (· ≤ ·)) (fun a b _ _ h1 h2 => by omega) hpw (ho.imp (fun h => by omega)) (h3.trans hk.symm)
  exact Array.toList_inj.1 (by rw [this])
noncomputable def si173 : TypeInfo := (Tryz.prog.info? 173).get (by kernel_rfl)
noncomputable def si64 : TypeInfo := (Tryz.prog.info? 64).get (by kernel_rfl)
theorem siK64 (n : Nat) (h2 : 2 ≤ n) : Lib.swapperK n si64 10 = 6 := by
  have a : si64.hasPointers = false := by kernel_rfl
  have b : si64.bytes = 4 := by kernel_rfl
  have c : (n == 0) = false := by simp; omega
  have d : (n == 1) = false := by simp; omega
  simp [Lib.swapperK, a, b, c, d]
set_option maxHeartbeats 2000000 in
set_option maxRecDepth 100000 in
theorem less_u32 (blk off c Bs size : Nat) (W : World) (G : Nat → Int) (hs : W.cell? ⟨Bs, 0, none⟩ = some (.slice (some ⟨blk, off, none⟩) size c))
    (hc : ∀ t, t < size → W.cell? ⟨blk, off + t, none⟩ = some (.int .u32 (G t))) (i j : Nat) (hi : i < size) (hj : j < size) :
    Calls Tryz.prog 149 #[.int .i64 i, .int .i64 j, .pointer (some ⟨Bs, 0, none⟩)] W fun e w' => e = .returned (.bool (decide (G i < G j))) ∧ ∃ q, w' = W.drewN q := by
  have ci := hc i hi
  have cj := hc j hj
  go_enter Tryz.func149, Tryz.ntmps149
  go_wp2
  go_quiet (fail)
  go_wp2
  go_ret
  exact ⟨rfl, nq, rfl⟩
theorem sort_u32 (blk c OB : Nat) (zs ks : List Int) (w : World) (hfew : zs.length < 4611686018427387904) (hH : Holds (Value.int .u32) w blk 0 zs.toArray) (hblk : blk < w.heap.size)
    (hOB : w.cell? ⟨OB, 0, none⟩ = some (.slice (some ⟨blk, 0, none⟩) zs.length c)) (hOBl : OB < w.heap.size) (hne : OB ≠ blk) (hk : ks.Perm zs) (ho : ks.Pairwise (· < ·)) :
    Calls Tryz.prog 148 #[.iface 173 (.slice (some ⟨blk, 0, none⟩) zs.length c), .func (.func 149) #[] #[.pointer (some ⟨OB, 0, none⟩)]] w fun e w' =>
      e = .returned (.tuple #[]) ∧ ∃ n os, w' = grow (putRow (Value.int .u32) (Sort.ahead w n) blk 0 ks.toArray) os := by
  by_cases h2 : 2 ≤ zs.length
  · have hless : LessReads Tryz.prog 149 #[.pointer (some ⟨OB, 0, none⟩)] (Value.int .u32) ltInt blk 0 zs.toArray.size w := by
      intro m os dk hs i j hi hj
      have e : sortWorld (Value.int .u32) w blk 0 m dk os = putRow (Value.int .u32) (grow (Sort.ahead w m) os) blk 0 dk := by
        unfold sortWorld; rw [putRow_grow _ (Sort.ahead w m) _ blk 0 _ hblk]
      have hHg : Holds (Value.int .u32) (grow (Sort.ahead w m) os) blk 0 zs.toArray := holds_grow _ _ _ blk 0 _ hblk (holds_ahead _ _ _ _ _ _ hH)
      refine less_u32 blk 0 c OB zs.toArray.size _ (fun t => dk[t]!) ?_ (fun t ht => ?_) i j hi hj
      · rw [e, cell?_putRow_other _ _ blk 0 dk _ (Or.inl (by show OB ≠ blk; exact hne)), cell?_grow _ _ _ (by show OB < w.heap.size; exact hOBl)]
        exact hOB
      · rw [e]; exact cell?_putRow _ _ blk 0 _ dk hHg hs t (by omega)
    have hS := Any.sort_Slice_sorted Tryz.sa6 173 64 si173 si64 (by kernel_rfl) (by kernel_rfl) (by kernel_rfl) (by kernel_rfl) 10 (fun _ => by kernel_rfl) (by kernel_rfl) (fun _ => by kernel_rfl) (Value.int .u32) (fun _ => rfl) ltInt swo_ltInt 149 _
      (enters_of Tryz.func149 (by kernel_rfl) rfl) blk 0 c zs.toArray (by simpa using h2) (by simpa using hfew) 198 (by rw [siK64 _ (by simpa using h2)]; kernel_rfl) true
      (fun args W => run_callFunc_extern Tryz.func198 (by kernel_rfl) (by kernel_rfl) (by kernel_rfl) (e := Extern.ReflectliteSwapper.swap true) (by kernel_rfl) args W) _ hless hH hblk
    change Calls Tryz.prog 148 _ _ _ at hS
    refine hS.mono ?_
    rintro e w' ⟨rfl, d', n, os, hp, hso, rfl⟩
    rw [sorted_keys hp hso hk ho]
    exact ⟨rfl, n, os, rfl⟩
  · have hzk : zs = ks := by
      have hl := hk.length_eq
      match zs, ks, hl with
      | [], [], _ => rfl
      | [x], [y], _ => have := hk.mem_iff (a := y); simp at this; first | done | rw [this]
      | x :: y :: r, _, _ => exact absurd (by simp) h2
    have hK : Lib.swapperK zs.length si64 10 = zs.length + 1 := by
      rcases Nat.eq_zero_or_pos zs.length with h | h
      · rw [h]; rfl
      · have : zs.length = 1 := by omega
        rw [this]; rfl
    have hS := fun W => Any.sort_Slice_tiny Tryz.sa6 173 64 si173 si64 (by kernel_rfl) (by kernel_rfl) (by kernel_rfl) (by kernel_rfl) 10 (fun _ => by kernel_rfl) (some ⟨blk, 0, none⟩) zs.length c (by omega) (193 + zs.length) (by
      rw [hK]
      rcases Nat.eq_zero_or_pos zs.length with h | h
      · rw [h]; kernel_rfl
      · have : zs.length = 1 := by omega
        rw [this]; refine Eq.trans ?_ rfl; kernel_rfl) (.func 149) #[] #[.pointer (some ⟨OB, 0, none⟩)] W
    refine (hS w).mono ?_
    rintro e w' ⟨rfl, os, rfl⟩
    refine ⟨rfl, 0, os, ?_⟩
    rw [← hzk]
    congr 1
    exact (putRow_self _ _ blk 0 _ hH).symm
theorem law64 : Maps.Keyed Tryz.prog 64 := Maps.int_keyed Tryz.underlying64
theorem info64 : (Tryz.prog.info? 64).map (fun i => (i.zero, i.size, i.bytes)) = some (some (.int .u32 0), 1, 4) := by kernel_rfl
theorem info173 : Tryz.prog.underlying 173 = some (.slice 64) := by kernel_rfl
def Coll {H : Type} (D : DataW H) (left : Lit → Bool) (zs : List Int) : Prop := zs.Nodup ∧ (∀ x, x ∈ zs ↔ Maps.has D (.int .u32 x) = true ∧ left (.int .u32 x) = false) ∧ ∀ kl, left kl = true → Maps.has D kl = true
theorem Coll.start {H : Type} (D : DataW H) : Coll D (Maps.has D) [] := ⟨List.nodup_nil, fun x => ⟨(fun h => by cases h), (fun ⟨h1, h2⟩ => by rw [h1] at h2; cases h2)⟩, fun _ h => h⟩
theorem cellB {w : World} {b ty : Nat} {v : Value} (h : w.heap[b]? = some (.cells #[v] ty (0, 0))) : w.cell? ⟨b, 0, none⟩ = some v := by simp [World.cell?, h]
theorem frozB {w : World} {b ty : Nat} {v : Value} (h : w.heap[b]? = some (.cells #[v] ty (0, 0))) : w.frozen? ⟨b, 0, none⟩ = false := by simp [World.frozen?, h]
theorem blockOB {w w3 : World} {x : Obj} {OB ty : Nat} {vS : Value} (hg : (w.alloc x).grownBy w3 vS.ownBlock) (h : w.heap[OB]? = some (.cells #[vS] ty (0, 0))) (hne : vS.ownBlock ≠ some OB) : w3.heap[OB]? = some (.cells #[vS] ty (0, 0)) := by
  have hl : OB < w.heap.size := (Array.getElem?_eq_some_iff.1 h).1
  rw [hg.block OB (by simp; omega) (fun e => hne e.symm), (MapKept.heap_alloc w x).2 OB hl, h]
theorem rowShape {w : World} {base : Nat} {e : TypeId} {size : Nat} {v : Value} {n : Nat} {xs : List Value} (h : w.ownsRow base e size v n xs) (hne : v ≠ .slice none 0 0) : ∃ g cap, v = .slice (some ⟨g, 0, none⟩) n cap := by
  rcases h.2 with ⟨rfl, _⟩ | ⟨g, cap, cur, rfl, _⟩
  · exact absurd rfl hne
  · exact ⟨g, cap, rfl⟩
theorem rowBlock {w : World} {base : Nat} {e : TypeId} {size : Nat} {g n m cap : Nat} {xs : List Value} (h : w.ownsRow base e size (.slice (some ⟨g, 0, none⟩) m cap) n xs) : ∃ cur, w.heap[g]? = some (.cells cur e (0, 0)) := by
  rcases h.2 with ⟨h, _⟩ | ⟨g', cap', cur, h, _, hb, _⟩
  · cases h
  · cases h; exact ⟨cur, hb⟩
theorem grown_setCell {w : World} {b ty : Nat} {v u : Value} (h : w.heap[b]? = some (.cells #[u] ty (0, 0))) : w.grownBy (w.setCell ⟨b, 0, none⟩ v) (some b) :=
  ⟨rfl, rfl, rfl, by simp, fun k _ hne => heap_setCell_other w ⟨b, 0, none⟩ k v (fun e => hne (by rw [e]))⟩
theorem setCell_block {w : World} {b ty : Nat} {v u : Value} (h : w.heap[b]? = some (.cells #[u] ty (0, 0))) : (w.setCell ⟨b, 0, none⟩ v).heap[b]? = some (.cells #[v] ty (0, 0)) := by
  simp only [World.setCell, Array.getElem?_modify, if_true, h, Option.map_some]
  rfl
theorem Coll.step {H : Type} {D : DataW H} {left : Lit → Bool} {zs : List Int} {x : Int} {kl : Lit} (h : Coll D left zs) (hkey : keyOf Tryz.prog 64 (.int .u32 x) = some kl) (hlk : left kl = true) : Coll D (fun z => left z && !z.sameKey kl) (zs ++ [x]) := by
  obtain ⟨h1, h2, h3⟩ := h
  obtain ⟨x', ex, rfl, _⟩ := Maps.keyOf_int_inv Tryz.underlying64 hkey
  cases ex
  refine ⟨?_, fun y => ?_, fun kl hkl => ?_⟩
  · refine List.nodup_append.2 ⟨h1, by simp, fun a ha b hb => ?_⟩
    rw [List.mem_singleton] at hb
    intro e
    rw [e, hb] at ha
    have := ((h2 _).1 ha).2
    rw [hlk] at this; cases this
  · rw [List.mem_append, List.mem_singleton, h2 y]
    by_cases e : y = x
    · subst e
      have hs : (Lit.int .u32 y).sameKey (.int .u32 y) = true := WideAt.sameKey_self trivial
      simp [h3 _ hlk, hs]
    · have hs : (Lit.int .u32 y).sameKey (.int .u32 x) = false := by
        cases hh : (Lit.int .u32 y).sameKey (.int .u32 x)
        · rfl
        · have := WideAt.sameKey_eq hh
          cases this; exact absurd rfl e
      simp [hs, e]
  · simp only [Bool.and_eq_true] at hkl
    exact h3 _ hkl.1
theorem holdsU {w : World} {base g cap m : Nat} {zs : List Int} (h : w.ownsRow base 64 1 (.slice (some ⟨g, 0, none⟩) m cap) zs.length (zs.map (Value.int .u32))) : Go.Sort.Holds (Value.int .u32) w g 0 zs.toArray := by
  rcases h.2 with ⟨h, _⟩ | ⟨g', cap', cur, h, _, hb, _, _, _, ht⟩
  · cases h
  cases h
  rw [Nat.mul_one] at ht
  intro j hj
  have hj' : j < zs.length := by simpa using hj
  refine ⟨?_, by simp [World.frozen?, hb]⟩
  have h1 : (cur.toList.take zs.length)[j]? = (zs.map (Value.int .u32))[j]? := by rw [ht]
  rw [List.getElem?_take_of_lt hj', List.getElem?_map, List.getElem?_eq_getElem hj', Array.getElem?_toList] at h1
  simp only [World.cell?, Nat.zero_add, hb]
  simp [h1, hj']
theorem sorted_facts {blk OB : Nat} {zs ks : List Int} {w : World} {f : FuncId} {args : Array Value} {v : Value} (h : Calls Tryz.prog f args w fun e w' => e = .returned (.tuple #[]) ∧ ∃ n os, w' = Go.Sort.grow (Go.Sort.putRow (Value.int .u32) (Go.Sort.ahead w n) blk 0 ks.toArray) os)
    (hH : Go.Sort.Holds (Value.int .u32) w blk 0 zs.toArray) (hblk : blk < w.heap.size) (hOB : w.cell? ⟨OB, 0, none⟩ = some v) (hOBl : OB < w.heap.size) (hne : OB ≠ blk) (hl : ks.length = zs.length) :
    Calls Tryz.prog f args w fun e ws => e = .returned (.tuple #[]) ∧ ws.cell? ⟨OB, 0, none⟩ = some v ∧ (∀ i, i < ks.length → ws.cell? ⟨blk, i, none⟩ = some (.int .u32 (ks.getD i 0))) ∧ w.grownBy ws (some blk) := by
  refine h.mono fun e ws ⟨he, n, os, hw⟩ => ⟨he, ?_, fun i hi => ?_, ?_⟩
  · rw [hw, Go.Sort.cell?_grow _ _ _ (by show OB < _; simpa using hOBl), Go.Sort.cell?_putRow_other _ _ blk 0 _ _ (Or.inl (by show OB ≠ blk; exact hne))]
    exact hOB
  · rw [hw, Go.Sort.cell?_grow _ _ _ (by show blk < _; simpa using hblk)]
    have := Go.Sort.cell?_putRow (Value.int .u32) (Go.Sort.ahead w n) blk 0 zs.toArray ks.toArray (Go.Sort.holds_ahead _ _ _ _ _ _ hH) (by simpa using hl) i (by simp; omega)
    rw [Nat.zero_add] at this
    rw [this]
    simp [List.getD_eq_getElem?_getD, hi]
  · rw [hw]
    refine ⟨rfl, rfl, rfl, by simp, fun k hk hne' => ?_⟩
    rw [Go.Sort.heap_grow_old _ _ (by simpa using hk)]
    have : blk ≠ k := fun e => hne' (by rw [e])
    simp [Go.Sort.putRow, Go.Sort.mapBlock, Go.Sort.ahead, Array.getElem?_modify, this]
theorem cell_of_block {w w' : World} {b o : Nat} (h : w'.heap[b]? = w.heap[b]?) : w'.cell? ⟨b, o, none⟩ = w.cell? ⟨b, o, none⟩ := by simp [World.cell?, h]
theorem cell_grown_alloc {w w' : World} {b o : Nat} {v : Value} (hg : w.grownBy w' none) (hb : b < w.heap.size) (h : w.cell? ⟨b, o, none⟩ = some v) (x : Obj) : (w'.alloc x).cell? ⟨b, o, none⟩ = some v := by
  have h1 := hg.block b hb (by simp)
  have hb' : b < w'.heap.size := Nat.lt_of_lt_of_le hb hg.size
  rw [cell_of_block ((MapKept.heap_alloc w' x).2 b hb'), cell_of_block h1, h]
theorem nmE : xJA Tryz.prog := names_ok (by kernel_rfl)
theorem ordE : Tryz.prog.follows .mixedOrders = true := by kernel_rfl
noncomputable def CE : Cfg := ⟨Tryz.prog, fun _ => none, fun _ _ _ => none⟩
end Go.Proofs
