/- Part of a verified symbolic run of the program's code (no condition of its own). -/
import Derived.Test.YtefilhocfegfhaaDoorQ7
import Derived.Test.YtefilhocfegfhaaDoorProg
import Derived.KernelRfl
import Derived.WalkKit
import Derived.Shelf.GgSortFunc.Whole
import Derived.Shelf.GgSortFunc.Tiny
import Derived.Deep.QuietTactic
import Derived.Ground.GgsProg
import Derived.Lib.SortBridge
import Derived.Sort.LotA
import Derived.Maps.RangeWalk
import Derived.Maps.OwnSet
import Derived.Maps.AppendAt
import Derived.Sort.OwnSorted
set_option linter.unusedVariables false
set_option linter.unusedSimpArgs false
noncomputable section
open Go Go.Dx Go.Mx Go.RowKit
namespace Go.Proofs
theorem wpList_mapUpdate_run {P : Program} (w w' : World) {ops : Array Oper} {rest : List Oper} {o : Oper} {a : Act} {Q : Exit → Act → World → Prop}
    (hg : o.guard = none) (m x v : Operand) (t : TypeId) (hop : o.op = Op.mapUpdate t m x v) (hrun : (Instr.mapUpdate t (a.eval m) (a.eval x) (a.eval v)).run P w = .ok () w')
    (hK : wpList P ops Q rest (a.put o.dst undef) w') : wpList P ops Q (o :: rest) a w := by
  refine wpList_plain hg fun K' hK' => ?_
  unfold Oper.wp
  simp [execOp, hop, hrun, Result.andThen]
  exact hK' _ _ hK
theorem eqSome (r : Nat) (w : World) : (binOp BinOp.eql 59 (.map (some r)) (.map none)).run Tryd.prog w = .ok (.bool false) w := by kernel_rfl
theorem eqNone (w : World) : (binOp BinOp.eql 59 (.map none) (.map none)).run Tryd.prog w = .ok (.bool true) w := by kernel_rfl
set_option maxHeartbeats 1000000 in
set_option maxRecDepth 100000 in
theorem set_some (w w' : World) (b off r : Nat) (n : Int) (v : Value) (hc : w.cell? ⟨b, off, none⟩ = some (.map (some r))) (hrun : (Instr.mapUpdate 59 (.map (some r)) (.int .u32 n) v).run Tryd.prog w = .ok () w') :
    Calls Tryd.prog 161 #[.pointer (some ⟨b, off, none⟩), .int .u32 n, v] w fun e w2 => e = .returned (.tuple #[]) ∧ w2 = w' := by
  have h1 := eqSome r
  go_enter Tryd.func161, Tryd.ntmps161
  go_wp2_with (first | (at_mapUpdate; refine wpList_mapUpdate_run _ w' rfl _ _ _ 59 rfl hrun ?_) | go_in)
  go_end0
  exact ⟨rfl, rfl⟩
set_option maxHeartbeats 1000000 in
set_option maxRecDepth 100000 in
theorem set_nil (w w' : World) (b off : Nat) (n : Int) (v : Value) (hc : w.cell? ⟨b, off, none⟩ = some (.map none)) (hf : w.frozen? ⟨b, off, none⟩ = false) (hb : b < w.heap.size)
    (hrun : (Instr.mapUpdate 59 (.map (some w.heap.size)) (.int .u32 n) v).run Tryd.prog ((w.setCell ⟨b, off, none⟩ (.map (some w.heap.size))).alloc (.map #[] 0)) = .ok () w') :
    Calls Tryd.prog 161 #[.pointer (some ⟨b, off, none⟩), .int .u32 n, v] w fun e w2 => e = .returned (.tuple #[]) ∧ w2 = w' := by
  have hmm := @run_makeMap Tryd.prog
  have h1 := eqNone
  go_enter Tryd.func161, Tryd.ntmps161
  go_wp2_with (first | (at_mapUpdate; refine wpList_mapUpdate_run _ w' rfl _ _ _ 59 rfl hrun ?_) | go_in)
  go_end0
  exact ⟨rfl, rfl⟩
theorem cellAt {w : World} {b off ty : Nat} {cs : Array Value} {v : Value} (hh : w.heap[b]? = some (.cells cs ty (0, 0))) (hc : cs[off]? = some v) : w.cell? ⟨b, off, none⟩ = some v := by
  simp [World.cell?, hh, hc]
theorem frozAt {w : World} {b off ty : Nat} {cs : Array Value} (hh : w.heap[b]? = some (.cells cs ty (0, 0))) : w.frozen? ⟨b, off, none⟩ = false := by
  simp [World.frozen?, hh]
theorem arr_same {cs : Array Value} {i : Nat} {v : Value} (h : cs[i]? = some v) : cs.setIfInBounds i v = cs := by
  apply Array.ext'
  rw [Array.toList_setIfInBounds]
  exact qJI (by rw [Array.getElem?_toList]; exact h)
theorem hand161 : xDA Tryd.prog X side 161 ⟨[.wcell 141 59, .val 55, .val 22], .cell 59, 23, true⟩ := by
  refine ⟨zMD (by kernel_rfl), fun ok w vs ds hA hok hRd hp hgw => ?_⟩
  have hum : Tryd.prog.underlying 59 = some (.map 55 22) := by kernel_rfl
  obtain @⟨⟩ | @⟨_, v1, d1, _, _, _, h1, hA⟩ := hA
  obtain @⟨⟩ | @⟨_, v2, d2, _, _, _, h2, hA⟩ := hA
  obtain @⟨⟩ | @⟨_, v3, d3, _, _, _, h3, hA⟩ := hA
  cases hA
  obtain ⟨n, rfl, hn⟩ : KOk (.int .u32) d2 := by
    cases h2 with | val h => exact qCB (by kernel_rfl) h
  cases h3 with
  | val h3 =>
  cases h2 with
  | val h2 =>
  cases h2 with
  | int hu2 hw2 =>
  have hu2' : Tryd.prog.underlying 55 = some (.int .u32) := by kernel_rfl
  rw [hu2'] at hu2; cases hu2
  cases h1 with
  | wcell hh hc h hne hone =>
  rename_i b off mv ty cs
  have hcell := cellAt hh hc
  have hbl : b < w.heap.size := (Array.getElem?_eq_some_iff.1 hh).1
  have hol : off < cs.size := (Array.getElem?_eq_some_iff.1 hc).1
  have hWb : Wr w [AK.wcell 141 59, .val 55, .val 22] [.pointer (some ⟨b, off, none⟩), .int .u32 n, v3] b := .inl (.inl rfl)
  have hokb : ∀ k, ok k → k ≠ b := fun k hk e => (hok k hk).2 (e ▸ hWb)
  have hX : X 23 [d1, .int n, d3] = .map (insM n d3 (mapL d1)) := X_23 _ _ _
  cases h with
  | nil hu =>
    let w2 : World := (w.setCell ⟨b, off, none⟩ (.map (some w.heap.size))).alloc (.map #[] 0)
    have hw2b : w2.heap[b]? = some (.cells (cs.setIfInBounds off (.map (some w.heap.size))) ty (0, 0)) := by
      show ((w.setCell ⟨b, off, none⟩ (.map (some w.heap.size))).alloc (.map #[] 0)).heap[b]? = _
      rw [(MapKept.heap_alloc _ _).2 b (by simpa using hbl)]
      simp only [World.setCell, Array.getElem?_modify, if_true, hh, Option.map_some]
      rfl
    have hw2r : w2.heap[w.heap.size]? = some (.map #[] 0) := by
      have := (MapKept.heap_alloc (w.setCell ⟨b, off, none⟩ (.map (some w.heap.size))) (.map #[] 0)).1
      have hs : (w.setCell ⟨b, off, none⟩ (.map (some w.heap.size))).heap.size = w.heap.size := by simp
      rw [hs] at this
      exact this
    have hw2o : ∀ k, k < w.heap.size → k ≠ b → w2.heap[k]? = w.heap[k]? := fun k hk hne' => by
      show ((w.setCell ⟨b, off, none⟩ (.map (some w.heap.size))).alloc (.map #[] 0)).heap[k]? = _
      rw [(MapKept.heap_alloc _ _).2 k (by simpa using hk)]
      exact heap_setCell_other w ⟨b, off, none⟩ k _ (by simpa using hne')
    have hsz2 : w2.heap.size = w.heap.size + 1 := by simp [w2]
    have ht : TagsAt Tryd.prog ok w2 59 (.map (some w.heap.size)) (.map []) := .map (es := #[]) (clock := 0) hum hu2' hw2r (by simp) (by simp) (by simp) (by simp) (by simp) (by simp)
    obtain ⟨es', clock', hrun, hfin⟩ := tags_update ht hum hw2 (h3.mono (fun _ h => h) (fun k hk => hw2o k (hok k hk).1 (hokb k hk)))
    have hblk : ∀ k, k ≠ w.heap.size → (ChangeMaps.setBlock w2 w.heap.size (.map es' clock')).heap[k]? = w2.heap[k]? := fun k hk => by
      simp [ChangeMaps.setBlock, Array.getElem?_setIfInBounds, Ne.symm hk]
    have hblkr : (ChangeMaps.setBlock w2 w.heap.size (.map es' clock')).heap[w.heap.size]? = some (.map es' clock') := by
      simp [ChangeMaps.setBlock, Array.getElem?_setIfInBounds, hsz2]
    refine (set_nil w _ b off n v3 hcell (frozAt hh) hbl hrun).mono fun e w' he => ?_
    obtain ⟨rfl, rfl⟩ := he
    refine ⟨_, rfl, ⟨rfl, rfl, rfl, by simp [ChangeMaps.setBlock, hsz2], fun k hk hm => ?_⟩, ?_⟩
    · rw [hblk k (by omega), hw2o k hk (fun e => hm (e ▸ hWb))]
    · refine ⟨rfl, b, off, ty, cs, .map (some w.heap.size), ⟨141, 0, rfl, rfl⟩, hh, ?_, fun r hr => ?_, fun ok' h1' h2' => ?_⟩
      · rw [hblk b (by omega), hw2b]
      · cases hr
        exact ⟨.inl (Nat.le_refl _), by simp [ChangeMaps.setBlock, hsz2], by omega⟩
      · rw [hX]
        exact hfin ok' _ hblkr (fun k hk => ⟨h1' k hk, hblk k (by have := (hok k hk).1; omega)⟩)
  | map hu hk hh' hkeys hkw hs hborn hclock hr =>
    rename_i kk ee r clock es ds
    have ht : TagsAt Tryd.prog ok w 59 (.map (some r)) (.map ds) := .map hu hk hh' hkeys hkw hs hborn hclock hr
    have hrb : r ≠ b := fun e => hne (by rw [e])
    have hrl : r < w.heap.size := (Array.getElem?_eq_some_iff.1 hh').1
    have hWr : Wr w [AK.wcell 141 59, .val 55, .val 22] [.pointer (some ⟨b, off, none⟩), .int .u32 n, v3] r := .inl (.inr hcell)
    obtain ⟨es', clock', hrun, hfin⟩ := tags_update ht hum hw2 h3
    have hblk : ∀ k, k ≠ r → (ChangeMaps.setBlock w r (.map es' clock')).heap[k]? = w.heap[k]? := fun k hk => by
      simp [ChangeMaps.setBlock, Array.getElem?_setIfInBounds, Ne.symm hk]
    have hblkr : (ChangeMaps.setBlock w r (.map es' clock')).heap[r]? = some (.map es' clock') := by
      simp [ChangeMaps.setBlock, Array.getElem?_setIfInBounds, hrl]
    refine (set_some w _ b off r n v3 hcell hrun).mono fun e w' he => ?_
    obtain ⟨rfl, rfl⟩ := he
    refine ⟨_, rfl, ⟨rfl, rfl, rfl, by simp [ChangeMaps.setBlock], fun k hk hm => hblk k (fun e => hm (e ▸ hWr))⟩, ?_⟩
    refine ⟨rfl, b, off, ty, cs, .map (some r), ⟨141, 0, rfl, rfl⟩, hh, ?_, fun r' hr' => ?_, fun ok' h1' h2' => ?_⟩
    · rw [hblk b (Ne.symm hrb), hh]
      rw [arr_same hc]
    · cases hr'
      exact ⟨.inr hWr, by simp [ChangeMaps.setBlock]; exact hrl, hrb⟩
    · rw [hX]
      exact hfin ok' _ hblkr (fun k hk => ⟨h1' k hk, hblk k (fun e => (hok k hk).2 (e ▸ hWr))⟩)
theorem len_nil (w : World) : (Builtin.len_ #[59] 3 #[.map none]).run Tryd.prog w = .ok (goInt 0) w := by kernel_rfl
theorem len_some (w : World) (r clock : Nat) (es : Array MapEntry) (hum : Tryd.prog.underlying 59 = some (.map 55 22)) (h : w.heap[r]? = some (.map es clock)) : (Builtin.len_ #[59] 3 #[.map (some r)]).run Tryd.prog w = .ok (goInt es.size) w := by
  simp [Builtin.len_, run_underlying hum, Go.MapKept.run_getObj_map h, Result.andThen]
def Tryd.sa6_ren : Go.Shelf.Ren := ⟨fun | 6 => 112 | 10 => 163 | 11 => 164 | 12 => 165 | 13 => 166 | 14 => 167 | 24 => 190 | 25 => 191 | 26 => 192 | 27 => 193 | 28 => 194 | 29 => 195 | 30 => 196 | 31 => 197 | 32 => 198 | 33 => 199 | 34 => 201 | 35 => 202 | 36 => 203 | 37 => 204 | 38 => 205 | 39 => 206 | n => n, fun | 20 => 20 | 26 => 144 | 35 => 188 | 0 => 0 | 37 => 190 | 3 => 3 | 41 => 193 | 44 => 196 | 49 => 55 | 51 => 153 | 4 => 4 | 54 => 214 | 53 => 213 | 58 => 218 | 5 => 5 | 9 => 9 | 60 => 221 | 64 => 224 | 66 => 226 | 67 => 227 | 17 => 17 | 32 => 185 | 33 => 186 | 82 => 242 | 12 => 12 | 75 => 235 | 76 => 236 | 77 => 237 | 78 => 238 | 79 => 239 | 80 => 240 | n => n, fun | n => n⟩
theorem Tryd.sa6 : Go.Proofs.LaysGg.n6 Tryd.prog Tryd.sa6_ren := {
  mixed := by kernel_rfl
  f6 := Tryd.func112.trans (congrArg some (by kernel_rfl))
  f10 := Tryd.func163.trans (congrArg some (by kernel_rfl))
  f11 := Tryd.func164.trans (congrArg some (by kernel_rfl))
  f12 := Tryd.func165.trans (congrArg some (by kernel_rfl))
  f13 := Tryd.func166.trans (congrArg some (by kernel_rfl))
  f14 := Tryd.func167.trans (congrArg some (by kernel_rfl))
  f24 := Tryd.func190.trans (congrArg some (by kernel_rfl))
  f25 := Tryd.func191.trans (congrArg some (by kernel_rfl))
  f26 := Tryd.func192.trans (congrArg some (by kernel_rfl))
  f27 := Tryd.func193.trans (congrArg some (by kernel_rfl))
  f28 := Tryd.func194.trans (congrArg some (by kernel_rfl))
  f29 := Tryd.func195.trans (congrArg some (by kernel_rfl))
  f30 := Tryd.func196.trans (congrArg some (by kernel_rfl))
  f31 := Tryd.func197.trans (congrArg some (by kernel_rfl))
  f32 := Tryd.func198.trans (congrArg some (by kernel_rfl))
  f33 := Tryd.func199.trans (congrArg some (by kernel_rfl))
  f34 := Tryd.func201.trans (congrArg some (by kernel_rfl))
  f35 := Tryd.func202.trans (congrArg some (by kernel_rfl))
  f36 := Tryd.func203.trans (congrArg some (by kernel_rfl))
  f37 := Tryd.func204.trans (congrArg some (by kernel_rfl))
  f38 := Tryd.func205.trans (congrArg some (by kernel_rfl))
  f39 := Tryd.func206.trans (congrArg some (by kernel_rfl))
  t0 := Tryd.underlying0
  a0 := Tryd.isAgg0
  z0 := Tryd.sizeOf0
  v0 := Tryd.zeroValue0
  i0 := by kernel_rfl
  t3 := Tryd.underlying3
  a3 := Tryd.isAgg3
  z3 := Tryd.sizeOf3
  v3 := Tryd.zeroValue3
  i3 := by kernel_rfl
  t4 := Tryd.underlying4
  a4 := Tryd.isAgg4
  z4 := Tryd.sizeOf4
  v4 := Tryd.zeroValue4
  i4 := by kernel_rfl
  t5 := Tryd.underlying5
  a5 := Tryd.isAgg5
  z5 := Tryd.sizeOf5
  v5 := Tryd.zeroValue5
  i5 := by kernel_rfl
  t9 := Tryd.underlying9
  a9 := Tryd.isAgg9
  z9 := Tryd.sizeOf9
  v9 := Tryd.zeroValue9
  i9 := by kernel_rfl
  t12 := Tryd.underlying12
  a12 := Tryd.isAgg12
  z12 := Tryd.sizeOf12
  v12 := Tryd.zeroValue12
  i12 := by kernel_rfl
  t17 := Tryd.underlying17
  a17 := Tryd.isAgg17
  z17 := Tryd.sizeOf17
  v17 := Tryd.zeroValue17
  i17 := by kernel_rfl
  t20 := Tryd.underlying20
  a20 := Tryd.isAgg20
  z20 := Tryd.sizeOf20
  v20 := Tryd.zeroValue20
  i20 := by kernel_rfl
  t26 := Tryd.underlying144
  a26 := Tryd.isAgg144
  z26 := Tryd.sizeOf144
  v26 := Tryd.zeroValue144
  i26 := by kernel_rfl
  t32 := Tryd.underlying185
  a32 := Tryd.isAgg185
  z32 := Tryd.sizeOf185
  v32 := Tryd.zeroValue185
  i32 := by kernel_rfl
  t33 := Tryd.underlying186
  a33 := Tryd.isAgg186
  z33 := Tryd.sizeOf186
  v33 := Tryd.zeroValue186
  i33 := by kernel_rfl
  t35 := Tryd.underlying188
  a35 := Tryd.isAgg188
  z35 := Tryd.sizeOf188
  v35 := Tryd.zeroValue188
  i35 := by kernel_rfl
  t37 := Tryd.underlying190
  a37 := Tryd.isAgg190
  z37 := Tryd.sizeOf190
  v37 := Tryd.zeroValue190
  i37 := by kernel_rfl
  t41 := Tryd.underlying193
  a41 := Tryd.isAgg193
  z41 := Tryd.sizeOf193
  v41 := Tryd.zeroValue193
  i41 := by kernel_rfl
  t44 := Tryd.underlying196
  a44 := Tryd.isAgg196
  z44 := Tryd.sizeOf196
  v44 := Tryd.zeroValue196
  i44 := by kernel_rfl
  t49 := Tryd.underlying55
  a49 := Tryd.isAgg55
  z49 := Tryd.sizeOf55
  v49 := Tryd.zeroValue55
  i49 := by kernel_rfl
  t51 := Tryd.underlying153
  a51 := Tryd.isAgg153
  z51 := Tryd.sizeOf153
  v51 := Tryd.zeroValue153
  i51 := by kernel_rfl
  t53 := Tryd.underlying213
  a53 := Tryd.isAgg213
  z53 := Tryd.sizeOf213
  v53 := Tryd.zeroValue213
  i53 := by kernel_rfl
  t54 := Tryd.underlying214
  a54 := Tryd.isAgg214
  z54 := Tryd.sizeOf214
  v54 := Tryd.zeroValue214
  i54 := by kernel_rfl
  t58 := Tryd.underlying218
  a58 := Tryd.isAgg218
  z58 := Tryd.sizeOf218
  v58 := Tryd.zeroValue218
  i58 := by kernel_rfl
  t60 := Tryd.underlying221
  a60 := Tryd.isAgg221
  z60 := Tryd.sizeOf221
  v60 := Tryd.zeroValue221
  i60 := by kernel_rfl
  t64 := Tryd.underlying224
  a64 := Tryd.isAgg224
  z64 := Tryd.sizeOf224
  v64 := Tryd.zeroValue224
  i64 := by kernel_rfl
  t66 := Tryd.underlying226
  a66 := Tryd.isAgg226
  z66 := Tryd.sizeOf226
  v66 := Tryd.zeroValue226
  i66 := by kernel_rfl
  t67 := Tryd.underlying227
  a67 := Tryd.isAgg227
  z67 := Tryd.sizeOf227
  v67 := Tryd.zeroValue227
  i67 := by kernel_rfl
  t75 := Tryd.underlying235
  a75 := Tryd.isAgg235
  z75 := Tryd.sizeOf235
  v75 := Tryd.zeroValue235
  i75 := by kernel_rfl
  t76 := Tryd.underlying236
  a76 := Tryd.isAgg236
  z76 := Tryd.sizeOf236
  v76 := Tryd.zeroValue236
  i76 := by kernel_rfl
  t77 := Tryd.underlying237
  a77 := Tryd.isAgg237
  z77 := Tryd.sizeOf237
  v77 := Tryd.zeroValue237
  i77 := by kernel_rfl
  t78 := Tryd.underlying238
  a78 := Tryd.isAgg238
  z78 := Tryd.sizeOf238
  v78 := Tryd.zeroValue238
  i78 := by kernel_rfl
  t79 := Tryd.underlying239
  a79 := Tryd.isAgg239
  z79 := Tryd.sizeOf239
  v79 := Tryd.zeroValue239
  i79 := by kernel_rfl
  t80 := Tryd.underlying240
  a80 := Tryd.isAgg240
  z80 := Tryd.sizeOf240
  v80 := Tryd.zeroValue240
  i80 := by kernel_rfl
  t82 := Tryd.underlying242
  a82 := Tryd.isAgg242
  z82 := Tryd.sizeOf242
  v82 := Tryd.zeroValue242
  i82 := by kernel_rfl }
end Go.Proofs
namespace Go.Proofs
open Go.Shelf Go.RowKit Go.Lib Go.Sort
theorem sorted_keys {zs ks : List Int} {d' : Array Int} (hp : PermIn 0 zs.toArray.size zs.toArray d') (hs : SortedIn ltInt 0 zs.toArray.size d') (hk : ks.Perm zs) (ho : ks.Pairwise (· < ·)) : d' = ks.toArray := by
  obtain ⟨h1, _, h3⟩ := hp
  have e1 : (d'.extract 0 zs.toArray.size).toList = d'.toList := by rw [← h1]; simp
  have e2 : (zs.toArray.extract 0 zs.toArray.size).toList = zs := by simp
  rw [e1, e2] at h3
  have hpw : d'.toList.Pairwise (· ≤ ·) := by
    rw [List.pairwise_iff_getElem]
    intro i j hi hj hij
    have := hs i j (Nat.zero_le _) hij (by rw [← h1]; simpa using hj)
    simp only [ltInt, decide_eq_false_iff_not] at this
    have hi' : i < d'.size := by simpa using hi
    have hj' : j < d'.size := by simpa using hj
    rw [getElem!_pos d' i hi', getElem!_pos d' j hj'] at this
    rw [Array.getElem_toList, Array.getElem_toList]
    omega
  have := List.Perm.eq_of_pairwise (le := (· ≤ ·)) (fun a b _ _ h1 h2 => by omega) hpw (ho.imp (fun h => by omega)) (h3.trans hk.symm)
  exact Array.toList_inj.1 (by rw [this])
noncomputable def si142 : TypeInfo := (Tryd.prog.info? 142).get (by kernel_rfl)
noncomputable def si55 : TypeInfo := (Tryd.prog.info? 55).get (by kernel_rfl)
theorem siK55 (n : Nat) (h2 : 2 ≤ n) : Lib.swapperK n si55 10 = 6 := by
  have a : si55.hasPointers = false := by kernel_rfl
  have b : si55.bytes = 4 := by kernel_rfl
  have c : (n == 0) = false := by simp; omega
  have d : (n == 1) = false := by simp; omega
  simp [Lib.swapperK, a, b, c, d]
set_option maxHeartbeats 2000000 in
set_option maxRecDepth 100000 in
theorem less_u32 (blk off c Bs size : Nat) (W : World) (G : Nat → Int) (hs : W.cell? ⟨Bs, 0, none⟩ = some (.slice (some ⟨blk, off, none⟩) size c))
    (hc : ∀ t, t < size → W.cell? ⟨blk, off + t, none⟩ = some (.int .u32 (G t))) (i j : Nat) (hi : i < size) (hj : j < size) :
    Calls Tryd.prog 113 #[.int .i64 i, .int .i64 j, .pointer (some ⟨Bs, 0, none⟩)] W fun e w' => e = .returned (.bool (decide (G i < G j))) ∧ ∃ q, w' = W.drewN q := by
  have ci := hc i hi
  have cj := hc j hj
  go_enter Tryd.func113, Tryd.ntmps113
  go_wp2
  go_quiet (fail)
  go_wp2
  go_ret
  exact ⟨rfl, nq, rfl⟩
theorem sort_u32 (blk c OB : Nat) (zs ks : List Int) (w : World) (hfew : zs.length < 4611686018427387904) (hH : Holds (Value.int .u32) w blk 0 zs.toArray) (hblk : blk < w.heap.size)
    (hOB : w.cell? ⟨OB, 0, none⟩ = some (.slice (some ⟨blk, 0, none⟩) zs.length c)) (hOBl : OB < w.heap.size) (hne : OB ≠ blk) (hk : ks.Perm zs) (ho : ks.Pairwise (· < ·)) :
    Calls Tryd.prog 112 #[.iface 142 (.slice (some ⟨blk, 0, none⟩) zs.length c), .func (.func 113) #[] #[.pointer (some ⟨OB, 0, none⟩)]] w fun e w' =>
      e = .returned (.tuple #[]) ∧ ∃ n os, w' = grow (putRow (Value.int .u32) (Sort.ahead w n) blk 0 ks.toArray) os := by
  by_cases h2 : 2 ≤ zs.length
  · have hless : LessReads Tryd.prog 113 #[.pointer (some ⟨OB, 0, none⟩)] (Value.int .u32) ltInt blk 0 zs.toArray.size w := by
      intro m os dk hs i j hi hj
      have e : sortWorld (Value.int .u32) w blk 0 m dk os = putRow (Value.int .u32) (grow (Sort.ahead w m) os) blk 0 dk := by
        unfold sortWorld; rw [putRow_grow _ (Sort.ahead w m) _ blk 0 _ hblk]
      have hHg : Holds (Value.int .u32) (grow (Sort.ahead w m) os) blk 0 zs.toArray := holds_grow _ _ _ blk 0 _ hblk (holds_ahead _ _ _ _ _ _ hH)
      refine less_u32 blk 0 c OB zs.toArray.size _ (fun t => dk[t]!) ?_ (fun t ht => ?_) i j hi hj
      · rw [e, cell?_putRow_other _ _ blk 0 dk _ (Or.inl (by show OB ≠ blk; exact hne)), cell?_grow _ _ _ (by show OB < w.heap.size; exact hOBl)]
        exact hOB
      · rw [e]; exact cell?_putRow _ _ blk 0 _ dk hHg hs t (by omega)
    have hS := Any.sort_Slice_sorted Tryd.sa6 142 55 si142 si55 (by kernel_rfl) (by kernel_rfl) (by kernel_rfl) (by kernel_rfl) 10 (fun _ => by kernel_rfl) (by kernel_rfl) (fun _ => by kernel_rfl) (Value.int .u32) (fun _ => rfl) ltInt swo_ltInt 113 _
      (enters_of Tryd.func113 (by kernel_rfl) rfl) blk 0 c zs.toArray (by simpa using h2) (by simpa using hfew) 186 (by rw [siK55 _ (by simpa using h2)]; kernel_rfl) true
      (fun args W => run_callFunc_extern Tryd.func186 (by kernel_rfl) (by kernel_rfl) (by kernel_rfl) (e := Extern.ReflectliteSwapper.swap true) (by kernel_rfl) args W) _ hless hH hblk
    change Calls Tryd.prog 112 _ _ _ at hS
    refine hS.mono ?_
    rintro e w' ⟨rfl, d', n, os, hp, hso, rfl⟩
    rw [sorted_keys hp hso hk ho]
    exact ⟨rfl, n, os, rfl⟩
  · have hzk : zs = ks := by
      have hl := hk.length_eq
      match zs, ks, hl with
      | [], [], _ => rfl
      | [x], [y], _ => have := hk.mem_iff (a := y); simp at this; first | done | rw [this]
      | x :: y :: r, _, _ => exact absurd (by simp) h2
    have hK : Lib.swapperK zs.length si55 10 = zs.length + 1 := by
      rcases Nat.eq_zero_or_pos zs.length with h | h
      · rw [h]; rfl
      · have : zs.length = 1 := by omega
        rw [this]; rfl
    have hS := fun W => Any.sort_Slice_tiny Tryd.sa6 142 55 si142 si55 (by kernel_rfl) (by kernel_rfl) (by kernel_rfl) (by kernel_rfl) 10 (fun _ => by kernel_rfl) (some ⟨blk, 0, none⟩) zs.length c (by omega) (181 + zs.length) (by
      rw [hK]
      rcases Nat.eq_zero_or_pos zs.length with h | h
      · rw [h]; kernel_rfl
      · have : zs.length = 1 := by omega
        rw [this]; refine Eq.trans ?_ rfl; kernel_rfl) (.func 113) #[] #[.pointer (some ⟨OB, 0, none⟩)] W
    refine (hS w).mono ?_
    rintro e w' ⟨rfl, os, rfl⟩
    refine ⟨rfl, 0, os, ?_⟩
    rw [← hzk]
    congr 1
    exact (putRow_self _ _ blk 0 _ hH).symm
theorem law55 : Maps.Keyed Tryd.prog 55 := Maps.int_keyed Tryd.underlying55
theorem info55 : (Tryd.prog.info? 55).map (fun i => (i.zero, i.size, i.bytes)) = some (some (.int .u32 0), 1, 4) := by kernel_rfl
theorem info142 : Tryd.prog.underlying 142 = some (.slice 55) := by kernel_rfl
def Coll {H : Type} (D : DataW H) (left : Lit → Bool) (zs : List Int) : Prop := zs.Nodup ∧ (∀ x, x ∈ zs ↔ Maps.has D (.int .u32 x) = true ∧ left (.int .u32 x) = false) ∧ ∀ kl, left kl = true → Maps.has D kl = true
theorem Coll.start {H : Type} (D : DataW H) : Coll D (Maps.has D) [] := ⟨List.nodup_nil, fun x => ⟨(fun h => by cases h), (fun ⟨h1, h2⟩ => by rw [h1] at h2; cases h2)⟩, fun _ h => h⟩
theorem cellB {w : World} {b ty : Nat} {v : Value} (h : w.heap[b]? = some (.cells #[v] ty (0, 0))) : w.cell? ⟨b, 0, none⟩ = some v := by simp [World.cell?, h]
theorem frozB {w : World} {b ty : Nat} {v : Value} (h : w.heap[b]? = some (.cells #[v] ty (0, 0))) : w.frozen? ⟨b, 0, none⟩ = false := by simp [World.frozen?, h]
theorem blockOB {w w3 : World} {x : Obj} {OB ty : Nat} {vS : Value} (hg : (w.alloc x).grownBy w3 vS.ownBlock) (h : w.heap[OB]? = some (.cells #[vS] ty (0, 0))) (hne : vS.ownBlock ≠ some OB) : w3.heap[OB]? = some (.cells #[vS] ty (0, 0)) := by
  have hl : OB < w.heap.size := (Array.getElem?_eq_some_iff.1 h).1
  rw [hg.block OB (by simp; omega) (fun e => hne e.symm), (MapKept.heap_alloc w x).2 OB hl, h]
theorem rowShape {w : World} {base : Nat} {e : TypeId} {size : Nat} {v : Value} {n : Nat} {xs : List Value} (h : w.ownsRow base e size v n xs) (hne : v ≠ .slice none 0 0) : ∃ g cap, v = .slice (some ⟨g, 0, none⟩) n cap := by
  rcases h.2 with ⟨rfl, _⟩ | ⟨g, cap, cur, rfl, _⟩
  · exact absurd rfl hne
  · exact ⟨g, cap, rfl⟩
theorem rowBlock {w : World} {base : Nat} {e : TypeId} {size : Nat} {g n m cap : Nat} {xs : List Value} (h : w.ownsRow base e size (.slice (some ⟨g, 0, none⟩) m cap) n xs) : ∃ cur, w.heap[g]? = some (.cells cur e (0, 0)) := by
  rcases h.2 with ⟨h, _⟩ | ⟨g', cap', cur, h, _, hb, _⟩
  · cases h
  · cases h; exact ⟨cur, hb⟩
theorem grown_setCell {w : World} {b ty : Nat} {v u : Value} (h : w.heap[b]? = some (.cells #[u] ty (0, 0))) : w.grownBy (w.setCell ⟨b, 0, none⟩ v) (some b) :=
  ⟨rfl, rfl, rfl, by simp, fun k _ hne => heap_setCell_other w ⟨b, 0, none⟩ k v (fun e => hne (by rw [e]))⟩
theorem setCell_block {w : World} {b ty : Nat} {v u : Value} (h : w.heap[b]? = some (.cells #[u] ty (0, 0))) : (w.setCell ⟨b, 0, none⟩ v).heap[b]? = some (.cells #[v] ty (0, 0)) := by
  simp only [World.setCell, Array.getElem?_modify, if_true, h, Option.map_some]
  rfl
theorem Coll.step {H : Type} {D : DataW H} {left : Lit → Bool} {zs : List Int} {x : Int} {kl : Lit} (h : Coll D left zs) (hkey : keyOf Tryd.prog 55 (.int .u32 x) = some kl) (hlk : left kl = true) : Coll D (fun z => left z && !z.sameKey kl) (zs ++ [x]) := by
  obtain ⟨h1, h2, h3⟩ := h
  obtain ⟨x', ex, rfl, _⟩ := Maps.keyOf_int_inv Tryd.underlying55 hkey
  cases ex
  refine ⟨?_, fun y => ?_, fun kl hkl => ?_⟩
  · refine List.nodup_append.2 ⟨h1, by simp, fun a ha b hb => ?_⟩
    rw [List.mem_singleton] at hb
    intro e
    rw [e, hb] at ha
    have := ((h2 _).1 ha).2
    rw [hlk] at this; cases this
  · rw [List.mem_append, List.mem_singleton, h2 y]
    by_cases e : y = x
    · subst e
      have hs : (Lit.int .u32 y).sameKey (.int .u32 y) = true := WideAt.sameKey_self trivial
      simp [h3 _ hlk, hs]
    · have hs : (Lit.int .u32 y).sameKey (.int .u32 x) = false := by
        cases hh : (Lit.int .u32 y).sameKey (.int .u32 x)
        · rfl
        · have := WideAt.sameKey_eq hh
          cases this; exact absurd rfl e
      simp [hs, e]
  · simp only [Bool.and_eq_true] at hkl
    exact h3 _ hkl.1
theorem holdsU {w : World} {base g cap m : Nat} {zs : List Int} (h : w.ownsRow base 55 1 (.slice (some ⟨g, 0, none⟩) m cap) zs.length (zs.map (Value.int .u32))) : Go.Sort.Holds (Value.int .u32) w g 0 zs.toArray := by
  rcases h.2 with ⟨h, _⟩ | ⟨g', cap', cur, h, _, hb, _, _, _, ht⟩
  · cases h
  cases h
  rw [Nat.mul_one] at ht
  intro j hj
  have hj' : j < zs.length := by simpa using hj
  refine ⟨?_, by simp [World.frozen?, hb]⟩
  have h1 : (cur.toList.take zs.length)[j]? = (zs.map (Value.int .u32))[j]? := by rw [ht]
  rw [List.getElem?_take_of_lt hj', List.getElem?_map, List.getElem?_eq_getElem hj', Array.getElem?_toList] at h1
  simp only [World.cell?, Nat.zero_add, hb]
  simp [h1, hj']
theorem sorted_facts {blk OB : Nat} {zs ks : List Int} {w : World} {f : FuncId} {args : Array Value} {v : Value} (h : Calls Tryd.prog f args w fun e w' => e = .returned (.tuple #[]) ∧ ∃ n os, w' = Go.Sort.grow (Go.Sort.putRow (Value.int .u32) (Go.Sort.ahead w n) blk 0 ks.toArray) os)
    (hH : Go.Sort.Holds (Value.int .u32) w blk 0 zs.toArray) (hblk : blk < w.heap.size) (hOB : w.cell? ⟨OB, 0, none⟩ = some v) (hOBl : OB < w.heap.size) (hne : OB ≠ blk) (hl : ks.length = zs.length) :
    Calls Tryd.prog f args w fun e ws => e = .returned (.tuple #[]) ∧ ws.cell? ⟨OB, 0, none⟩ = some v ∧ (∀ i, i < ks.length → ws.cell? ⟨blk, i, none⟩ = some (.int .u32 (ks.getD i 0))) ∧ w.grownBy ws (some blk) := by
  refine h.mono fun e ws ⟨he, n, os, hw⟩ => ⟨he, ?_, fun i hi => ?_, ?_⟩
  · rw [hw, Go.Sort.cell?_grow _ _ _ (by show OB < _; simpa using hOBl), Go.Sort.cell?_putRow_other _ _ blk 0 _ _ (Or.inl (by show OB ≠ blk; exact hne))]
    exact hOB
  · rw [hw, Go.Sort.cell?_grow _ _ _ (by show blk < _; simpa using hblk)]
    have := Go.Sort.cell?_putRow (Value.int .u32) (Go.Sort.ahead w n) blk 0 zs.toArray ks.toArray (Go.Sort.holds_ahead _ _ _ _ _ _ hH) (by simpa using hl) i (by simp; omega)
    rw [Nat.zero_add] at this
    rw [this]
    simp [List.getD_eq_getElem?_getD, hi]
  · rw [hw]
    refine ⟨rfl, rfl, rfl, by simp, fun k hk hne' => ?_⟩
    rw [Go.Sort.heap_grow_old _ _ (by simpa using hk)]
    have : blk ≠ k := fun e => hne' (by rw [e])
    simp [Go.Sort.putRow, Go.Sort.mapBlock, Go.Sort.ahead, Array.getElem?_modify, this]
theorem cell_of_block {w w' : World} {b o : Nat} (h : w'.heap[b]? = w.heap[b]?) : w'.cell? ⟨b, o, none⟩ = w.cell? ⟨b, o, none⟩ := by simp [World.cell?, h]
theorem cell_grown_alloc {w w' : World} {b o : Nat} {v : Value} (hg : w.grownBy w' none) (hb : b < w.heap.size) (h : w.cell? ⟨b, o, none⟩ = some v) (x : Obj) : (w'.alloc x).cell? ⟨b, o, none⟩ = some v := by
  have h1 := hg.block b hb (by simp)
  have hb' : b < w'.heap.size := Nat.lt_of_lt_of_le hb hg.size
  rw [cell_of_block ((MapKept.heap_alloc w' x).2 b hb'), cell_of_block h1, h]
theorem nmE : yWA Tryd.prog := names_ok (by kernel_rfl)
theorem ordE : Tryd.prog.follows .mixedOrders = true := by kernel_rfl
noncomputable def CE : Cfg := ⟨Tryd.prog, fun _ => none, fun _ _ _ => none⟩
end Go.Proofs
