/- Part of a verified symbolic run of the program's code (no condition of its own). -/
import Derived.Test.YtjjlhkdjjicpeaaGreatDoorRQ8
import Derived.Test.YtjjlhkdjjicpeaaGreatDoorRProg
import Derived.KernelRfl
import Derived.WalkKit
import Derived.Shelf.GgSortFunc.Whole
import Derived.Shelf.GgSortFunc.Tiny
import Derived.Deep.QuietTactic
import Derived.Ground.GgsProg
import Derived.Lib.SortBridge
import Derived.Sort.LotA
import Derived.Maps.RangeWalk
import Derived.Maps.OwnSet
import Derived.Maps.AppendAt
import Derived.Sort.OwnSorted
set_option linter.unusedVariables false
set_option linter.unusedSimpArgs false
open Go Go.Dx Go.Mx Go.RowKit
namespace Go.Proofs
theorem wpList_mapUpdate_run {P : Program} (w w' : World) {ops : Array Oper} {rest : List Oper} {o : Oper} {a : Act} {Q : Exit → Act → World → Prop}
    (hg : o.guard = none) (m x v : Operand) (t : TypeId) (hop : o.op = Op.mapUpdate t m x v) (hrun : (Instr.mapUpdate t (a.eval m) (a.eval x) (a.eval v)).run P w = .ok () w')
    (hK : wpList P ops Q rest (a.put o.dst undef) w') : wpList P ops Q (o :: rest) a w := by
  refine wpList_plain hg fun K' hK' => ?_
  unfold Oper.wp
  simp [execOp, hop, hrun, Result.andThen]
  exact hK' _ _ hK
theorem eqSome (r : Nat) (w : World) : (binOp BinOp.eql 82 (.map (some r)) (.map none)).run Tryz.prog w = .ok (.bool false) w := by kernel_rfl
theorem eqNone (w : World) : (binOp BinOp.eql 82 (.map none) (.map none)).run Tryz.prog w = .ok (.bool true) w := by kernel_rfl
set_option maxHeartbeats 1000000 in
set_option maxRecDepth 100000 in
theorem set_some (w w' : World) (b off r : Nat) (n : Int) (v : Value) (hc : w.cell? ⟨b, off, none⟩ = some (.map (some r))) (hrun : (Instr.mapUpdate 82 (.map (some r)) (.int .u32 n) v).run Tryz.prog w = .ok () w') :
    Calls Tryz.prog 170 #[.pointer (some ⟨b, off, none⟩), .int .u32 n, v] w fun e w2 => e = .returned (.tuple #[]) ∧ w2 = w' := by
  have h1 := eqSome r
  go_enter Tryz.func170, Tryz.ntmps170
  go_wp2_with (first | (at_mapUpdate; refine wpList_mapUpdate_run _ w' rfl _ _ _ 82 rfl hrun ?_) | go_in)
  go_end0
  exact ⟨rfl, rfl⟩
set_option maxHeartbeats 1000000 in
set_option maxRecDepth 100000 in
theorem set_nil (w w' : World) (b off : Nat) (n : Int) (v : Value) (hc : w.cell? ⟨b, off, none⟩ = some (.map none)) (hf : w.frozen? ⟨b, off, none⟩ = false) (hb : b < w.heap.size)
    (hrun : (Instr.mapUpdate 82 (.map (some w.heap.size)) (.int .u32 n) v).run Tryz.prog ((w.setCell ⟨b, off, none⟩ (.map (some w.heap.size))).alloc (.map #[] 0)) = .ok () w') :
    Calls Tryz.prog 170 #[.pointer (some ⟨b, off, none⟩), .int .u32 n, v] w fun e w2 => e = .returned (.tuple #[]) ∧ w2 = w' := by
  have hmm := @run_makeMap Tryz.prog
  have h1 := eqNone
  go_enter Tryz.func170, Tryz.ntmps170
  go_wp2_with (first | (at_mapUpdate; refine wpList_mapUpdate_run _ w' rfl _ _ _ 82 rfl hrun ?_) | go_in)
  go_end0
  exact ⟨rfl, rfl⟩
theorem cellAt {w : World} {b off ty : Nat} {cs : Array Value} {v : Value} (hh : w.heap[b]? = some (.cells cs ty (0, 0))) (hc : cs[off]? = some v) : w.cell? ⟨b, off, none⟩ = some v := by
  simp [World.cell?, hh, hc]
theorem frozAt {w : World} {b off ty : Nat} {cs : Array Value} (hh : w.heap[b]? = some (.cells cs ty (0, 0))) : w.frozen? ⟨b, off, none⟩ = false := by
  simp [World.frozen?, hh]
theorem arr_same {cs : Array Value} {i : Nat} {v : Value} (h : cs[i]? = some v) : cs.setIfInBounds i v = cs := by
  apply Array.ext'
  rw [Array.toList_setIfInBounds]
  exact zVJ (by rw [Array.getElem?_toList]; exact h)
theorem hand170 : qRA Tryz.prog X side 170 ⟨[.wcell 198 82, .val 75, .val 24], .cell 82, 23, true⟩ := by
  refine ⟨yTE (by kernel_rfl), fun ok w vs ds hA hok hRd hp => ?_⟩
  have hum : Tryz.prog.underlying 82 = some (.map 75 24) := by kernel_rfl
  obtain @⟨⟩ | @⟨_, v1, d1, _, _, _, h1, hA⟩ := hA
  obtain @⟨⟩ | @⟨_, v2, d2, _, _, _, h2, hA⟩ := hA
  obtain @⟨⟩ | @⟨_, v3, d3, _, _, _, h3, hA⟩ := hA
  cases hA
  obtain ⟨n, rfl, hn⟩ : KOk (.int .u32) d2 := by
    cases h2 with | val h => exact zZB (by kernel_rfl) h
  cases h3 with
  | val h3 =>
  cases h2 with
  | val h2 =>
  cases h2 with
  | int hu2 hw2 =>
  have hu2' : Tryz.prog.underlying 75 = some (.int .u32) := by kernel_rfl
  rw [hu2'] at hu2; cases hu2
  cases h1 with
  | wcell hh hc h hne hone =>
  rename_i b off mv ty cs
  have hcell := cellAt hh hc
  have hbl : b < w.heap.size := (Array.getElem?_eq_some_iff.1 hh).1
  have hol : off < cs.size := (Array.getElem?_eq_some_iff.1 hc).1
  have hWb : Wr w [AK.wcell 198 82, .val 75, .val 24] [.pointer (some ⟨b, off, none⟩), .int .u32 n, v3] b := .inl (.inl rfl)
  have hokb : ∀ k, ok k → k ≠ b := fun k hk e => (hok k hk).2 (e ▸ hWb)
  have hX : X 23 [d1, .int n, d3] = .map (insM n d3 (mapL d1)) := X_23 _ _ _
  cases h with
  | nil hu =>
    let w2 : World := (w.setCell ⟨b, off, none⟩ (.map (some w.heap.size))).alloc (.map #[] 0)
    have hw2b : w2.heap[b]? = some (.cells (cs.setIfInBounds off (.map (some w.heap.size))) ty (0, 0)) := by
      show ((w.setCell ⟨b, off, none⟩ (.map (some w.heap.size))).alloc (.map #[] 0)).heap[b]? = _
      rw [(MapKept.heap_alloc _ _).2 b (by simpa using hbl)]
      simp only [World.setCell, Array.getElem?_modify, if_true, hh, Option.map_some]
      rfl
    have hw2r : w2.heap[w.heap.size]? = some (.map #[] 0) := by
      have := (MapKept.heap_alloc (w.setCell ⟨b, off, none⟩ (.map (some w.heap.size))) (.map #[] 0)).1
      have hs : (w.setCell ⟨b, off, none⟩ (.map (some w.heap.size))).heap.size = w.heap.size := by simp
      rw [hs] at this
      exact this
    have hw2o : ∀ k, k < w.heap.size → k ≠ b → w2.heap[k]? = w.heap[k]? := fun k hk hne' => by
      show ((w.setCell ⟨b, off, none⟩ (.map (some w.heap.size))).alloc (.map #[] 0)).heap[k]? = _
      rw [(MapKept.heap_alloc _ _).2 k (by simpa using hk)]
      exact heap_setCell_other w ⟨b, off, none⟩ k _ (by simpa using hne')
    have hsz2 : w2.heap.size = w.heap.size + 1 := by simp [w2]
    have ht : TagsAt Tryz.prog ok w2 82 (.map (some w.heap.size)) (.map []) := .map (es := #[]) (clock := 0) hum hu2' hw2r (by simp) (by simp) (by simp) (by simp) (by simp) (by simp)
    obtain ⟨es', clock', hrun, hfin⟩ := tags_update ht hum hw2 (h3.mono (fun _ h => h) (fun k hk => hw2o k (hok k hk).1 (hokb k hk)))
    have hblk : ∀ k, k ≠ w.heap.size → (ChangeMaps.setBlock w2 w.heap.size (.map es' clock')).heap[k]? = w2.heap[k]? := fun k hk => by
      simp [ChangeMaps.setBlock, Array.getElem?_setIfInBounds, Ne.symm hk]
    have hblkr : (ChangeMaps.setBlock w2 w.heap.size (.map es' clock')).heap[w.heap.size]? = some (.map es' clock') := by
      simp [ChangeMaps.setBlock, Array.getElem?_setIfInBounds, hsz2]
    refine (set_nil w _ b off n v3 hcell (frozAt hh) hbl hrun).mono fun e w' he => ?_
    obtain ⟨rfl, rfl⟩ := he
    refine ⟨_, rfl, ⟨rfl, rfl, rfl, by simp [ChangeMaps.setBlock, hsz2], fun k hk hm => ?_⟩, ?_⟩
    · rw [hblk k (by omega), hw2o k hk (fun e => hm (e ▸ hWb))]
    · refine ⟨rfl, b, off, ty, cs, .map (some w.heap.size), ⟨198, 0, rfl, rfl⟩, hh, ?_, fun r hr => ?_, fun ok' h1' h2' => ?_⟩
      · rw [hblk b (by omega), hw2b]
      · cases hr
        exact ⟨.inl (Nat.le_refl _), by simp [ChangeMaps.setBlock, hsz2], by omega⟩
      · rw [hX]
        exact hfin ok' _ hblkr (fun k hk => ⟨h1' k hk, hblk k (by have := (hok k hk).1; omega)⟩)
  | map hu hk hh' hkeys hkw hs hborn hclock hr =>
    rename_i kk ee r clock es ds
    have ht : TagsAt Tryz.prog ok w 82 (.map (some r)) (.map ds) := .map hu hk hh' hkeys hkw hs hborn hclock hr
    have hrb : r ≠ b := fun e => hne (by rw [e])
    have hrl : r < w.heap.size := (Array.getElem?_eq_some_iff.1 hh').1
    have hWr : Wr w [AK.wcell 198 82, .val 75, .val 24] [.pointer (some ⟨b, off, none⟩), .int .u32 n, v3] r := .inl (.inr hcell)
    obtain ⟨es', clock', hrun, hfin⟩ := tags_update ht hum hw2 h3
    have hblk : ∀ k, k ≠ r → (ChangeMaps.setBlock w r (.map es' clock')).heap[k]? = w.heap[k]? := fun k hk => by
      simp [ChangeMaps.setBlock, Array.getElem?_setIfInBounds, Ne.symm hk]
    have hblkr : (ChangeMaps.setBlock w r (.map es' clock')).heap[r]? = some (.map es' clock') := by
      simp [ChangeMaps.setBlock, Array.getElem?_setIfInBounds, hrl]
    refine (set_some w _ b off r n v3 hcell hrun).mono fun e w' he => ?_
    obtain ⟨rfl, rfl⟩ := he
    refine ⟨_, rfl, ⟨rfl, rfl, rfl, by simp [ChangeMaps.setBlock], fun k hk hm => hblk k (fun e => hm (e ▸ hWr))⟩, ?_⟩
    refine ⟨rfl, b, off, ty, cs, .map (some r), ⟨198, 0, rfl, rfl⟩, hh, ?_, fun r' hr' => ?_, fun ok' h1' h2' => ?_⟩
    · rw [hblk b (Ne.symm hrb), hh]
      rw [arr_same hc]
    · cases hr'
      exact ⟨.inr hWr, by simp [ChangeMaps.setBlock]; exact hrl, hrb⟩
    · rw [hX]
      exact hfin ok' _ hblkr (fun k hk => ⟨h1' k hk, hblk k (fun e => (hok k hk).2 (e ▸ hWr))⟩)
set_option maxHeartbeats 1000000 in
set_option maxRecDepth 100000 in
theorem len_calls (w : World) (b off n : Nat) (m : Option Nat) (hc : w.cell? ⟨b, off, none⟩ = some (.map m)) (hlen : (Builtin.len_ #[82] 3 #[.map m]).run Tryz.prog w = .ok (goInt n) w) :
    Calls Tryz.prog 203 #[.pointer (some ⟨b, off, none⟩)] w fun e w2 => e = .returned (goInt n) ∧ w2 = w := by
  go_enter Tryz.func203, Tryz.ntmps203
  go_wp2
  go_ret
  exact ⟨rfl, rfl⟩
theorem len_nil (w : World) : (Builtin.len_ #[82] 3 #[.map none]).run Tryz.prog w = .ok (goInt 0) w := by kernel_rfl
theorem len_some (w : World) (r clock : Nat) (es : Array MapEntry) (hum : Tryz.prog.underlying 82 = some (.map 75 24)) (h : w.heap[r]? = some (.map es clock)) : (Builtin.len_ #[82] 3 #[.map (some r)]).run Tryz.prog w = .ok (goInt es.size) w := by
  simp [Builtin.len_, run_underlying hum, Go.MapKept.run_getObj_map h, Result.andThen]
theorem hand203 : qRA Tryz.prog X side 203 ⟨[.mcell 198 82], .val 3, 24, true⟩ := by
  refine ⟨yTE (by kernel_rfl), fun ok w vs ds hA hok hRd hp => ?_⟩
  have hum : Tryz.prog.underlying 82 = some (.map 75 24) := by kernel_rfl
  have hu3 : Tryz.prog.underlying 3 = some (.int .i64) := by kernel_rfl
  obtain @⟨⟩ | @⟨_, v1, d1, _, _, _, h1, hA⟩ := hA
  cases hA
  cases h1 with
  | mcell hc h =>
  rename_i b off mv
  cases h with
  | nil hu =>
    refine (len_calls w b off 0 none hc (len_nil w)).mono fun e w' he => ?_
    obtain ⟨rfl, rfl⟩ := he
    exact ⟨_, rfl, Fr.refl _ _, fun ok' _ _ => .int hu3 (by decide)⟩
  | map hu hk hh' hkeys hkw hs hborn hclock hr =>
    rename_i kk ee r clock es dd
    have hsz : es.size = dd.length := by
      have := hkeys.length_eq
      simpa using this
    have hfew := tags_few hs hkw
    refine (len_calls w b off es.size (some r) hc (len_some w r clock es hum hh')).mono fun e w' he => ?_
    obtain ⟨rfl, rfl⟩ := he
    refine ⟨_, rfl, Fr.refl _ _, fun ok' _ _ => ?_⟩
    rw [show X 24 [D.map dd] = .int (dd.length : Nat) from X_24 _, hsz]
    exact .int hu3 (by simp [Lit.wf, IntKind.min, IntKind.max, IntKind.signed, IntKind.bits]; omega)
open Go.Shelf
def Tryz.sa6_ren : Go.Shelf.Ren := ⟨fun | 6 => 210 | 10 => 212 | 11 => 213 | 12 => 214 | 13 => 215 | 14 => 216 | 24 => 209 | 25 => 226 | 26 => 227 | 27 => 228 | 28 => 229 | 29 => 230 | 30 => 231 | 31 => 232 | 32 => 233 | 33 => 234 | 34 => 235 | 35 => 236 | 36 => 237 | 37 => 238 | 38 => 239 | 39 => 240 | n => n, fun | 20 => 20 | 26 => 222 | 35 => 226 | 0 => 0 | 37 => 228 | 3 => 3 | 41 => 132 | 44 => 233 | 49 => 75 | 51 => 92 | 4 => 4 | 54 => 240 | 53 => 239 | 58 => 244 | 5 => 5 | 9 => 9 | 60 => 246 | 64 => 249 | 66 => 251 | 67 => 252 | 17 => 17 | 32 => 223 | 33 => 224 | 82 => 214 | 12 => 12 | 75 => 207 | 76 => 208 | 77 => 209 | 78 => 210 | 79 => 211 | 80 => 212 | n => n, fun | n => n⟩
theorem Tryz.sa6 : Go.Proofs.LaysGg.n6 Tryz.prog Tryz.sa6_ren := {
  mixed := by kernel_rfl
  f6 := Tryz.func210.trans (congrArg some (by kernel_rfl))
  f10 := Tryz.func212.trans (congrArg some (by kernel_rfl))
  f11 := Tryz.func213.trans (congrArg some (by kernel_rfl))
  f12 := Tryz.func214.trans (congrArg some (by kernel_rfl))
  f13 := Tryz.func215.trans (congrArg some (by kernel_rfl))
  f14 := Tryz.func216.trans (congrArg some (by kernel_rfl))
  f24 := Tryz.func209.trans (congrArg some (by kernel_rfl))
  f25 := Tryz.func226.trans (congrArg some (by kernel_rfl))
  f26 := Tryz.func227.trans (congrArg some (by kernel_rfl))
  f27 := Tryz.func228.trans (congrArg some (by kernel_rfl))
  f28 := Tryz.func229.trans (congrArg some (by kernel_rfl))
  f29 := Tryz.func230.trans (congrArg some (by kernel_rfl))
  f30 := Tryz.func231.trans (congrArg some (by kernel_rfl))
  f31 := Tryz.func232.trans (congrArg some (by kernel_rfl))
  f32 := Tryz.func233.trans (congrArg some (by kernel_rfl))
  f33 := Tryz.func234.trans (congrArg some (by kernel_rfl))
  f34 := Tryz.func235.trans (congrArg some (by kernel_rfl))
  f35 := Tryz.func236.trans (congrArg some (by kernel_rfl))
  f36 := Tryz.func237.trans (congrArg some (by kernel_rfl))
  f37 := Tryz.func238.trans (congrArg some (by kernel_rfl))
  f38 := Tryz.func239.trans (congrArg some (by kernel_rfl))
  f39 := Tryz.func240.trans (congrArg some (by kernel_rfl))
  t0 := Tryz.underlying0
  a0 := Tryz.isAgg0
  z0 := Tryz.sizeOf0
  v0 := Tryz.zeroValue0
  i0 := by kernel_rfl
  t3 := Tryz.underlying3
  a3 := Tryz.isAgg3
  z3 := Tryz.sizeOf3
  v3 := Tryz.zeroValue3
  i3 := by kernel_rfl
  t4 := Tryz.underlying4
  a4 := Tryz.isAgg4
  z4 := Tryz.sizeOf4
  v4 := Tryz.zeroValue4
  i4 := by kernel_rfl
  t5 := Tryz.underlying5
  a5 := Tryz.isAgg5
  z5 := Tryz.sizeOf5
  v5 := Tryz.zeroValue5
  i5 := by kernel_rfl
  t9 := Tryz.underlying9
  a9 := Tryz.isAgg9
  z9 := Tryz.sizeOf9
  v9 := Tryz.zeroValue9
  i9 := by kernel_rfl
  t12 := Tryz.underlying12
  a12 := Tryz.isAgg12
  z12 := Tryz.sizeOf12
  v12 := Tryz.zeroValue12
  i12 := by kernel_rfl
  t17 := Tryz.underlying17
  a17 := Tryz.isAgg17
  z17 := Tryz.sizeOf17
  v17 := Tryz.zeroValue17
  i17 := by kernel_rfl
  t20 := Tryz.underlying20
  a20 := Tryz.isAgg20
  z20 := Tryz.sizeOf20
  v20 := Tryz.zeroValue20
  i20 := by kernel_rfl
  t26 := Tryz.underlying222
  a26 := Tryz.isAgg222
  z26 := Tryz.sizeOf222
  v26 := Tryz.zeroValue222
  i26 := by kernel_rfl
  t32 := Tryz.underlying223
  a32 := Tryz.isAgg223
  z32 := Tryz.sizeOf223
  v32 := Tryz.zeroValue223
  i32 := by kernel_rfl
  t33 := Tryz.underlying224
  a33 := Tryz.isAgg224
  z33 := Tryz.sizeOf224
  v33 := Tryz.zeroValue224
  i33 := by kernel_rfl
  t35 := Tryz.underlying226
  a35 := Tryz.isAgg226
  z35 := Tryz.sizeOf226
  v35 := Tryz.zeroValue226
  i35 := by kernel_rfl
  t37 := Tryz.underlying228
  a37 := Tryz.isAgg228
  z37 := Tryz.sizeOf228
  v37 := Tryz.zeroValue228
  i37 := by kernel_rfl
  t41 := Tryz.underlying132
  a41 := Tryz.isAgg132
  z41 := Tryz.sizeOf132
  v41 := Tryz.zeroValue132
  i41 := by kernel_rfl
  t44 := Tryz.underlying233
  a44 := Tryz.isAgg233
  z44 := Tryz.sizeOf233
  v44 := Tryz.zeroValue233
  i44 := by kernel_rfl
  t49 := Tryz.underlying75
  a49 := Tryz.isAgg75
  z49 := Tryz.sizeOf75
  v49 := Tryz.zeroValue75
  i49 := by kernel_rfl
  t51 := Tryz.underlying92
  a51 := Tryz.isAgg92
  z51 := Tryz.sizeOf92
  v51 := Tryz.zeroValue92
  i51 := by kernel_rfl
  t53 := Tryz.underlying239
  a53 := Tryz.isAgg239
  z53 := Tryz.sizeOf239
  v53 := Tryz.zeroValue239
  i53 := by kernel_rfl
  t54 := Tryz.underlying240
  a54 := Tryz.isAgg240
  z54 := Tryz.sizeOf240
  v54 := Tryz.zeroValue240
  i54 := by kernel_rfl
  t58 := Tryz.underlying244
  a58 := Tryz.isAgg244
  z58 := Tryz.sizeOf244
  v58 := Tryz.zeroValue244
  i58 := by kernel_rfl
  t60 := Tryz.underlying246
  a60 := Tryz.isAgg246
  z60 := Tryz.sizeOf246
  v60 := Tryz.zeroValue246
  i60 := by kernel_rfl
  t64 := Tryz.underlying249
  a64 := Tryz.isAgg249
  z64 := Tryz.sizeOf249
  v64 := Tryz.zeroValue249
  i64 := by kernel_rfl
  t66 := Tryz.underlying251
  a66 := Tryz.isAgg251
  z66 := Tryz.sizeOf251
  v66 := Tryz.zeroValue251
  i66 := by kernel_rfl
  t67 := Tryz.underlying252
  a67 := Tryz.isAgg252
  z67 := Tryz.sizeOf252
  v67 := Tryz.zeroValue252
  i67 := by kernel_rfl
  t75 := Tryz.underlying207
  a75 := Tryz.isAgg207
  z75 := Tryz.sizeOf207
  v75 := Tryz.zeroValue207
  i75 := by kernel_rfl
  t76 := Tryz.underlying208
  a76 := Tryz.isAgg208
  z76 := Tryz.sizeOf208
  v76 := Tryz.zeroValue208
  i76 := by kernel_rfl
  t77 := Tryz.underlying209
  a77 := Tryz.isAgg209
  z77 := Tryz.sizeOf209
  v77 := Tryz.zeroValue209
  i77 := by kernel_rfl
  t78 := Tryz.underlying210
  a78 := Tryz.isAgg210
  z78 := Tryz.sizeOf210
  v78 := Tryz.zeroValue210
  i78 := by kernel_rfl
  t79 := Tryz.underlying211
  a79 := Tryz.isAgg211
  z79 := Tryz.sizeOf211
  v79 := Tryz.zeroValue211
  i79 := by kernel_rfl
  t80 := Tryz.underlying212
  a80 := Tryz.isAgg212
  z80 := Tryz.sizeOf212
  v80 := Tryz.zeroValue212
  i80 := by kernel_rfl
  t82 := Tryz.underlying214
  a82 := Tryz.isAgg214
  z82 := Tryz.sizeOf214
  v82 := Tryz.zeroValue214
  i82 := by kernel_rfl }
end Go.Proofs
namespace Go.Proofs
open Go.Shelf Go.RowKit Go.Lib Go.Sort
theorem sorted_keys {zs ks : List Int} {d' : Array Int} (hp : PermIn 0 zs.toArray.size zs.toArray d') (hs : SortedIn ltInt 0 zs.toArray.size d') (hk : ks.Perm zs) (ho : ks.Pairwise (· < ·)) : d' = ks.toArray := by
  obtain ⟨h1, _, h3⟩ := hp
  have e1 : (d'.extract 0 zs.toArray.size).toList = d'.toList := by rw [← h1]; simp
  have e2 : (zs.toArray.extract 0 zs.toArray.size).toList = zs := by simp
  rw [e1, e2] at h3
  have hpw : d'.toList.Pairwise (· ≤ ·) := by
    rw [List.pairwise_iff_getElem]
    intro i j hi hj hij
    have := hs i j (Nat.zero_le _) hij (by rw [← h1]; simpa using hj)
    simp only [ltInt, decide_eq_false_iff_not] at this
    have hi' : i < d'.size := by simpa using hi
    have hj' : j < d'.size := by simpa using hj
    rw [getElem!_pos d' i hi', getElem!_pos d' j hj'] at this
    rw [Array.getElem_toList, Array.getElem_toList]
    omega
  have := List.Perm.eq_of_pairwise (le := (· ≤ ·)) (fun a b _ _ h1 h2 => by omega) hpw (ho.imp (fun h => by omega)) (h3.trans hk.symm)
  exact Array.toList_inj.1 (by rw [this])
noncomputable def si220 : TypeInfo := (Tryz.prog.info? 220).get (by kernel_rfl)
noncomputable def si75 : TypeInfo := (Tryz.prog.info? 75).get (by kernel_rfl)
theorem siK75 (n : Nat) (h2 : 2 ≤ n) : Lib.swapperK n si75 10 = 6 := by
  have a : si75.hasPointers = false := by kernel_rfl
  have b : si75.bytes = 4 := by kernel_rfl
  have c : (n == 0) = false := by simp; omega
  have d : (n == 1) = false := by simp; omega
  simp [Lib.swapperK, a, b, c, d]
set_option maxHeartbeats 2000000 in
set_option maxRecDepth 100000 in
theorem less_u32 (blk off c Bs size : Nat) (W : World) (G : Nat → Int) (hs : W.cell? ⟨Bs, 0, none⟩ = some (.slice (some ⟨blk, off, none⟩) size c))
    (hc : ∀ t, t < size → W.cell? ⟨blk, off + t, none⟩ = some (.int .u32 (G t))) (i j : Nat) (hi : i < size) (hj : j < size) :
    Calls Tryz.prog 211 #[.int .i64 i, .int .i64 j, .pointer (some ⟨Bs, 0, none⟩)] W fun e w' => e = .returned (.bool (decide (G i < G j))) ∧ ∃ q, w' = W.drewN q := by
  have ci := hc i hi
  have cj := hc j hj
  go_enter Tryz.func211, Tryz.ntmps211
  go_wp2
  go_quiet (fail)
  go_wp2
  go_ret
  exact ⟨rfl, nq, rfl⟩
theorem sort_u32 (blk c OB : Nat) (zs ks : List Int) (w : World) (hfew : zs.length < 4611686018427387904) (hH : Holds (Value.int .u32) w blk 0 zs.toArray) (hblk : blk < w.heap.size)
    (hOB : w.cell? ⟨OB, 0, none⟩ = some (.slice (some ⟨blk, 0, none⟩) zs.length c)) (hOBl : OB < w.heap.size) (hne : OB ≠ blk) (hk : ks.Perm zs) (ho : ks.Pairwise (· < ·)) :
    Calls Tryz.prog 210 #[.iface 220 (.slice (some ⟨blk, 0, none⟩) zs.length c), .func (.func 211) #[] #[.pointer (some ⟨OB, 0, none⟩)]] w fun e w' =>
      e = .returned (.tuple #[]) ∧ ∃ n os, w' = grow (putRow (Value.int .u32) (Sort.ahead w n) blk 0 ks.toArray) os := by
  by_cases h2 : 2 ≤ zs.length
  · have hless : LessReads Tryz.prog 211 #[.pointer (some ⟨OB, 0, none⟩)] (Value.int .u32) ltInt blk 0 zs.toArray.size w := by
      intro m os dk hs i j hi hj
      have e : sortWorld (Value.int .u32) w blk 0 m dk os = putRow (Value.int .u32) (grow (Sort.ahead w m) os) blk 0 dk := by
        unfold sortWorld; rw [putRow_grow _ (Sort.ahead w m) _ blk 0 _ hblk]
      have hHg : Holds (Value.int .u32) (grow (Sort.ahead w m) os) blk 0 zs.toArray := holds_grow _ _ _ blk 0 _ hblk (holds_ahead _ _ _ _ _ _ hH)
      refine less_u32 blk 0 c OB zs.toArray.size _ (fun t => dk[t]!) ?_ (fun t ht => ?_) i j hi hj
      · rw [e, cell?_putRow_other _ _ blk 0 dk _ (Or.inl (by show OB ≠ blk; exact hne)), cell?_grow _ _ _ (by show OB < w.heap.size; exact hOBl)]
        exact hOB
      · rw [e]; exact cell?_putRow _ _ blk 0 _ dk hHg hs t (by omega)
    have hS := Any.sort_Slice_sorted Tryz.sa6 220 75 si220 si75 (by kernel_rfl) (by kernel_rfl) (by kernel_rfl) (by kernel_rfl) 10 (fun _ => by kernel_rfl) (by kernel_rfl) (fun _ => by kernel_rfl) (Value.int .u32) (fun _ => rfl) ltInt swo_ltInt 211 _
      (enters_of Tryz.func211 (by kernel_rfl) rfl) blk 0 c zs.toArray (by simpa using h2) (by simpa using hfew) 222 (by rw [siK75 _ (by simpa using h2)]; kernel_rfl) true
      (fun args W => run_callFunc_extern Tryz.func222 (by kernel_rfl) (by kernel_rfl) (by kernel_rfl) (e := Extern.ReflectliteSwapper.swap true) (by kernel_rfl) args W) _ hless hH hblk
    change Calls Tryz.prog 210 _ _ _ at hS
    refine hS.mono ?_
    rintro e w' ⟨rfl, d', n, os, hp, hso, rfl⟩
    rw [sorted_keys hp hso hk ho]
    exact ⟨rfl, n, os, rfl⟩
  · have hzk : zs = ks := by
      have hl := hk.length_eq
      match zs, ks, hl with
      | [], [], _ => rfl
      | [x], [y], _ => have := hk.mem_iff (a := y); simp at this; first | done | rw [this]
      | x :: y :: r, _, _ => exact absurd (by simp) h2
    have hK : Lib.swapperK zs.length si75 10 = zs.length + 1 := by
      rcases Nat.eq_zero_or_pos zs.length with h | h
      · rw [h]; rfl
      · have : zs.length = 1 := by omega
        rw [this]; rfl
    have hS := fun W => Any.sort_Slice_tiny Tryz.sa6 220 75 si220 si75 (by kernel_rfl) (by kernel_rfl) (by kernel_rfl) (by kernel_rfl) 10 (fun _ => by kernel_rfl) (some ⟨blk, 0, none⟩) zs.length c (by omega) (217 + zs.length) (by
      rw [hK]
      rcases Nat.eq_zero_or_pos zs.length with h | h
      · rw [h]; kernel_rfl
      · have : zs.length = 1 := by omega
        rw [this]; refine Eq.trans ?_ rfl; kernel_rfl) (.func 211) #[] #[.pointer (some ⟨OB, 0, none⟩)] W
    refine (hS w).mono ?_
    rintro e w' ⟨rfl, os, rfl⟩
    refine ⟨rfl, 0, os, ?_⟩
    rw [← hzk]
    congr 1
    exact (putRow_self _ _ blk 0 _ hH).symm
theorem law75 : Maps.Keyed Tryz.prog 75 := Maps.int_keyed Tryz.underlying75
theorem info75 : (Tryz.prog.info? 75).map (fun i => (i.zero, i.size, i.bytes)) = some (some (.int .u32 0), 1, 4) := by kernel_rfl
theorem info220 : Tryz.prog.underlying 220 = some (.slice 75) := by kernel_rfl
def Coll {H : Type} (D : DataW H) (left : Lit → Bool) (zs : List Int) : Prop := zs.Nodup ∧ (∀ x, x ∈ zs ↔ Maps.has D (.int .u32 x) = true ∧ left (.int .u32 x) = false) ∧ ∀ kl, left kl = true → Maps.has D kl = true
theorem Coll.start {H : Type} (D : DataW H) : Coll D (Maps.has D) [] := ⟨List.nodup_nil, fun x => ⟨(fun h => by cases h), (fun ⟨h1, h2⟩ => by rw [h1] at h2; cases h2)⟩, fun _ h => h⟩
theorem cellB {w : World} {b ty : Nat} {v : Value} (h : w.heap[b]? = some (.cells #[v] ty (0, 0))) : w.cell? ⟨b, 0, none⟩ = some v := by simp [World.cell?, h]
theorem frozB {w : World} {b ty : Nat} {v : Value} (h : w.heap[b]? = some (.cells #[v] ty (0, 0))) : w.frozen? ⟨b, 0, none⟩ = false := by simp [World.frozen?, h]
theorem blockOB {w w3 : World} {x : Obj} {OB ty : Nat} {vS : Value} (hg : (w.alloc x).grownBy w3 vS.ownBlock) (h : w.heap[OB]? = some (.cells #[vS] ty (0, 0))) (hne : vS.ownBlock ≠ some OB) : w3.heap[OB]? = some (.cells #[vS] ty (0, 0)) := by
  have hl : OB < w.heap.size := (Array.getElem?_eq_some_iff.1 h).1
  rw [hg.block OB (by simp; omega) (fun e => hne e.symm), (MapKept.heap_alloc w x).2 OB hl, h]
theorem rowShape {w : World} {base : Nat} {e : TypeId} {size : Nat} {v : Value} {n : Nat} {xs : List Value} (h : w.ownsRow base e size v n xs) (hne : v ≠ .slice none 0 0) : ∃ g cap, v = .slice (some ⟨g, 0, none⟩) n cap := by
  rcases h.2 with ⟨rfl, _⟩ | ⟨g, cap, cur, rfl, _⟩
  · exact absurd rfl hne
  · exact ⟨g, cap, rfl⟩
theorem rowBlock {w : World} {base : Nat} {e : TypeId} {size : Nat} {g n m cap : Nat} {xs : List Value} (h : w.ownsRow base e size (.slice (some ⟨g, 0, none⟩) m cap) n xs) : ∃ cur, w.heap[g]? = some (.cells cur e (0, 0)) := by
  rcases h.2 with ⟨h, _⟩ | ⟨g', cap', cur, h, _, hb, _⟩
  · cases h
  · cases h; exact ⟨cur, hb⟩
theorem grown_setCell {w : World} {b ty : Nat} {v u : Value} (h : w.heap[b]? = some (.cells #[u] ty (0, 0))) : w.grownBy (w.setCell ⟨b, 0, none⟩ v) (some b) :=
  ⟨rfl, rfl, rfl, by simp, fun k _ hne => heap_setCell_other w ⟨b, 0, none⟩ k v (fun e => hne (by rw [e]))⟩
theorem setCell_block {w : World} {b ty : Nat} {v u : Value} (h : w.heap[b]? = some (.cells #[u] ty (0, 0))) : (w.setCell ⟨b, 0, none⟩ v).heap[b]? = some (.cells #[v] ty (0, 0)) := by
  simp only [World.setCell, Array.getElem?_modify, if_true, h, Option.map_some]
  rfl
theorem Coll.step {H : Type} {D : DataW H} {left : Lit → Bool} {zs : List Int} {x : Int} {kl : Lit} (h : Coll D left zs) (hkey : keyOf Tryz.prog 75 (.int .u32 x) = some kl) (hlk : left kl = true) : Coll D (fun z => left z && !z.sameKey kl) (zs ++ [x]) := by
  obtain ⟨h1, h2, h3⟩ := h
  obtain ⟨x', ex, rfl, _⟩ := Maps.keyOf_int_inv Tryz.underlying75 hkey
  cases ex
  refine ⟨?_, fun y => ?_, fun kl hkl => ?_⟩
  · refine List.nodup_append.2 ⟨h1, by simp, fun a ha b hb => ?_⟩
    rw [List.mem_singleton] at hb
    intro e
    rw [e, hb] at ha
    have := ((h2 _).1 ha).2
    rw [hlk] at this; cases this
  · rw [List.mem_append, List.mem_singleton, h2 y]
    by_cases e : y = x
    · subst e
      have hs : (Lit.int .u32 y).sameKey (.int .u32 y) = true := WideAt.sameKey_self trivial
      simp [h3 _ hlk, hs]
    · have hs : (Lit.int .u32 y).sameKey (.int .u32 x) = false := by
        cases hh : (Lit.int .u32 y).sameKey (.int .u32 x)
        · rfl
        · have := WideAt.sameKey_eq hh
          cases this; exact absurd rfl e
      simp [hs, e]
  · simp only [Bool.and_eq_true] at hkl
    exact h3 _ hkl.1
theorem holdsU {w : World} {base g cap m : Nat} {zs : List Int} (h : w.ownsRow base 75 1 (.slice (some ⟨g, 0, none⟩) m cap) zs.length (zs.map (Value.int .u32))) : Go.Sort.Holds (Value.int .u32) w g 0 zs.toArray := by
  rcases h.2 with ⟨h, _⟩ | ⟨g', cap', cur, h, _, hb, _, _, _, ht⟩
  · cases h
  cases h
  rw [Nat.mul_one] at ht
  intro j hj
  have hj' : j < zs.length := by simpa using hj
  refine ⟨?_, by simp [World.frozen?, hb]⟩
  have h1 : (cur.toList.take zs.length)[j]? = (zs.map (Value.int .u32))[j]? := by rw [ht]
  rw [List.getElem?_take_of_lt hj', List.getElem?_map, List.getElem?_eq_getElem hj', Array.getElem?_toList] at h1
  simp only [World.cell?, Nat.zero_add, hb]
  simp [h1, hj']
theorem sorted_facts {blk OB : Nat} {zs ks : List Int} {w : World} {f : FuncId} {args : Array Value} {v : Value} (h : Calls Tryz.prog f args w fun e w' => e = .returned (.tuple #[]) ∧ ∃ n os, w' = Go.Sort.grow (Go.Sort.putRow (Value.int .u32) (Go.Sort.ahead w n) blk 0 ks.toArray) os)
    (hH : Go.Sort.Holds (Value.int .u32) w blk 0 zs.toArray) (hblk : blk < w.heap.size) (hOB : w.cell? ⟨OB, 0, none⟩ = some v) (hOBl : OB < w.heap.size) (hne : OB ≠ blk) (hl : ks.length = zs.length) :
    Calls Tryz.prog f args w fun e ws => e = .returned (.tuple #[]) ∧ ws.cell? ⟨OB, 0, none⟩ = some v ∧ (∀ i, i < ks.length → ws.cell? ⟨blk, i, none⟩ = some (.int .u32 (ks.getD i 0))) ∧ w.grownBy ws (some blk) := by
  refine h.mono fun e ws ⟨he, n, os, hw⟩ => ⟨he, ?_, fun i hi => ?_, ?_⟩
  · rw [hw, Go.Sort.cell?_grow _ _ _ (by show OB < _; simpa using hOBl), Go.Sort.cell?_putRow_other _ _ blk 0 _ _ (Or.inl (by show OB ≠ blk; exact hne))]
    exact hOB
  · rw [hw, Go.Sort.cell?_grow _ _ _ (by show blk < _; simpa using hblk)]
    have := Go.Sort.cell?_putRow (Value.int .u32) (Go.Sort.ahead w n) blk 0 zs.toArray ks.toArray (Go.Sort.holds_ahead _ _ _ _ _ _ hH) (by simpa using hl) i (by simp; omega)
    rw [Nat.zero_add] at this
    rw [this]
    simp [List.getD_eq_getElem?_getD, hi]
  · rw [hw]
    refine ⟨rfl, rfl, rfl, by simp, fun k hk hne' => ?_⟩
    rw [Go.Sort.heap_grow_old _ _ (by simpa using hk)]
    have : blk ≠ k := fun e => hne' (by rw [e])
    simp [Go.Sort.putRow, Go.Sort.mapBlock, Go.Sort.ahead, Array.getElem?_modify, this]
theorem cell_of_block {w w' : World} {b o : Nat} (h : w'.heap[b]? = w.heap[b]?) : w'.cell? ⟨b, o, none⟩ = w.cell? ⟨b, o, none⟩ := by simp [World.cell?, h]
theorem cell_grown_alloc {w w' : World} {b o : Nat} {v : Value} (hg : w.grownBy w' none) (hb : b < w.heap.size) (h : w.cell? ⟨b, o, none⟩ = some v) (x : Obj) : (w'.alloc x).cell? ⟨b, o, none⟩ = some v := by
  have h1 := hg.block b hb (by simp)
  have hb' : b < w'.heap.size := Nat.lt_of_lt_of_le hb hg.size
  rw [cell_of_block ((MapKept.heap_alloc w' x).2 b hb'), cell_of_block h1, h]
set_option maxHeartbeats 2000000 in
set_option maxRecDepth 100000 in
theorem each_calls (W : World) (b off r n B : Nat) (D : DataW Value) (ks : List Int) (hD : ∀ x, x ∈ ks ↔ Maps.has D (.int .u32 x) = true) (hks : ks.Pairwise (· < ·)) (M : Nat → Prop) (hM : ∀ x, M x → x < W.heap.size) (hMb : ¬ M b)
    (R : World → Nat → World → Prop) (hR0 : ∀ ws, Below W.heap.size W ws → R ws 0 ws) (hRf : ∀ ws k wl, R ws k wl → Fr M ws wl)
    (hRs : ∀ ws k wl, Below W.heap.size W ws → k < ks.length → R ws k wl → ∃ vk, (Instr.lookup 82 (.map (some r)) (.int .u32 (ks.getD k 0)) false).run Tryz.prog wl = .ok vk wl ∧ Calls Tryz.prog 208 #[.int .u32 (ks.getD k 0), vk, .pointer (some ⟨B, 0, none⟩)] wl fun e w' => e = .returned (.tuple #[]) ∧ R ws (k + 1) w') (hc : W.cell? ⟨b, off, none⟩ = some (.map (some r))) (hown : W.ownsMap Tryz.prog 75 qNJ r n D) (hn : 0 < Maps.size D) (hmax : Maps.size D ≤ 4294967296) (hb : b < W.heap.size) (hB : B < W.heap.size) :
    Calls Tryz.prog 207 #[.pointer (some ⟨b, off, none⟩), .func (.func 208) #[] #[.pointer (some ⟨B, 0, none⟩)]] W fun e w' => e = .returned (.tuple #[]) ∧ ∃ ws, Below W.heap.size W ws ∧ R ws ks.length w' := by
  obtain ⟨i0, hi, hz0, hz1, hz2⟩ : ∃ i, Tryz.prog.info? 75 = some i ∧ i.zero = some (.int .u32 0) ∧ i.size = 1 ∧ i.bytes = 4 := by
    have := info75
    cases h : Tryz.prog.info? 75 with
    | none => rw [h] at this; cases this
    | some i => rw [h] at this; simp at this; exact ⟨i, rfl, this.1, this.2.1, this.2.2⟩
  have hum : Tryz.prog.underlying 82 = some (.map 75 24) := by kernel_rfl
  have hrl := hown.lt
  go_enter Tryz.func207, Tryz.ntmps207
  go_wp2_with (first
    | (at_len; refine wpList_len_own _ rfl _ 82 rfl 75 24 hum qNJ r n D rfl hown ?_)
    | (at_make; refine wpList_make_own _ rfl _ _ 220 rfl W.heap.size 75 i0 (.int .u32 0) 1 info220 hi hz0 hz1 _ _ _ (Maps.size D) rfl rfl rfl (by rw [hz2]; omega) (by unfold maxLen; omega) (Nat.le_refl _) ?_; intro w1 hrow1 hg1; have hcA := fun o => cell_grown_alloc hg1 hb hc o)
    | (at_range; refine wpList_range_own _ rfl _ 82 rfl 75 24 law75 hum qNJ r n D rfl ((hown.kept hg1 (by simp)).alloc _) ?_; intro w0 hrg0 hg0 hs0)
    | go_in)
  go_frame
  obtain ⟨OB, hOB⟩ : ∃ x, x = w1.heap.size := ⟨_, rfl⟩
  obtain ⟨IT, hIT⟩ : ∃ x, x = (w1.alloc (.cells #[.slice (some ⟨W.heap.size, 0, none⟩) 0 (Maps.size D)] 220)).heap.size := ⟨_, rfl⟩
  rw [← hIT] at hrg0 ⊢
  rw [← hOB]
  have hITOB : IT ≠ OB := by rw [hIT, hOB]; simp
  have hOBN : W.heap.size ≤ OB := by rw [hOB]; exact hg1.size
  have hOB0 : w0.heap[OB]? = some (.cells #[.slice (some ⟨W.heap.size, 0, none⟩) 0 (Maps.size D)] 220 (0, 0)) := by
    rw [hg0.block OB (by rw [hOB]; simp) (by simp), hOB]
    exact (MapKept.heap_alloc w1 _).1
  have hrow0 : w0.ownsRow W.heap.size 75 1 (.slice (some ⟨W.heap.size, 0, none⟩) 0 (Maps.size D)) 0 [] := (hrow1.alloc _).kept hg0 (Or.inr (by simp [Value.ownBlock]))
  have hbel0 : Below W.heap.size W w0 := ((((Below.refl _ _).grown hg1 (Nat.le_refl _) (fun j hj => by cases hj)).alloc hg1.size _).grown hg0 (by have := hg1.size; simp; omega) (fun j hj => by cases hj))
  have hSOB : OB ≠ W.heap.size := fun e => by
    have h1 := (hrow1.lt W.heap.size rfl).2
    omega
  have hITN : W.heap.size ≤ IT := by rw [hIT]; have := hg1.size; simp; omega
  clear hOB hIT hs0
  go_loopw [] (fun wr => ∃ left cnt zs vS, wr.ranges Tryz.prog 75 qNJ r IT n D left cnt ∧ wr.heap[OB]? = some (.cells #[vS] 220 (0, 0)) ∧ wr.ownsRow W.heap.size 75 1 vS zs.length (zs.map (Value.int .u32)) ∧ vS.ownBlock ≠ some OB ∧ vS ≠ .slice none 0 0 ∧
      Coll D left zs ∧ zs.length + cnt ≤ Maps.size D ∧ Below W.heap.size W wr)
    (fun wr => wr.rangeLeft r IT)
  case atStart =>
    refine ⟨_, _, [], .slice (some ⟨W.heap.size, 0, none⟩) 0 (Maps.size D), hrg0, ?_, ?_, ?_, by simp, Coll.start D, by simp, ?_⟩
    · exact hOB0
    · exact hrow0
    · simp only [Value.ownBlock]; exact fun e => hSOB (Option.some.inj e).symm
    · exact hbel0
  case round =>
    obtain ⟨left, cnt, zs, vS, hrg, hOBh, hrow, hvOB, hnn, hC, hcs, hnx⟩ := hrel
    have hOBc : wr.cell? ⟨OB, 0, none⟩ = some vS := cellB hOBh
    have hOBl : OB < wr.heap.size := (Array.getElem?_eq_some_iff.1 hOBh).1
    go_wp2_with (first
      | (at_next; refine wpList_next_ranges _ rfl _ rfl 75 law75 qNJ (Value.int .u32) (fun c : Value => c) (fun key kl hk => by obtain ⟨x, hx, _⟩ := Maps.keyOf_int_inv Tryz.underlying75 hk; exact ⟨x, hx⟩) (fun v y hv => ⟨v, rfl⟩) r IT n _ _ _ rfl hrg ?_ ?_)
      | go_in)
    · intro hc0 hl0
      obtain ⟨g, cap, rfl⟩ := rowShape hrow hnn
      have hperm : ks.Perm zs := (List.perm_ext_iff_of_nodup (hks.imp (fun {a b} h => by omega)) hC.1).2 (fun a => by rw [hD a, hC.2.1 a, hl0]; simp)
      have hgOB : OB ≠ g := by simpa [Value.ownBlock] using hvOB.symm
      have hgl : g < wr.heap.size := (hrow.lt g rfl).2
      have hH := holdsU hrow
      have hfew : zs.length < 4611686018427387904 := by omega
      have hsort := sorted_facts (sort_u32 g cap OB zs ks wr hfew hH hgl hOBc hOBl hgOB hperm hks) hH hgl hOBc hOBl hgOB hperm.length_eq
      have hgN : W.heap.size ≤ g := (hrow.lt g rfl).1
      have hbl := hb
      have hlen := hperm.length_eq
      have hbc : ∀ ws, Below W.heap.size W ws → ws.cell? ⟨b, off, none⟩ = some (.map (some r)) := fun ws h => (h.cell (by exact hb)).trans hc
      go_wp2_with (first | (go_at_call 210; refine hsort.mono ?_; rintro e ws ⟨rfl, hSo, hSc, hSg⟩; have hbs := hnx.grown hSg hnx.size (fun j hj => by cases hj; exact hgN)) | go_in)
      rw [← hlen]
      have hkfew : ks.length < 4611686018427387904 := by omega
      clear hlen
      go_loopw [39] (fun i wl => ∃ k : Nat, k ≤ ks.length ∧ i = .int .i64 k ∧ R ws k wl)
        (fun i _ => ks.length - (intOf i).toNat)
      case atStart => exact ⟨0, Nat.zero_le _, rfl, hR0 ws hbs⟩
      case round =>
        obtain ⟨k, hk, rfl, hRk⟩ := hrel
        have hfl := hRf ws k wr hRk
        have hgs : g < ws.heap.size := Nat.lt_of_lt_of_le hgl hSg.size
        have hkc : k < ks.length → wr.cell? ⟨g, k, none⟩ = some (.int .u32 (ks.getD k 0)) := fun h => (cell_of_block (hfl.block g hgs (fun hm => by have := hM g hm; omega))).trans (hSc k h)
        have hbcl : wr.cell? ⟨b, off, none⟩ = some (.map (some r)) := (cell_of_block (hfl.block b (Nat.lt_of_lt_of_le hb hbs.size) hMb)).trans (hbc ws hbs)
        by_cases hlt : k < ks.length
        · obtain ⟨vk, hlook, hcall⟩ := hRs ws k wr hbs hlt hRk
          have hkc1 := hkc hlt
          clear hkc hSc
          generalize ks.getD k 0 = xk at hkc1 hlook hcall
          go_wp2_with (first | (go_at_call 208; refine hcall.mono ?_; rintro e w4 ⟨rfl, hR4⟩) | go_in)
          go_roundw
          case rel => exact ⟨k + 1, by omega, by go_num, hR4⟩
          case measure => simp [intOf]; omega
        · have hkl : k = ks.length := by omega
          subst hkl
          clear hkc hSc
          go_wp2
          go_end0
          exact ⟨rfl, ws, hbs, hRk⟩
    · intro x c kl yd yp w2 cnt2 hkey hlk hv hat hrg2 hlt hg2 hs2 hen
      have hOB2 : w2.heap[OB]? = some (.cells #[vS] 220 (0, 0)) := (hg2.block OB hOBl (by simpa using hITOB.symm)).trans hOBh
      have hOBc2 : w2.cell? ⟨OB, 0, none⟩ = some vS := cellB hOB2
      have hrow2 := hrow.kept hg2 (Or.inr (row_ne_iter hrow hrg).symm)
      clear hs2
      go_wp2_with (first
        | (at_builtin; refine wpList_append_own _ rfl _ _ 220 rfl W.heap.size 75 i0 (.int .u32 0) 1 4 info220 hi hz0 hz1 hz2 rfl (by decide) _ _ _ rfl (hrow2.alloc _) ⟨w2.heap.size, 0, none⟩ 1 1 [.int .u32 x] rfl rfl (cell_one_new _ _ _) (by simp [Value.oneCell']) (by unfold maxLen at *; omega) (by omega) (by have := hnx.size; have := hg2.size; simp; omega) ?_; intro v' w3 hown' hg3 hnil3; obtain ⟨g3, cap3, rfl⟩ := rowShape hown' (fun h => by have := (hnil3.1 h).2; omega); have hOB3 := blockOB hg3 hOB2 hvOB; have hOBc3 := cellB hOB3; have hOBf3 := frozB hOB3)
        | go_in)
      have hrg3 := (hrg2.alloc (.cells #[Value.int .u32 x] 75)).kept hg3 (row_ne_low hrow2 hrl) (row_ne_iter hrow2 hrg2)
      have hg4 := grown_setCell (w := w3) (v := .slice (some ⟨g3, 0, none⟩) (zs.length + 1) cap3) hOB3
      have hrg4 := hrg3.kept hg4 (by simp; omega) (by simpa using hITOB)
      have hg3OB : g3 ≠ OB := by
        obtain ⟨cur, hcur⟩ := rowBlock hown'
        intro e
        rw [e, hOB3] at hcur
        cases hcur
      go_roundw
      case rel =>
        refine ⟨_, cnt2, zs ++ [x], .slice (some ⟨g3, 0, none⟩) (zs.length + 1) cap3, hrg4, setCell_block hOB3, ?_, by simpa [Value.ownBlock] using hg3OB, by simp, hC.step hkey hlk, by simp; omega, ?_⟩
        · have := hown'.kept hg4 (Or.inr (by simpa [Value.ownBlock] using hg3OB))
          simpa using this
        · exact (((hnx.grown hg2 hnx.size (fun j hj => by cases hj; exact hITN)).alloc (by have := hnx.size; have := hg2.size; omega) _).grown hg3 (by have := hnx.size; have := hg2.size; simp; omega) (fun j hj => (hrow2.lt j hj).1)).grown hg4 (by have := hnx.size; have := hg2.size; have := hg3.size; simp at this; omega) (fun j hj => by cases hj; exact hOBN)
      case measure => rw [hrg4.left_eq, hrg.left_eq]; exact hlt
set_option maxHeartbeats 2000000 in
set_option maxRecDepth 100000 in
theorem appendEach_calls (w : World) (b off : Nat) (sp : Option Addr) (sn sc : Nat) (Q : World → Value → Prop)
   (hcall : Calls Tryz.prog 207 #[.pointer (some ⟨b, off, none⟩), .func (.func 208) #[] #[.pointer (some ⟨w.heap.size, 0, none⟩)]] (w.alloc (.cells #[.slice sp sn sc] 24)) fun e w' => e = .returned (.tuple #[]) ∧ ∃ v, w'.cell? ⟨w.heap.size, 0, none⟩ = some v ∧ Q w' v) :
   Calls Tryz.prog 204 #[.pointer (some ⟨b, off, none⟩), .slice sp sn sc] w fun e w' => ∃ v, e = .returned v ∧ Q w' v := by
  go_enter Tryz.func204, Tryz.ntmps204
  go_wp2_with (first | (go_at_call 207; refine hcall.mono ?_; rintro e w4 ⟨rfl, v, hv, hq⟩) | go_in)
  go_ret
  exact ⟨v, rfl, hq⟩
set_option maxHeartbeats 2000000 in
set_option maxRecDepth 100000 in
theorem each_none (w : World) (b off B : Nat) (m : Option Nat) (hc : w.cell? ⟨b, off, none⟩ = some (.map m)) (hlen : (Builtin.len_ #[82] 3 #[.map m]).run Tryz.prog w = .ok (goInt 0) w) :
    Calls Tryz.prog 207 #[.pointer (some ⟨b, off, none⟩), .func (.func 208) #[] #[.pointer (some ⟨B, 0, none⟩)]] w fun e w2 => e = .returned (.tuple #[]) ∧ w2 = w := by
  go_enter Tryz.func207, Tryz.ntmps207
  go_wp2
  refine bodyPost_ret (results_none rfl _ _ _) rfl ?_
  exact ⟨rfl, rfl⟩
def tabU : List (Nat × Ctr) := [(202, ⟨[.own 24, .val 75], .own 24, 10, true⟩), (206, ⟨[.val 75], .val 3, 31, true⟩)]
theorem u202 : ctrOk? Tryz.prog tabU 202 ⟨[.own 24, .val 75], .own 24, 10, true⟩ = true := by kernel_rfl
theorem u206 : ctrOk? Tryz.prog tabU 206 ⟨[.val 75], .val 3, 31, true⟩ = true := by kernel_rfl
theorem nmU : xJA Tryz.prog := names_ok (by kernel_rfl)
theorem ordU : Tryz.prog.follows .mixedOrders = true := by kernel_rfl
theorem allU : ∀ p ∈ tabU, ctrOk? Tryz.prog tabU p.1 p.2 = true := by
  intro p hp
  simp only [tabU, List.mem_cons, List.not_mem_nil, or_false] at hp
  rcases hp with rfl | rfl
  · exact u202
  · exact u206
noncomputable def CU : Cfg := ⟨Tryz.prog, fun g => lk g tabU, fun _ _ _ => none⟩
theorem ctrU : ∀ f c, CU.ctr f = some c → qRA Tryz.prog X side f c :=
  all_ok (hand := fun _ => false) nmU ordU (fun f c h hf => by cases hf) (fun f c h hf => allU (f, c) (qXA h)) (fun k hk => by cases hk)
theorem boxU : boxRun CU 24 208 de84 os84 = true := by kernel_rfl
theorem own_slice {P : Program} {ok : Nat → Prop} {w : World} {t : TypeId} {v : Value} {d : D} (h : yQA P ok w t v d) : ∃ sp sn sc, v = .slice sp sn sc := by
  obtain ⟨e, i, n, xs, _, _, h3, _⟩ := h
  rcases h3.2 with ⟨rfl, _⟩ | ⟨g, cap, cur, rfl, _⟩
  · exact ⟨_, _, _, rfl⟩
  · exact ⟨_, _, _, rfl⟩
theorem own_lt {P : Program} {ok : Nat → Prop} {w : World} {t : TypeId} {v : Value} {d : D} (h : yQA P ok w t v d) (b : Nat) (hb : v.ownBlock = some b) : b < w.heap.size := by
  obtain ⟨e, i, n, xs, _, _, h3, _⟩ := h
  exact (h3.lt b hb).2
theorem cell_lt {w : World} {b off : Nat} {v : Value} (h : w.cell? ⟨b, off, none⟩ = some v) : b < w.heap.size := by
  cases hh : w.heap[b]? with
  | none => simp [World.cell?, hh] at h
  | some o => exact (Array.getElem?_eq_some_iff.1 hh).1
theorem own_at {P : Program} {ok ok' : Nat → Prop} {w w' : World} {t e : TypeId} {v : Value} {d : D} (h : yQA P ok w t v d) (hu : P.underlying t = some (.slice e)) (h8 : isU8 P e = true) (hb : ∀ b, v.ownBlock = some b → w'.heap[b]? = w.heap[b]?) : yQA P ok' w' t v d :=
  (h.u8 (ok' := fun _ => False) hu h8).mono (fun _ h => h.elim) (fun _ h => h.elim) hb
set_option maxHeartbeats 1000000 in
theorem hand204 : qRA Tryz.prog X side 204 ⟨[.mcell 198 82, .own 24], .own 24, 25, true⟩ := by
  refine ⟨yTE (by kernel_rfl), fun ok w vs ds hA hok hRd hp => ?_⟩
  have hum : Tryz.prog.underlying 82 = some (.map 75 24) := by kernel_rfl
  have hby : isBy Tryz.prog 24 = true := by kernel_rfl
  obtain ⟨e24, hu24, h8⟩ := zII hby
  have h8 : isU8 Tryz.prog e24 = true := by simp [isU8, h8]
  obtain @⟨⟩ | @⟨_, v1, d1, _, _, _, h1, hA⟩ := hA
  obtain @⟨⟩ | @⟨_, v2, d2, _, _, _, h2, hA⟩ := hA
  cases hA
  cases h2 with
  | own h2 =>
  cases h1 with
  | mcell hc h =>
  rename_i b off mv
  have hWr : ∀ x, Wr w [AK.mcell 198 82, .own 24] [.pointer (some ⟨b, off, none⟩), v2] x ↔ v2.ownBlock = some x := fun x => by
    simp [Wr, wrA]
  have hb2 : ∀ x, v2.ownBlock = some x → x < w.heap.size := fun x hx => own_lt h2 x hx
  have hbl : b < w.heap.size := cell_lt hc
  have hbne : v2.ownBlock ≠ some b := fun e => hRd b (.inl (.inl rfl)) ((hWr b).2 e)
  obtain ⟨sp, sn, sc, rfl⟩ := own_slice h2
  have hX := X_25' d1 d2
  replace hp : (X 25 [d1, d2]).len ≤ lim ∧ ∀ x ∈ mapL d1, x.2.len < 4294967296 := hp rfl
  have hWc : (w.alloc (.cells #[.slice sp sn sc] 24)).cell? ⟨b, off, none⟩ = some mv := (cell_of_block ((MapKept.heap_alloc w _).2 b hbl)).trans hc
  have hBh : (w.alloc (.cells #[.slice sp sn sc] 24)).heap[w.heap.size]? = some (.cells #[.slice sp sn sc] 24 (0, 0)) := (MapKept.heap_alloc w _).1
  have hold : ∀ x, x < w.heap.size → (w.alloc (.cells #[.slice sp sn sc] 24)).heap[x]? = w.heap[x]? := fun x hx => (MapKept.heap_alloc w _).2 x hx
  have hsz : (w.alloc (.cells #[.slice sp sn sc] 24)).heap.size = w.heap.size + 1 := by simp
  -- nothing to write
  have hnone : ∀ m, mv = .map m → mapL d1 = [] → (Builtin.len_ #[82] 3 #[.map m]).run Tryz.prog (w.alloc (.cells #[.slice sp sn sc] 24)) = .ok (goInt 0) (w.alloc (.cells #[.slice sp sn sc] 24)) →
      Calls Tryz.prog 204 #[.pointer (some ⟨b, off, none⟩), .slice sp sn sc] w fun e w' => ∃ v, e = .returned v ∧ Fr (Wr w [AK.mcell 198 82, .own 24] [.pointer (some ⟨b, off, none⟩), .slice sp sn sc]) w w' ∧ qSB Tryz.prog ok w w' ⟨[.mcell 198 82, .own 24], .own 24, 25, true⟩ [.pointer (some ⟨b, off, none⟩), .slice sp sn sc] v (X 25 [d1, d2]) := by
    intro m hm hnil hlen
    subst hm
    refine appendEach_calls w b off sp sn sc (fun w' v => _ ∧ _) ((each_none _ b off w.heap.size m hWc hlen).mono fun e w' he => ?_)
    obtain ⟨rfl, rfl⟩ := he
    refine ⟨rfl, _, cellB hBh, ⟨rfl, rfl, rfl, by rw [hsz]; omega, fun k hk _ => hold k hk⟩, fun x hx => ⟨.inr ((hWr x).2 hx), by have := hb2 x hx; rw [hsz]; omega⟩, fun ok' _ _ => ?_⟩
    rw [hX, hnil]
    exact own_at h2 hu24 h8 (fun x hx => hold x (hb2 x hx))
  cases h with
  | nil hu => exact hnone none rfl rfl (len_nil _)
  | map hu hk hh' hkeys hkw hs hborn hclock hr =>
    rename_i kk ee r clock es dd
    have hl : es.size = dd.length := by
      have := hkeys.length_eq
      simpa using this
    have hrl : r < w.heap.size := (Array.getElem?_eq_some_iff.1 hh').1
    have hrne : Value.ownBlock (.slice sp sn sc) ≠ some r := fun e => hRd r (.inl (.inr hc)) ((hWr r).2 e)
    by_cases hdd : dd = []
    · subst hdd
      refine hnone (some r) rfl rfl ?_
      have := len_some (w.alloc (.cells #[.slice sp sn sc] 24)) r clock es hum ((hold r hrl).trans hh')
      rw [hl] at this
      exact this
    have ht : TagsAt Tryz.prog ok w 82 (.map (some r)) (.map dd) := .map hu hk hh' hkeys hkw hs hborn hclock hr
    have hokw : ∀ x, ok x → x < w.heap.size ∧ Value.ownBlock (.slice sp sn sc) ≠ some x := fun x hx => ⟨(hok x hx).1, fun e => (hok x hx).2 ((hWr x).2 e)⟩
    have htW : TagsAt Tryz.prog ok (w.alloc (.cells #[.slice sp sn sc] 24)) 82 (.map (some r)) (.map dd) := ht.mono (fun _ h => h) (fun x hx => hold x (hokw x hx).1) (fun x hx => by cases hx; exact hold r hrl)
    obtain ⟨_, _, hfew⟩ := qWJ ht
    obtain ⟨DD, hown, hDs, hDk⟩ := tags_owns htW hum
    have hpos : 0 < dd.length := by cases dd with | nil => exact absurd rfl hdd | cons a l => simp
    refine appendEach_calls w b off sp sn sc (fun w' v => _ ∧ _) ((each_calls (w.alloc (.cells #[.slice sp sn sc] 24)) b off r dd.length w.heap.size DD (dd.map (·.1)) hDk hs (fun x => x = w.heap.size ∨ Value.ownBlock (.slice sp sn sc) = some x)
      (fun x hx => by rcases hx with rfl | hx; · rw [hsz]; omega
                      · have := hb2 x hx; rw [hsz]; omega)
      (fun hx => by rcases hx with h | h; · omega
                    · exact hbne h)
      (fun ws k wl => Fr (fun x => x = w.heap.size ∨ Value.ownBlock (.slice sp sn sc) = some x) ws wl ∧ ∃ v ty, wl.heap[w.heap.size]? = some (.cells #[v] ty (0, 0)) ∧ v.ownBlock ≠ some w.heap.size ∧ (∀ x, v.ownBlock = some x → x < wl.heap.size ∧ (ws.heap.size ≤ x ∨ Value.ownBlock (.slice sp sn sc) = some x)) ∧ yQA Tryz.prog (fun _ => False) wl 24 v (appD d2 ((dd.take k).map tb).flatten))
      ?_ ?_ ?_ hWc hown (by rw [hDs]; exact hpos) (by rw [hDs]; exact hfew) (by rw [hsz]; omega) (by rw [hsz]; omega)).mono ?_)
    · intro ws hws
      refine ⟨Fr.refl _ _, .slice sp sn sc, 24, ?_, fun e => by have := hb2 _ e; omega, fun x hx => ⟨?_, .inr hx⟩, ?_⟩
      · rw [hws.block _ (by rw [hsz]; omega), hBh]
      · have := hb2 x hx; have := hws.size; omega
      · refine own_at h2 hu24 h8 (fun x hx => ?_)
        have := hb2 x hx
        rw [hws.block x (by rw [hsz]; omega), hold x this]
    · exact fun ws k wl h => h.1
    · rintro ws k wl hws hk' ⟨hfr, v, ty, hBc, hvB, hvb, hov⟩
      rw [List.length_map] at hk'
      have hkd : (dd.map (·.1)).getD k 0 = (dd[k]).1 := by simp [List.getD_eq_getElem?_getD, hk']
      rw [hkd]
      have hmem : ((dd[k]).1, (dd[k]).2) ∈ dd := List.getElem_mem hk'
      obtain ⟨vk, hrep, hlook⟩ := tags_lookup ht hum hmem
      have hwl : ∀ x, x < w.heap.size → Value.ownBlock (.slice sp sn sc) ≠ some x → wl.heap[x]? = w.heap[x]? := fun x hx hn => by
        rw [hfr.block x (by have := hws.size; rw [hsz] at this; omega) (fun hm => hm.elim (fun h => by omega) hn), hws.block x (by rw [hsz]; omega), hold x hx]
      refine ⟨vk, hlook wl (hwl r hrl hrne), ?_⟩
      obtain ⟨val, hval⟩ : KOk .byts (dd[k]).2 := xYG hby hrep
      have hnk := hkw _ hmem
      have h0 : 0 ≤ (dd[k]).1 := by simp [Lit.wf, IntKind.min, IntKind.max, IntKind.signed, IntKind.bits] at hnk; omega
      have hdl : (val.getD []).length < 4294967296 := by have := hp.2 _ hmem; rw [hval, yRA] at this; exact this
      have htk : ((dd.take (k + 1)).map tb).flatten = ((dd.take k).map tb).flatten ++ tb dd[k] := by
        rw [List.take_succ_eq_append_getElem hk', List.map_append, List.flatten_append]; simp
      have hlim : (appD d2 ((dd.take k).map tb).flatten).asStr.length + (tagB (dd[k]).1.toNat (val.getD [])).length ≤ lim := by
        have htb : tb dd[k] = tagB (dd[k]).1.toNat (val.getD []) := by rw [tb, hval, xDA]
        have hsplit : ((mapL (.map dd)).map tb).flatten = ((dd.take (k + 1)).map tb).flatten ++ ((dd.drop (k + 1)).map tb).flatten := by
          rw [← List.flatten_append, ← List.map_append, List.take_append_drop]; rfl
        have h1 := hp.1
        have hps : 0 < ((mapL (.map dd)).map tb).flatten.length := by
          rw [hsplit, htk, htb, tagB]
          simp only [List.length_append]
          have := @qLC (dd[k]).1.toNat
          omega
        rw [hX, yIG _ hps, hsplit, htk, htb] at h1
        rw [yJG]
        simp only [List.length_append] at h1 ⊢
        omega
      have hev := ev84 (key := (dd[k]).1) (val := val) (acc := appD d2 ((dd.take k).map tb).flatten) h0 hdl hlim
      rw [← hval] at hev
      refine (box_calls (C := CU) (ok := ok) nmU ordU ctrU boxU hby hBc (own_at hov hu24 h8 (fun _ _ => rfl)) (hrep.mono (fun _ h => h) (fun x hx => hwl x (hokw x hx).1 (hokw x hx).2)) hnk (fun x hx => ?_) hvB hev.1).mono ?_
      · obtain ⟨q1, q2⟩ := hokw x hx
        have h3 := hws.size; have h4 := hfr.size; rw [hsz] at h3
        refine ⟨by omega, by omega, fun e => ?_⟩
        rcases (hvb x e).2 with h | h
        · omega
        · exact q2 h
      · rintro e w' ⟨rfl, hf2, v', ty', hB', hvB', hvb', ho'⟩
        refine ⟨rfl, ⟨hf2.os.trans hfr.os, hf2.tape.trans hfr.tape, hf2.output.trans hfr.output, Nat.le_trans hfr.size hf2.size, fun x hx hm => ?_⟩, v', ty', hB', hvB', fun x hx => ?_, ?_⟩
        · rw [hf2.block x (Nat.lt_of_lt_of_le hx hfr.size) (fun hm2 => by
            rcases hm2 with h | h
            · exact hm (.inl h)
            · rcases (hvb x h).2 with h | h
              · omega
              · exact hm (.inr h)), hfr.block x hx hm]
        · obtain ⟨q1, q2⟩ := hvb' x hx
          refine ⟨q1, ?_⟩
          rcases q2 with h | h
          · exact .inl (Nat.le_trans hfr.size h)
          · exact (hvb x h).2
        · have := ho' (fun _ => False)
          rw [hev.2, ySC, ← htk] at this
          exact this
    · rintro e w' ⟨rfl, ws, hws, hfr, v, ty, hBc, hvB, hvb, hov⟩
      refine ⟨rfl, v, cellB hBc, ⟨hfr.os.trans hws.os, hfr.tape.trans hws.tape, hfr.output.trans hws.output, ?_, fun x hx hm => ?_⟩, fun x hx => ?_, fun ok' _ _ => ?_⟩
      · have h3 := hws.size; have h4 := hfr.size; rw [hsz] at h3; omega
      · have h3 := hws.size; rw [hsz] at h3
        rw [hfr.block x (by omega) (fun h => by
          rcases h with h | h
          · omega
          · exact hm ((hWr x).2 h)), hws.block x (by rw [hsz]; omega), hold x hx]
      · obtain ⟨q1, q2⟩ := hvb x hx
        refine ⟨?_, q1⟩
        rcases q2 with h | h
        · have h3 := hws.size; rw [hsz] at h3; exact .inl (by omega)
        · exact .inr ((hWr x).2 h)
      · rw [hX]
        rw [List.length_map, List.take_length] at hov
        exact own_at hov hu24 h8 (fun _ _ => rfl)
end Go.Proofs
