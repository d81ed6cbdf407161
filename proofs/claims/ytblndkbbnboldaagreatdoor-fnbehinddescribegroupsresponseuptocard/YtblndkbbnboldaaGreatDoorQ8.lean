/- Part of a verified symbolic run of the program's code (no condition of its own). -/
import Derived.Test.YtblndkbbnboldaaGreatDoorQ7
import Derived.Test.YtblndkbbnboldaaGreatDoorProg
import Derived.KernelRfl
import Derived.WalkKit
import Derived.Shelf.GgSortFunc.Whole
import Derived.Shelf.GgSortFunc.Tiny
import Derived.Deep.QuietTactic
import Derived.Ground.GgsProg
import Derived.Lib.SortBridge
import Derived.Sort.LotA
import Derived.Maps.RangeWalk
import Derived.Maps.OwnSet
import Derived.Maps.AppendAt
import Derived.Sort.OwnSorted
set_option linter.unusedVariables false
set_option linter.unusedSimpArgs false
open Go Go.Dx Go.Mx Go.RowKit
namespace Go.Proofs
theorem wpList_mapUpdate_run {P : Program} (w w' : World) {ops : Array Oper} {rest : List Oper} {o : Oper} {a : Act} {Q : Exit → Act → World → Prop}
    (hg : o.guard = none) (m x v : Operand) (t : TypeId) (hop : o.op = Op.mapUpdate t m x v) (hrun : (Instr.mapUpdate t (a.eval m) (a.eval x) (a.eval v)).run P w = .ok () w')
    (hK : wpList P ops Q rest (a.put o.dst undef) w') : wpList P ops Q (o :: rest) a w := by
  refine wpList_plain hg fun K' hK' => ?_
  unfold Oper.wp
  simp [execOp, hop, hrun, Result.andThen]
  exact hK' _ _ hK
theorem eqSome (r : Nat) (w : World) : (binOp BinOp.eql 60 (.map (some r)) (.map none)).run Tryz.prog w = .ok (.bool false) w := by kernel_rfl
theorem eqNone (w : World) : (binOp BinOp.eql 60 (.map none) (.map none)).run Tryz.prog w = .ok (.bool true) w := by kernel_rfl
set_option maxHeartbeats 1000000 in
set_option maxRecDepth 100000 in
theorem set_some (w w' : World) (b off r : Nat) (n : Int) (v : Value) (hc : w.cell? ⟨b, off, none⟩ = some (.map (some r))) (hrun : (Instr.mapUpdate 60 (.map (some r)) (.int .u32 n) v).run Tryz.prog w = .ok () w') :
    Calls Tryz.prog 92 #[.pointer (some ⟨b, off, none⟩), .int .u32 n, v] w fun e w2 => e = .returned (.tuple #[]) ∧ w2 = w' := by
  have h1 := eqSome r
  go_enter Tryz.func92, Tryz.ntmps92
  go_wp2_with (first | (at_mapUpdate; refine wpList_mapUpdate_run _ w' rfl _ _ _ 60 rfl hrun ?_) | go_in)
  go_end0
  exact ⟨rfl, rfl⟩
set_option maxHeartbeats 1000000 in
set_option maxRecDepth 100000 in
theorem set_nil (w w' : World) (b off : Nat) (n : Int) (v : Value) (hc : w.cell? ⟨b, off, none⟩ = some (.map none)) (hf : w.frozen? ⟨b, off, none⟩ = false) (hb : b < w.heap.size)
    (hrun : (Instr.mapUpdate 60 (.map (some w.heap.size)) (.int .u32 n) v).run Tryz.prog ((w.setCell ⟨b, off, none⟩ (.map (some w.heap.size))).alloc (.map #[] 0)) = .ok () w') :
    Calls Tryz.prog 92 #[.pointer (some ⟨b, off, none⟩), .int .u32 n, v] w fun e w2 => e = .returned (.tuple #[]) ∧ w2 = w' := by
  have hmm := @run_makeMap Tryz.prog
  have h1 := eqNone
  go_enter Tryz.func92, Tryz.ntmps92
  go_wp2_with (first | (at_mapUpdate; refine wpList_mapUpdate_run _ w' rfl _ _ _ 60 rfl hrun ?_) | go_in)
  go_end0
  exact ⟨rfl, rfl⟩
theorem cellAt {w : World} {b off ty : Nat} {cs : Array Value} {v : Value} (hh : w.heap[b]? = some (.cells cs ty (0, 0))) (hc : cs[off]? = some v) : w.cell? ⟨b, off, none⟩ = some v := by
  simp [World.cell?, hh, hc]
theorem frozAt {w : World} {b off ty : Nat} {cs : Array Value} (hh : w.heap[b]? = some (.cells cs ty (0, 0))) : w.frozen? ⟨b, off, none⟩ = false := by
  simp [World.frozen?, hh]
theorem arr_same {cs : Array Value} {i : Nat} {v : Value} (h : cs[i]? = some v) : cs.setIfInBounds i v = cs := by
  apply Array.ext'
  rw [Array.toList_setIfInBounds]
  exact yNJ (by rw [Array.getElem?_toList]; exact h)
theorem hand92 : zMB Tryz.prog X side 92 ⟨[.wcell 112 60, .val 55, .val 22], .cell 60, 23, true⟩ := by
  refine ⟨zOG (by kernel_rfl), fun ok w vs ds hA hok hRd hp => ?_⟩
  have hum : Tryz.prog.underlying 60 = some (.map 55 22) := by kernel_rfl
  obtain @⟨⟩ | @⟨_, v1, d1, _, _, _, h1, hA⟩ := hA
  obtain @⟨⟩ | @⟨_, v2, d2, _, _, _, h2, hA⟩ := hA
  obtain @⟨⟩ | @⟨_, v3, d3, _, _, _, h3, hA⟩ := hA
  cases hA
  obtain ⟨n, rfl, hn⟩ : KOk (.int .u32) d2 := by
    cases h2 with | val h => exact xAB (by kernel_rfl) h
  cases h3 with
  | val h3 =>
  cases h2 with
  | val h2 =>
  cases h2 with
  | int hu2 hw2 =>
  have hu2' : Tryz.prog.underlying 55 = some (.int .u32) := by kernel_rfl
  rw [hu2'] at hu2; cases hu2
  cases h1 with
  | wcell hh hc h hne hone =>
  rename_i b off mv ty cs
  have hcell := cellAt hh hc
  have hbl : b < w.heap.size := (Array.getElem?_eq_some_iff.1 hh).1
  have hol : off < cs.size := (Array.getElem?_eq_some_iff.1 hc).1
  have hWb : Wr w [AK.wcell 112 60, .val 55, .val 22] [.pointer (some ⟨b, off, none⟩), .int .u32 n, v3] b := .inl (.inl rfl)
  have hokb : ∀ k, ok k → k ≠ b := fun k hk e => (hok k hk).2 (e ▸ hWb)
  have hX : X 23 [d1, .int n, d3] = .map (insM n d3 (mapL d1)) := X_23 _ _ _
  cases h with
  | nil hu =>
    let w2 : World := (w.setCell ⟨b, off, none⟩ (.map (some w.heap.size))).alloc (.map #[] 0)
    have hw2b : w2.heap[b]? = some (.cells (cs.setIfInBounds off (.map (some w.heap.size))) ty (0, 0)) := by
      show ((w.setCell ⟨b, off, none⟩ (.map (some w.heap.size))).alloc (.map #[] 0)).heap[b]? = _
      rw [(MapKept.heap_alloc _ _).2 b (by simpa using hbl)]
      simp only [World.setCell, Array.getElem?_modify, if_true, hh, Option.map_some]
      rfl
    have hw2r : w2.heap[w.heap.size]? = some (.map #[] 0) := by
      have := (MapKept.heap_alloc (w.setCell ⟨b, off, none⟩ (.map (some w.heap.size))) (.map #[] 0)).1
      have hs : (w.setCell ⟨b, off, none⟩ (.map (some w.heap.size))).heap.size = w.heap.size := by simp
      rw [hs] at this
      exact this
    have hw2o : ∀ k, k < w.heap.size → k ≠ b → w2.heap[k]? = w.heap[k]? := fun k hk hne' => by
      show ((w.setCell ⟨b, off, none⟩ (.map (some w.heap.size))).alloc (.map #[] 0)).heap[k]? = _
      rw [(MapKept.heap_alloc _ _).2 k (by simpa using hk)]
      exact heap_setCell_other w ⟨b, off, none⟩ k _ (by simpa using hne')
    have hsz2 : w2.heap.size = w.heap.size + 1 := by simp [w2]
    have ht : TagsAt Tryz.prog ok w2 60 (.map (some w.heap.size)) (.map []) := .map (es := #[]) (clock := 0) hum hu2' hw2r (by simp) (by simp) (by simp) (by simp) (by simp) (by simp)
    obtain ⟨es', clock', hrun, hfin⟩ := tags_update ht hum hw2 (h3.mono (fun _ h => h) (fun k hk => hw2o k (hok k hk).1 (hokb k hk)))
    have hblk : ∀ k, k ≠ w.heap.size → (ChangeMaps.setBlock w2 w.heap.size (.map es' clock')).heap[k]? = w2.heap[k]? := fun k hk => by
      simp [ChangeMaps.setBlock, Array.getElem?_setIfInBounds, Ne.symm hk]
    have hblkr : (ChangeMaps.setBlock w2 w.heap.size (.map es' clock')).heap[w.heap.size]? = some (.map es' clock') := by
      simp [ChangeMaps.setBlock, Array.getElem?_setIfInBounds, hsz2]
    refine (set_nil w _ b off n v3 hcell (frozAt hh) hbl hrun).mono fun e w' he => ?_
    obtain ⟨rfl, rfl⟩ := he
    refine ⟨_, rfl, ⟨rfl, rfl, rfl, by simp [ChangeMaps.setBlock, hsz2], fun k hk hm => ?_⟩, ?_⟩
    · rw [hblk k (by omega), hw2o k hk (fun e => hm (e ▸ hWb))]
    · refine ⟨rfl, b, off, ty, cs, .map (some w.heap.size), ⟨112, 0, rfl, rfl⟩, hh, ?_, fun r hr => ?_, fun ok' h1' h2' => ?_⟩
      · rw [hblk b (by omega), hw2b]
      · cases hr
        exact ⟨.inl (Nat.le_refl _), by simp [ChangeMaps.setBlock, hsz2], by omega⟩
      · rw [hX]
        exact hfin ok' _ hblkr (fun k hk => ⟨h1' k hk, hblk k (by have := (hok k hk).1; omega)⟩)
  | map hu hk hh' hkeys hkw hs hborn hclock hr =>
    rename_i kk ee r clock es ds
    have ht : TagsAt Tryz.prog ok w 60 (.map (some r)) (.map ds) := .map hu hk hh' hkeys hkw hs hborn hclock hr
    have hrb : r ≠ b := fun e => hne (by rw [e])
    have hrl : r < w.heap.size := (Array.getElem?_eq_some_iff.1 hh').1
    have hWr : Wr w [AK.wcell 112 60, .val 55, .val 22] [.pointer (some ⟨b, off, none⟩), .int .u32 n, v3] r := .inl (.inr hcell)
    obtain ⟨es', clock', hrun, hfin⟩ := tags_update ht hum hw2 h3
    have hblk : ∀ k, k ≠ r → (ChangeMaps.setBlock w r (.map es' clock')).heap[k]? = w.heap[k]? := fun k hk => by
      simp [ChangeMaps.setBlock, Array.getElem?_setIfInBounds, Ne.symm hk]
    have hblkr : (ChangeMaps.setBlock w r (.map es' clock')).heap[r]? = some (.map es' clock') := by
      simp [ChangeMaps.setBlock, Array.getElem?_setIfInBounds, hrl]
    refine (set_some w _ b off r n v3 hcell hrun).mono fun e w' he => ?_
    obtain ⟨rfl, rfl⟩ := he
    refine ⟨_, rfl, ⟨rfl, rfl, rfl, by simp [ChangeMaps.setBlock], fun k hk hm => hblk k (fun e => hm (e ▸ hWr))⟩, ?_⟩
    refine ⟨rfl, b, off, ty, cs, .map (some r), ⟨112, 0, rfl, rfl⟩, hh, ?_, fun r' hr' => ?_, fun ok' h1' h2' => ?_⟩
    · rw [hblk b (Ne.symm hrb), hh]
      rw [arr_same hc]
    · cases hr'
      exact ⟨.inr hWr, by simp [ChangeMaps.setBlock]; exact hrl, hrb⟩
    · rw [hX]
      exact hfin ok' _ hblkr (fun k hk => ⟨h1' k hk, hblk k (fun e => (hok k hk).2 (e ▸ hWr))⟩)
set_option maxHeartbeats 1000000 in
set_option maxRecDepth 100000 in
theorem len_calls (w : World) (b off n : Nat) (m : Option Nat) (hc : w.cell? ⟨b, off, none⟩ = some (.map m)) (hlen : (Builtin.len_ #[60] 3 #[.map m]).run Tryz.prog w = .ok (goInt n) w) :
    Calls Tryz.prog 45 #[.pointer (some ⟨b, off, none⟩)] w fun e w2 => e = .returned (goInt n) ∧ w2 = w := by
  go_enter Tryz.func45, Tryz.ntmps45
  go_wp2
  go_ret
  exact ⟨rfl, rfl⟩
theorem len_nil (w : World) : (Builtin.len_ #[60] 3 #[.map none]).run Tryz.prog w = .ok (goInt 0) w := by kernel_rfl
theorem len_some (w : World) (r clock : Nat) (es : Array MapEntry) (hum : Tryz.prog.underlying 60 = some (.map 55 22)) (h : w.heap[r]? = some (.map es clock)) : (Builtin.len_ #[60] 3 #[.map (some r)]).run Tryz.prog w = .ok (goInt es.size) w := by
  simp [Builtin.len_, run_underlying hum, Go.MapKept.run_getObj_map h, Result.andThen]
theorem hand45 : zMB Tryz.prog X side 45 ⟨[.mcell 112 60], .val 3, 24, true⟩ := by
  refine ⟨zOG (by kernel_rfl), fun ok w vs ds hA hok hRd hp => ?_⟩
  have hum : Tryz.prog.underlying 60 = some (.map 55 22) := by kernel_rfl
  have hu3 : Tryz.prog.underlying 3 = some (.int .i64) := by kernel_rfl
  obtain @⟨⟩ | @⟨_, v1, d1, _, _, _, h1, hA⟩ := hA
  cases hA
  cases h1 with
  | mcell hc h =>
  rename_i b off mv
  cases h with
  | nil hu =>
    refine (len_calls w b off 0 none hc (len_nil w)).mono fun e w' he => ?_
    obtain ⟨rfl, rfl⟩ := he
    exact ⟨_, rfl, Fr.refl _ _, fun ok' _ _ => .int hu3 (by decide)⟩
  | map hu hk hh' hkeys hkw hs hborn hclock hr =>
    rename_i kk ee r clock es dd
    have hsz : es.size = dd.length := by
      have := hkeys.length_eq
      simpa using this
    have hfew := tags_few hs hkw
    refine (len_calls w b off es.size (some r) hc (len_some w r clock es hum hh')).mono fun e w' he => ?_
    obtain ⟨rfl, rfl⟩ := he
    refine ⟨_, rfl, Fr.refl _ _, fun ok' _ _ => ?_⟩
    rw [show X 24 [D.map dd] = .int (dd.length : Nat) from X_24 _, hsz]
    exact .int hu3 (by simp [Lit.wf, IntKind.min, IntKind.max, IntKind.signed, IntKind.bits]; omega)
open Go.Shelf
def Tryz.sa6_ren : Go.Shelf.Ren := ⟨fun | 6 => 94 | 10 => 99 | 11 => 100 | 12 => 101 | 13 => 102 | 14 => 103 | 24 => 93 | 25 => 113 | 26 => 114 | 27 => 115 | 28 => 116 | 29 => 117 | 30 => 118 | 31 => 119 | 32 => 120 | 33 => 121 | 34 => 122 | 35 => 123 | 36 => 124 | 37 => 125 | 38 => 126 | 39 => 127 | n => n, fun | 20 => 20 | 26 => 124 | 35 => 134 | 0 => 0 | 37 => 136 | 3 => 3 | 41 => 102 | 44 => 141 | 49 => 55 | 51 => 71 | 4 => 4 | 54 => 148 | 53 => 147 | 58 => 152 | 5 => 5 | 9 => 9 | 60 => 154 | 64 => 158 | 66 => 160 | 67 => 161 | 17 => 17 | 32 => 131 | 33 => 132 | 82 => 176 | 12 => 12 | 75 => 169 | 76 => 170 | 77 => 171 | 78 => 172 | 79 => 173 | 80 => 174 | n => n, fun | n => n⟩
theorem Tryz.sa6 : Go.Proofs.LaysGg.n6 Tryz.prog Tryz.sa6_ren := {
  mixed := by kernel_rfl
  f6 := Tryz.func94.trans (congrArg some (by kernel_rfl))
  f10 := Tryz.func99.trans (congrArg some (by kernel_rfl))
  f11 := Tryz.func100.trans (congrArg some (by kernel_rfl))
  f12 := Tryz.func101.trans (congrArg some (by kernel_rfl))
  f13 := Tryz.func102.trans (congrArg some (by kernel_rfl))
  f14 := Tryz.func103.trans (congrArg some (by kernel_rfl))
  f24 := Tryz.func93.trans (congrArg some (by kernel_rfl))
  f25 := Tryz.func113.trans (congrArg some (by kernel_rfl))
  f26 := Tryz.func114.trans (congrArg some (by kernel_rfl))
  f27 := Tryz.func115.trans (congrArg some (by kernel_rfl))
  f28 := Tryz.func116.trans (congrArg some (by kernel_rfl))
  f29 := Tryz.func117.trans (congrArg some (by kernel_rfl))
  f30 := Tryz.func118.trans (congrArg some (by kernel_rfl))
  f31 := Tryz.func119.trans (congrArg some (by kernel_rfl))
  f32 := Tryz.func120.trans (congrArg some (by kernel_rfl))
  f33 := Tryz.func121.trans (congrArg some (by kernel_rfl))
  f34 := Tryz.func122.trans (congrArg some (by kernel_rfl))
  f35 := Tryz.func123.trans (congrArg some (by kernel_rfl))
  f36 := Tryz.func124.trans (congrArg some (by kernel_rfl))
  f37 := Tryz.func125.trans (congrArg some (by kernel_rfl))
  f38 := Tryz.func126.trans (congrArg some (by kernel_rfl))
  f39 := Tryz.func127.trans (congrArg some (by kernel_rfl))
  t0 := Tryz.underlying0
  a0 := Tryz.isAgg0
  z0 := Tryz.sizeOf0
  v0 := Tryz.zeroValue0
  i0 := by kernel_rfl
  t3 := Tryz.underlying3
  a3 := Tryz.isAgg3
  z3 := Tryz.sizeOf3
  v3 := Tryz.zeroValue3
  i3 := by kernel_rfl
  t4 := Tryz.underlying4
  a4 := Tryz.isAgg4
  z4 := Tryz.sizeOf4
  v4 := Tryz.zeroValue4
  i4 := by kernel_rfl
  t5 := Tryz.underlying5
  a5 := Tryz.isAgg5
  z5 := Tryz.sizeOf5
  v5 := Tryz.zeroValue5
  i5 := by kernel_rfl
  t9 := Tryz.underlying9
  a9 := Tryz.isAgg9
  z9 := Tryz.sizeOf9
  v9 := Tryz.zeroValue9
  i9 := by kernel_rfl
  t12 := Tryz.underlying12
  a12 := Tryz.isAgg12
  z12 := Tryz.sizeOf12
  v12 := Tryz.zeroValue12
  i12 := by kernel_rfl
  t17 := Tryz.underlying17
  a17 := Tryz.isAgg17
  z17 := Tryz.sizeOf17
  v17 := Tryz.zeroValue17
  i17 := by kernel_rfl
  t20 := Tryz.underlying20
  a20 := Tryz.isAgg20
  z20 := Tryz.sizeOf20
  v20 := Tryz.zeroValue20
  i20 := by kernel_rfl
  t26 := Tryz.underlying124
  a26 := Tryz.isAgg124
  z26 := Tryz.sizeOf124
  v26 := Tryz.zeroValue124
  i26 := by kernel_rfl
  t32 := Tryz.underlying131
  a32 := Tryz.isAgg131
  z32 := Tryz.sizeOf131
  v32 := Tryz.zeroValue131
  i32 := by kernel_rfl
  t33 := Tryz.underlying132
  a33 := Tryz.isAgg132
  z33 := Tryz.sizeOf132
  v33 := Tryz.zeroValue132
  i33 := by kernel_rfl
  t35 := Tryz.underlying134
  a35 := Tryz.isAgg134
  z35 := Tryz.sizeOf134
  v35 := Tryz.zeroValue134
  i35 := by kernel_rfl
  t37 := Tryz.underlying136
  a37 := Tryz.isAgg136
  z37 := Tryz.sizeOf136
  v37 := Tryz.zeroValue136
  i37 := by kernel_rfl
  t41 := Tryz.underlying102
  a41 := Tryz.isAgg102
  z41 := Tryz.sizeOf102
  v41 := Tryz.zeroValue102
  i41 := by kernel_rfl
  t44 := Tryz.underlying141
  a44 := Tryz.isAgg141
  z44 := Tryz.sizeOf141
  v44 := Tryz.zeroValue141
  i44 := by kernel_rfl
  t49 := Tryz.underlying55
  a49 := Tryz.isAgg55
  z49 := Tryz.sizeOf55
  v49 := Tryz.zeroValue55
  i49 := by kernel_rfl
  t51 := Tryz.underlying71
  a51 := Tryz.isAgg71
  z51 := Tryz.sizeOf71
  v51 := Tryz.zeroValue71
  i51 := by kernel_rfl
  t53 := Tryz.underlying147
  a53 := Tryz.isAgg147
  z53 := Tryz.sizeOf147
  v53 := Tryz.zeroValue147
  i53 := by kernel_rfl
  t54 := Tryz.underlying148
  a54 := Tryz.isAgg148
  z54 := Tryz.sizeOf148
  v54 := Tryz.zeroValue148
  i54 := by kernel_rfl
  t58 := Tryz.underlying152
  a58 := Tryz.isAgg152
  z58 := Tryz.sizeOf152
  v58 := Tryz.zeroValue152
  i58 := by kernel_rfl
  t60 := Tryz.underlying154
  a60 := Tryz.isAgg154
  z60 := Tryz.sizeOf154
  v60 := Tryz.zeroValue154
  i60 := by kernel_rfl
  t64 := Tryz.underlying158
  a64 := Tryz.isAgg158
  z64 := Tryz.sizeOf158
  v64 := Tryz.zeroValue158
  i64 := by kernel_rfl
  t66 := Tryz.underlying160
  a66 := Tryz.isAgg160
  z66 := Tryz.sizeOf160
  v66 := Tryz.zeroValue160
  i66 := by kernel_rfl
  t67 := Tryz.underlying161
  a67 := Tryz.isAgg161
  z67 := Tryz.sizeOf161
  v67 := Tryz.zeroValue161
  i67 := by kernel_rfl
  t75 := Tryz.underlying169
  a75 := Tryz.isAgg169
  z75 := Tryz.sizeOf169
  v75 := Tryz.zeroValue169
  i75 := by kernel_rfl
  t76 := Tryz.underlying170
  a76 := Tryz.isAgg170
  z76 := Tryz.sizeOf170
  v76 := Tryz.zeroValue170
  i76 := by kernel_rfl
  t77 := Tryz.underlying171
  a77 := Tryz.isAgg171
  z77 := Tryz.sizeOf171
  v77 := Tryz.zeroValue171
  i77 := by kernel_rfl
  t78 := Tryz.underlying172
  a78 := Tryz.isAgg172
  z78 := Tryz.sizeOf172
  v78 := Tryz.zeroValue172
  i78 := by kernel_rfl
  t79 := Tryz.underlying173
  a79 := Tryz.isAgg173
  z79 := Tryz.sizeOf173
  v79 := Tryz.zeroValue173
  i79 := by kernel_rfl
  t80 := Tryz.underlying174
  a80 := Tryz.isAgg174
  z80 := Tryz.sizeOf174
  v80 := Tryz.zeroValue174
  i80 := by kernel_rfl
  t82 := Tryz.underlying176
  a82 := Tryz.isAgg176
  z82 := Tryz.sizeOf176
  v82 := Tryz.zeroValue176
  i82 := by kernel_rfl }
end Go.Proofs
namespace Go.Proofs
open Go.Shelf Go.RowKit Go.Lib Go.Sort
theorem sorted_keys {zs ks : List Int} {d' : Array Int} (hp : PermIn 0 zs.toArray.size zs.toArray d') (hs : SortedIn ltInt 0 zs.toArray.size d') (hk : ks.Perm zs) (ho : ks.Pairwise (· < ·)) : d' = ks.toArray := by
  obtain ⟨h1, _, h3⟩ := hp
  have e1 : (d'.extract 0 zs.toArray.size).toList = d'.toList := by rw [← h1]; simp
  have e2 : (zs.toArray.extract 0 zs.toArray.size).toList = zs := by simp
  rw [e1, e2] at h3
  have hpw : d'.toList.Pairwise (· ≤ ·) := by
    rw [List.pairwise_iff_getElem]
    intro i j hi hj hij
    have := hs i j (Nat.zero_le _) hij (by rw [← h1]; simpa using hj)
    simp only [ltInt, decide_eq_false_iff_not] at this
    have hi' : i < d'.size := by simpa using hi
    have hj' : j < d'.size := by simpa using hj
    rw [getElem!_pos d' i hi', getElem!_pos d' j hj'] at this
    rw [Array.getElem_toList, Array.getElem_toList]
    omega
  have := List.Perm.eq_of_pairwise (le := (· ≤ ·)) (fun a b _ _ h1 h2 => by omega) hpw (ho.imp (fun h => by omega)) (h3.trans hk.symm)
  exact Array.toList_inj.1 (by rw [this])
noncomputable def si122 : TypeInfo := (Tryz.prog.info? 122).get (by kernel_rfl)
noncomputable def si55 : TypeInfo := (Tryz.prog.info? 55).get (by kernel_rfl)
theorem siK55 (n : Nat) (h2 : 2 ≤ n) : Lib.swapperK n si55 10 = 6 := by
  have a : si55.hasPointers = false := by kernel_rfl
  have b : si55.bytes = 4 := by kernel_rfl
  have c : (n == 0) = false := by simp; omega
  have d : (n == 1) = false := by simp; omega
  simp [Lib.swapperK, a, b, c, d]
set_option maxHeartbeats 2000000 in
set_option maxRecDepth 100000 in
theorem less_u32 (blk off c Bs size : Nat) (W : World) (G : Nat → Int) (hs : W.cell? ⟨Bs, 0, none⟩ = some (.slice (some ⟨blk, off, none⟩) size c))
    (hc : ∀ t, t < size → W.cell? ⟨blk, off + t, none⟩ = some (.int .u32 (G t))) (i j : Nat) (hi : i < size) (hj : j < size) :
    Calls Tryz.prog 95 #[.int .i64 i, .int .i64 j, .pointer (some ⟨Bs, 0, none⟩)] W fun e w' => e = .returned (.bool (decide (G i < G j))) ∧ ∃ q, w' = W.drewN q := by
  have ci := hc i hi
  have cj := hc j hj
  go_enter Tryz.func95, Tryz.ntmps95
  go_wp2
  go_quiet (fail)
  go_wp2
  go_ret
  exact ⟨rfl, nq, rfl⟩
theorem sort_u32 (blk c OB : Nat) (zs ks : List Int) (w : World) (hfew : zs.length < 4611686018427387904) (hH : Holds (Value.int .u32) w blk 0 zs.toArray) (hblk : blk < w.heap.size)
    (hOB : w.cell? ⟨OB, 0, none⟩ = some (.slice (some ⟨blk, 0, none⟩) zs.length c)) (hOBl : OB < w.heap.size) (hne : OB ≠ blk) (hk : ks.Perm zs) (ho : ks.Pairwise (· < ·)) :
    Calls Tryz.prog 94 #[.iface 122 (.slice (some ⟨blk, 0, none⟩) zs.length c), .func (.func 95) #[] #[.pointer (some ⟨OB, 0, none⟩)]] w fun e w' =>
      e = .returned (.tuple #[]) ∧ ∃ n os, w' = grow (putRow (Value.int .u32) (Sort.ahead w n) blk 0 ks.toArray) os := by
  by_cases h2 : 2 ≤ zs.length
  · have hless : LessReads Tryz.prog 95 #[.pointer (some ⟨OB, 0, none⟩)] (Value.int .u32) ltInt blk 0 zs.toArray.size w := by
      intro m os dk hs i j hi hj
      have e : sortWorld (Value.int .u32) w blk 0 m dk os = putRow (Value.int .u32) (grow (Sort.ahead w m) os) blk 0 dk := by
        unfold sortWorld; rw [putRow_grow _ (Sort.ahead w m) _ blk 0 _ hblk]
      have hHg : Holds (Value.int .u32) (grow (Sort.ahead w m) os) blk 0 zs.toArray := holds_grow _ _ _ blk 0 _ hblk (holds_ahead _ _ _ _ _ _ hH)
      refine less_u32 blk 0 c OB zs.toArray.size _ (fun t => dk[t]!) ?_ (fun t ht => ?_) i j hi hj
      · rw [e, cell?_putRow_other _ _ blk 0 dk _ (Or.inl (by show OB ≠ blk; exact hne)), cell?_grow _ _ _ (by show OB < w.heap.size; exact hOBl)]
        exact hOB
      · rw [e]; exact cell?_putRow _ _ blk 0 _ dk hHg hs t (by omega)
    have hS := Any.sort_Slice_sorted Tryz.sa6 122 55 si122 si55 (by kernel_rfl) (by kernel_rfl) (by kernel_rfl) (by kernel_rfl) 10 (fun _ => by kernel_rfl) (by kernel_rfl) (fun _ => by kernel_rfl) (Value.int .u32) (fun _ => rfl) ltInt swo_ltInt 95 _
      (enters_of Tryz.func95 (by kernel_rfl) rfl) blk 0 c zs.toArray (by simpa using h2) (by simpa using hfew) 109 (by rw [siK55 _ (by simpa using h2)]; kernel_rfl) true
      (fun args W => run_callFunc_extern Tryz.func109 (by kernel_rfl) (by kernel_rfl) (by kernel_rfl) (e := Extern.ReflectliteSwapper.swap true) (by kernel_rfl) args W) _ hless hH hblk
    change Calls Tryz.prog 94 _ _ _ at hS
    refine hS.mono ?_
    rintro e w' ⟨rfl, d', n, os, hp, hso, rfl⟩
    rw [sorted_keys hp hso hk ho]
    exact ⟨rfl, n, os, rfl⟩
  · have hzk : zs = ks := by
      have hl := hk.length_eq
      match zs, ks, hl with
      | [], [], _ => rfl
      | [x], [y], _ => have := hk.mem_iff (a := y); simp at this; first | done | rw [this]
      | x :: y :: r, _, _ => exact absurd (by simp) h2
    have hK : Lib.swapperK zs.length si55 10 = zs.length + 1 := by
      rcases Nat.eq_zero_or_pos zs.length with h | h
      · rw [h]; rfl
      · have : zs.length = 1 := by omega
        rw [this]; rfl
    have hS := fun W => Any.sort_Slice_tiny Tryz.sa6 122 55 si122 si55 (by kernel_rfl) (by kernel_rfl) (by kernel_rfl) (by kernel_rfl) 10 (fun _ => by kernel_rfl) (some ⟨blk, 0, none⟩) zs.length c (by omega) (104 + zs.length) (by
      rw [hK]
      rcases Nat.eq_zero_or_pos zs.length with h | h
      · rw [h]; kernel_rfl
      · have : zs.length = 1 := by omega
        rw [this]; refine Eq.trans ?_ rfl; kernel_rfl) (.func 95) #[] #[.pointer (some ⟨OB, 0, none⟩)] W
    refine (hS w).mono ?_
    rintro e w' ⟨rfl, os, rfl⟩
    refine ⟨rfl, 0, os, ?_⟩
    rw [← hzk]
    congr 1
    exact (putRow_self _ _ blk 0 _ hH).symm
theorem law55 : Maps.Keyed Tryz.prog 55 := Maps.int_keyed Tryz.underlying55
theorem info55 : (Tryz.prog.info? 55).map (fun i => (i.zero, i.size, i.bytes)) = some (some (.int .u32 0), 1, 4) := by kernel_rfl
theorem info122 : Tryz.prog.underlying 122 = some (.slice 55) := by kernel_rfl
def Coll {H : Type} (D : DataW H) (left : Lit → Bool) (zs : List Int) : Prop := zs.Nodup ∧ (∀ x, x ∈ zs ↔ Maps.has D (.int .u32 x) = true ∧ left (.int .u32 x) = false) ∧ ∀ kl, left kl = true → Maps.has D kl = true
theorem Coll.start {H : Type} (D : DataW H) : Coll D (Maps.has D) [] := ⟨List.nodup_nil, fun x => ⟨(fun h => by cases h), (fun ⟨h1, h2⟩ => by rw [h1] at h2; cases h2)⟩, fun _ h => h⟩
theorem cellB {w : World} {b ty : Nat} {v : Value} (h : w.heap[b]? = some (.cells #[v] ty (0, 0))) : w.cell? ⟨b, 0, none⟩ = some v := by simp [World.cell?, h]
theorem frozB {w : World} {b ty : Nat} {v : Value} (h : w.heap[b]? = some (.cells #[v] ty (0, 0))) : w.frozen? ⟨b, 0, none⟩ = false := by simp [World.frozen?, h]
theorem blockOB {w w3 : World} {x : Obj} {OB ty : Nat} {vS : Value} (hg : (w.alloc x).grownBy w3 vS.ownBlock) (h : w.heap[OB]? = some (.cells #[vS] ty (0, 0))) (hne : vS.ownBlock ≠ some OB) : w3.heap[OB]? = some (.cells #[vS] ty (0, 0)) := by
  have hl : OB < w.heap.size := (Array.getElem?_eq_some_iff.1 h).1
  rw [hg.block OB (by simp; omega) (fun e => hne e.symm), (MapKept.heap_alloc w x).2 OB hl, h]
theorem rowShape {w : World} {base : Nat} {e : TypeId} {size : Nat} {v : Value} {n : Nat} {xs : List Value} (h : w.ownsRow base e size v n xs) (hne : v ≠ .slice none 0 0) : ∃ g cap, v = .slice (some ⟨g, 0, none⟩) n cap := by
  rcases h.2 with ⟨rfl, _⟩ | ⟨g, cap, cur, rfl, _⟩
  · exact absurd rfl hne
  · exact ⟨g, cap, rfl⟩
theorem rowBlock {w : World} {base : Nat} {e : TypeId} {size : Nat} {g n m cap : Nat} {xs : List Value} (h : w.ownsRow base e size (.slice (some ⟨g, 0, none⟩) m cap) n xs) : ∃ cur, w.heap[g]? = some (.cells cur e (0, 0)) := by
  rcases h.2 with ⟨h, _⟩ | ⟨g', cap', cur, h, _, hb, _⟩
  · cases h
  · cases h; exact ⟨cur, hb⟩
theorem grown_setCell {w : World} {b ty : Nat} {v u : Value} (h : w.heap[b]? = some (.cells #[u] ty (0, 0))) : w.grownBy (w.setCell ⟨b, 0, none⟩ v) (some b) :=
  ⟨rfl, rfl, rfl, by simp, fun k _ hne => heap_setCell_other w ⟨b, 0, none⟩ k v (fun e => hne (by rw [e]))⟩
theorem setCell_block {w : World} {b ty : Nat} {v u : Value} (h : w.heap[b]? = some (.cells #[u] ty (0, 0))) : (w.setCell ⟨b, 0, none⟩ v).heap[b]? = some (.cells #[v] ty (0, 0)) := by
  simp only [World.setCell, Array.getElem?_modify, if_true, h, Option.map_some]
  rfl
theorem Coll.step {H : Type} {D : DataW H} {left : Lit → Bool} {zs : List Int} {x : Int} {kl : Lit} (h : Coll D left zs) (hkey : keyOf Tryz.prog 55 (.int .u32 x) = some kl) (hlk : left kl = true) : Coll D (fun z => left z && !z.sameKey kl) (zs ++ [x]) := by
  obtain ⟨h1, h2, h3⟩ := h
  obtain ⟨x', ex, rfl, _⟩ := Maps.keyOf_int_inv Tryz.underlying55 hkey
  cases ex
  refine ⟨?_, fun y => ?_, fun kl hkl => ?_⟩
  · refine List.nodup_append.2 ⟨h1, by simp, fun a ha b hb => ?_⟩
    rw [List.mem_singleton] at hb
    intro e
    rw [e, hb] at ha
    have := ((h2 _).1 ha).2
    rw [hlk] at this; cases this
  · rw [List.mem_append, List.mem_singleton, h2 y]
    by_cases e : y = x
    · subst e
      have hs : (Lit.int .u32 y).sameKey (.int .u32 y) = true := WideAt.sameKey_self trivial
      simp [h3 _ hlk, hs]
    · have hs : (Lit.int .u32 y).sameKey (.int .u32 x) = false := by
        cases hh : (Lit.int .u32 y).sameKey (.int .u32 x)
        · rfl
        · have := WideAt.sameKey_eq hh
          cases this; exact absurd rfl e
      simp [hs, e]
  · simp only [Bool.and_eq_true] at hkl
    exact h3 _ hkl.1
theorem holdsU {w : World} {base g cap m : Nat} {zs : List Int} (h : w.ownsRow base 55 1 (.slice (some ⟨g, 0, none⟩) m cap) zs.length (zs.map (Value.int .u32))) : Go.Sort.Holds (Value.int .u32) w g 0 zs.toArray := by
  rcases h.2 with ⟨h, _⟩ | ⟨g', cap', cur, h, _, hb, _, _, _, ht⟩
  · cases h
  cases h
  rw [Nat.mul_one] at ht
  intro j hj
  have hj' : j < zs.length := by simpa using hj
  refine ⟨?_, by simp [World.frozen?, hb]⟩
  have h1 : (cur.toList.take zs.length)[j]? = (zs.map (Value.int .u32))[j]? := by rw [ht]
  rw [List.getElem?_take_of_lt hj', List.getElem?_map, List.getElem?_eq_getElem hj', Array.getElem?_toList] at h1
  simp only [World.cell?, Nat.zero_add, hb]
  simp [h1, hj']
theorem sorted_facts {blk OB : Nat} {zs ks : List Int} {w : World} {f : FuncId} {args : Array Value} {v : Value} (h : Calls Tryz.prog f args w fun e w' => e = .returned (.tuple #[]) ∧ ∃ n os, w' = Go.Sort.grow (Go.Sort.putRow (Value.int .u32) (Go.Sort.ahead w n) blk 0 ks.toArray) os)
    (hH : Go.Sort.Holds (Value.int .u32) w blk 0 zs.toArray) (hblk : blk < w.heap.size) (hOB : w.cell? ⟨OB, 0, none⟩ = some v) (hOBl : OB < w.heap.size) (hne : OB ≠ blk) (hl : ks.length = zs.length) :
    Calls Tryz.prog f args w fun e ws => e = .returned (.tuple #[]) ∧ ws.cell? ⟨OB, 0, none⟩ = some v ∧ (∀ i, i < ks.length → ws.cell? ⟨blk, i, none⟩ = some (.int .u32 (ks.getD i 0))) ∧ w.grownBy ws (some blk) := by
  refine h.mono fun e ws ⟨he, n, os, hw⟩ => ⟨he, ?_, fun i hi => ?_, ?_⟩
  · rw [hw, Go.Sort.cell?_grow _ _ _ (by show OB < _; simpa using hOBl), Go.Sort.cell?_putRow_other _ _ blk 0 _ _ (Or.inl (by show OB ≠ blk; exact hne))]
    exact hOB
  · rw [hw, Go.Sort.cell?_grow _ _ _ (by show blk < _; simpa using hblk)]
    have := Go.Sort.cell?_putRow (Value.int .u32) (Go.Sort.ahead w n) blk 0 zs.toArray ks.toArray (Go.Sort.holds_ahead _ _ _ _ _ _ hH) (by simpa using hl) i (by simp; omega)
    rw [Nat.zero_add] at this
    rw [this]
    simp [List.getD_eq_getElem?_getD, hi]
  · rw [hw]
    refine ⟨rfl, rfl, rfl, by simp, fun k hk hne' => ?_⟩
    rw [Go.Sort.heap_grow_old _ _ (by simpa using hk)]
    have : blk ≠ k := fun e => hne' (by rw [e])
    simp [Go.Sort.putRow, Go.Sort.mapBlock, Go.Sort.ahead, Array.getElem?_modify, this]
theorem cell_of_block {w w' : World} {b o : Nat} (h : w'.heap[b]? = w.heap[b]?) : w'.cell? ⟨b, o, none⟩ = w.cell? ⟨b, o, none⟩ := by simp [World.cell?, h]
theorem cell_grown_alloc {w w' : World} {b o : Nat} {v : Value} (hg : w.grownBy w' none) (hb : b < w.heap.size) (h : w.cell? ⟨b, o, none⟩ = some v) (x : Obj) : (w'.alloc x).cell? ⟨b, o, none⟩ = some v := by
  have h1 := hg.block b hb (by simp)
  have hb' : b < w'.heap.size := Nat.lt_of_lt_of_le hb hg.size
  rw [cell_of_block ((MapKept.heap_alloc w' x).2 b hb'), cell_of_block h1, h]
set_option maxHeartbeats 2000000 in
set_option maxRecDepth 100000 in
theorem each_calls (W : World) (b off r n B : Nat) (D : DataW Value) (ks : List Int) (hD : ∀ x, x ∈ ks ↔ Maps.has D (.int .u32 x) = true) (hks : ks.Pairwise (· < ·)) (M : Nat → Prop) (hM : ∀ x, M x → x < W.heap.size) (hMb : ¬ M b)
    (R : World → Nat → World → Prop) (hR0 : ∀ ws, Below W.heap.size W ws → R ws 0 ws) (hRf : ∀ ws k wl, R ws k wl → Fr M ws wl)
    (hRs : ∀ ws k wl, Below W.heap.size W ws → k < ks.length → R ws k wl → ∃ vk, (Instr.lookup 60 (.map (some r)) (.int .u32 (ks.getD k 0)) false).run Tryz.prog wl = .ok vk wl ∧ Calls Tryz.prog 76 #[.int .u32 (ks.getD k 0), vk, .pointer (some ⟨B, 0, none⟩)] wl fun e w' => e = .returned (.tuple #[]) ∧ R ws (k + 1) w') (hc : W.cell? ⟨b, off, none⟩ = some (.map (some r))) (hown : W.ownsMap Tryz.prog 55 zIK r n D) (hn : 0 < Maps.size D) (hmax : Maps.size D ≤ 4294967296) (hb : b < W.heap.size) (hB : B < W.heap.size) :
    Calls Tryz.prog 75 #[.pointer (some ⟨b, off, none⟩), .func (.func 76) #[] #[.pointer (some ⟨B, 0, none⟩)]] W fun e w' => e = .returned (.tuple #[]) ∧ ∃ ws, Below W.heap.size W ws ∧ R ws ks.length w' := by
  obtain ⟨i0, hi, hz0, hz1, hz2⟩ : ∃ i, Tryz.prog.info? 55 = some i ∧ i.zero = some (.int .u32 0) ∧ i.size = 1 ∧ i.bytes = 4 := by
    have := info55
    cases h : Tryz.prog.info? 55 with
    | none => rw [h] at this; cases this
    | some i => rw [h] at this; simp at this; exact ⟨i, rfl, this.1, this.2.1, this.2.2⟩
  have hum : Tryz.prog.underlying 60 = some (.map 55 22) := by kernel_rfl
  have hrl := hown.lt
  go_enter Tryz.func75, Tryz.ntmps75
  go_wp2_with (first
    | (at_len; refine wpList_len_own _ rfl _ 60 rfl 55 22 hum zIK r n D rfl hown ?_)
    | (at_make; refine wpList_make_own _ rfl _ _ 122 rfl W.heap.size 55 i0 (.int .u32 0) 1 info122 hi hz0 hz1 _ _ _ (Maps.size D) rfl rfl rfl (by rw [hz2]; omega) (by unfold maxLen; omega) (Nat.le_refl _) ?_; intro w1 hrow1 hg1; have hcA := fun o => cell_grown_alloc hg1 hb hc o)
    | (at_range; refine wpList_range_own _ rfl _ 60 rfl 55 22 law55 hum zIK r n D rfl ((hown.kept hg1 (by simp)).alloc _) ?_; intro w0 hrg0 hg0 hs0)
    | go_in)
  go_frame
  obtain ⟨OB, hOB⟩ : ∃ x, x = w1.heap.size := ⟨_, rfl⟩
  obtain ⟨IT, hIT⟩ : ∃ x, x = (w1.alloc (.cells #[.slice (some ⟨W.heap.size, 0, none⟩) 0 (Maps.size D)] 122)).heap.size := ⟨_, rfl⟩
  rw [← hIT] at hrg0 ⊢
  rw [← hOB]
  have hITOB : IT ≠ OB := by rw [hIT, hOB]; simp
  have hOBN : W.heap.size ≤ OB := by rw [hOB]; exact hg1.size
  have hOB0 : w0.heap[OB]? = some (.cells #[.slice (some ⟨W.heap.size, 0, none⟩) 0 (Maps.size D)] 122 (0, 0)) := by
    rw [hg0.block OB (by rw [hOB]; simp) (by simp), hOB]
    exact (MapKept.heap_alloc w1 _).1
  have hrow0 : w0.ownsRow W.heap.size 55 1 (.slice (some ⟨W.heap.size, 0, none⟩) 0 (Maps.size D)) 0 [] := (hrow1.alloc _).kept hg0 (Or.inr (by simp [Value.ownBlock]))
  have hbel0 : Below W.heap.size W w0 := ((((Below.refl _ _).grown hg1 (Nat.le_refl _) (fun j hj => by cases hj)).alloc hg1.size _).grown hg0 (by have := hg1.size; simp; omega) (fun j hj => by cases hj))
  have hSOB : OB ≠ W.heap.size := fun e => by
    have h1 := (hrow1.lt W.heap.size rfl).2
    omega
  have hITN : W.heap.size ≤ IT := by rw [hIT]; have := hg1.size; simp; omega
  clear hOB hIT hs0
  go_loopw [] (fun wr => ∃ left cnt zs vS, wr.ranges Tryz.prog 55 zIK r IT n D left cnt ∧ wr.heap[OB]? = some (.cells #[vS] 122 (0, 0)) ∧ wr.ownsRow W.heap.size 55 1 vS zs.length (zs.map (Value.int .u32)) ∧ vS.ownBlock ≠ some OB ∧ vS ≠ .slice none 0 0 ∧
      Coll D left zs ∧ zs.length + cnt ≤ Maps.size D ∧ Below W.heap.size W wr)
    (fun wr => wr.rangeLeft r IT)
  case atStart =>
    refine ⟨_, _, [], .slice (some ⟨W.heap.size, 0, none⟩) 0 (Maps.size D), hrg0, ?_, ?_, ?_, by simp, Coll.start D, by simp, ?_⟩
    · exact hOB0
    · exact hrow0
    · simp only [Value.ownBlock]; exact fun e => hSOB (Option.some.inj e).symm
    · exact hbel0
  case round =>
    obtain ⟨left, cnt, zs, vS, hrg, hOBh, hrow, hvOB, hnn, hC, hcs, hnx⟩ := hrel
    have hOBc : wr.cell? ⟨OB, 0, none⟩ = some vS := cellB hOBh
    have hOBl : OB < wr.heap.size := (Array.getElem?_eq_some_iff.1 hOBh).1
    go_wp2_with (first
      | (at_next; refine wpList_next_ranges _ rfl _ rfl 55 law55 zIK (Value.int .u32) (fun c : Value => c) (fun key kl hk => by obtain ⟨x, hx, _⟩ := Maps.keyOf_int_inv Tryz.underlying55 hk; exact ⟨x, hx⟩) (fun v y hv => ⟨v, rfl⟩) r IT n _ _ _ rfl hrg ?_ ?_)
      | go_in)
    · intro hc0 hl0
      obtain ⟨g, cap, rfl⟩ := rowShape hrow hnn
      have hperm : ks.Perm zs := (List.perm_ext_iff_of_nodup (hks.imp (fun {a b} h => by omega)) hC.1).2 (fun a => by rw [hD a, hC.2.1 a, hl0]; simp)
      have hgOB : OB ≠ g := by simpa [Value.ownBlock] using hvOB.symm
      have hgl : g < wr.heap.size := (hrow.lt g rfl).2
      have hH := holdsU hrow
      have hfew : zs.length < 4611686018427387904 := by omega
      have hsort := sorted_facts (sort_u32 g cap OB zs ks wr hfew hH hgl hOBc hOBl hgOB hperm hks) hH hgl hOBc hOBl hgOB hperm.length_eq
      have hgN : W.heap.size ≤ g := (hrow.lt g rfl).1
      have hbl := hb
      have hlen := hperm.length_eq
      have hbc : ∀ ws, Below W.heap.size W ws → ws.cell? ⟨b, off, none⟩ = some (.map (some r)) := fun ws h => (h.cell (by exact hb)).trans hc
      go_wp2_with (first | (go_at_call 94; refine hsort.mono ?_; rintro e ws ⟨rfl, hSo, hSc, hSg⟩; have hbs := hnx.grown hSg hnx.size (fun j hj => by cases hj; exact hgN)) | go_in)
      rw [← hlen]
      have hkfew : ks.length < 4611686018427387904 := by omega
      clear hlen
      go_loopw [39] (fun i wl => ∃ k : Nat, k ≤ ks.length ∧ i = .int .i64 k ∧ R ws k wl)
        (fun i _ => ks.length - (intOf i).toNat)
      case atStart => exact ⟨0, Nat.zero_le _, rfl, hR0 ws hbs⟩
      case round =>
        obtain ⟨k, hk, rfl, hRk⟩ := hrel
        have hfl := hRf ws k wr hRk
        have hgs : g < ws.heap.size := Nat.lt_of_lt_of_le hgl hSg.size
        have hkc : k < ks.length → wr.cell? ⟨g, k, none⟩ = some (.int .u32 (ks.getD k 0)) := fun h => (cell_of_block (hfl.block g hgs (fun hm => by have := hM g hm; omega))).trans (hSc k h)
        have hbcl : wr.cell? ⟨b, off, none⟩ = some (.map (some r)) := (cell_of_block (hfl.block b (Nat.lt_of_lt_of_le hb hbs.size) hMb)).trans (hbc ws hbs)
        by_cases hlt : k < ks.length
        · obtain ⟨vk, hlook, hcall⟩ := hRs ws k wr hbs hlt hRk
          have hkc1 := hkc hlt
          clear hkc hSc
          generalize ks.getD k 0 = xk at hkc1 hlook hcall
          go_wp2_with (first | (go_at_call 76; refine hcall.mono ?_; rintro e w4 ⟨rfl, hR4⟩) | go_in)
          go_roundw
          case rel => exact ⟨k + 1, by omega, by go_num, hR4⟩
          case measure => simp [intOf]; omega
        · have hkl : k = ks.length := by omega
          subst hkl
          clear hkc hSc
          go_wp2
          go_end0
          exact ⟨rfl, ws, hbs, hRk⟩
    · intro x c kl yd yp w2 cnt2 hkey hlk hv hat hrg2 hlt hg2 hs2 hen
      have hOB2 : w2.heap[OB]? = some (.cells #[vS] 122 (0, 0)) := (hg2.block OB hOBl (by simpa using hITOB.symm)).trans hOBh
      have hOBc2 : w2.cell? ⟨OB, 0, none⟩ = some vS := cellB hOB2
      have hrow2 := hrow.kept hg2 (Or.inr (row_ne_iter hrow hrg).symm)
      clear hs2
      go_wp2_with (first
        | (at_builtin; refine wpList_append_own _ rfl _ _ 122 rfl W.heap.size 55 i0 (.int .u32 0) 1 4 info122 hi hz0 hz1 hz2 rfl (by decide) _ _ _ rfl (hrow2.alloc _) ⟨w2.heap.size, 0, none⟩ 1 1 [.int .u32 x] rfl rfl (cell_one_new _ _ _) (by simp [Value.oneCell']) (by unfold maxLen at *; omega) (by omega) (by have := hnx.size; have := hg2.size; simp; omega) ?_; intro v' w3 hown' hg3 hnil3; obtain ⟨g3, cap3, rfl⟩ := rowShape hown' (fun h => by have := (hnil3.1 h).2; omega); have hOB3 := blockOB hg3 hOB2 hvOB; have hOBc3 := cellB hOB3; have hOBf3 := frozB hOB3)
        | go_in)
      have hrg3 := (hrg2.alloc (.cells #[Value.int .u32 x] 55)).kept hg3 (row_ne_low hrow2 hrl) (row_ne_iter hrow2 hrg2)
      have hg4 := grown_setCell (w := w3) (v := .slice (some ⟨g3, 0, none⟩) (zs.length + 1) cap3) hOB3
      have hrg4 := hrg3.kept hg4 (by simp; omega) (by simpa using hITOB)
      have hg3OB : g3 ≠ OB := by
        obtain ⟨cur, hcur⟩ := rowBlock hown'
        intro e
        rw [e, hOB3] at hcur
        cases hcur
      go_roundw
      case rel =>
        refine ⟨_, cnt2, zs ++ [x], .slice (some ⟨g3, 0, none⟩) (zs.length + 1) cap3, hrg4, setCell_block hOB3, ?_, by simpa [Value.ownBlock] using hg3OB, by simp, hC.step hkey hlk, by simp; omega, ?_⟩
        · have := hown'.kept hg4 (Or.inr (by simpa [Value.ownBlock] using hg3OB))
          simpa using this
        · exact (((hnx.grown hg2 hnx.size (fun j hj => by cases hj; exact hITN)).alloc (by have := hnx.size; have := hg2.size; omega) _).grown hg3 (by have := hnx.size; have := hg2.size; simp; omega) (fun j hj => (hrow2.lt j hj).1)).grown hg4 (by have := hnx.size; have := hg2.size; have := hg3.size; simp at this; omega) (fun j hj => by cases hj; exact hOBN)
      case measure => rw [hrg4.left_eq, hrg.left_eq]; exact hlt
set_option maxHeartbeats 2000000 in
set_option maxRecDepth 100000 in
theorem appendEach_calls (w : World) (b off : Nat) (sp : Option Addr) (sn sc : Nat) (Q : World → Value → Prop)
   (hcall : Calls Tryz.prog 75 #[.pointer (some ⟨b, off, none⟩), .func (.func 76) #[] #[.pointer (some ⟨w.heap.size, 0, none⟩)]] (w.alloc (.cells #[.slice sp sn sc] 22)) fun e w' => e = .returned (.tuple #[]) ∧ ∃ v, w'.cell? ⟨w.heap.size, 0, none⟩ = some v ∧ Q w' v) :
   Calls Tryz.prog 46 #[.pointer (some ⟨b, off, none⟩), .slice sp sn sc] w fun e w' => ∃ v, e = .returned v ∧ Q w' v := by
  go_enter Tryz.func46, Tryz.ntmps46
  go_wp2_with (first | (go_at_call 75; refine hcall.mono ?_; rintro e w4 ⟨rfl, v, hv, hq⟩) | go_in)
  go_ret
  exact ⟨v, rfl, hq⟩
set_option maxHeartbeats 2000000 in
set_option maxRecDepth 100000 in
theorem each_none (w : World) (b off B : Nat) (m : Option Nat) (hc : w.cell? ⟨b, off, none⟩ = some (.map m)) (hlen : (Builtin.len_ #[60] 3 #[.map m]).run Tryz.prog w = .ok (goInt 0) w) :
    Calls Tryz.prog 75 #[.pointer (some ⟨b, off, none⟩), .func (.func 76) #[] #[.pointer (some ⟨B, 0, none⟩)]] w fun e w2 => e = .returned (.tuple #[]) ∧ w2 = w := by
  go_enter Tryz.func75, Tryz.ntmps75
  go_wp2
  refine bodyPost_ret (results_none rfl _ _ _) rfl ?_
  exact ⟨rfl, rfl⟩
def tabU : List (Nat × Ctr) := [(44, ⟨[.own 22, .val 55], .own 22, 10, true⟩), (74, ⟨[.val 55], .val 3, 31, true⟩)]
theorem u44 : ctrOk? Tryz.prog tabU 44 ⟨[.own 22, .val 55], .own 22, 10, true⟩ = true := by kernel_rfl
theorem u74 : ctrOk? Tryz.prog tabU 74 ⟨[.val 55], .val 3, 31, true⟩ = true := by kernel_rfl
theorem nmU : xNA Tryz.prog := names_ok (by kernel_rfl)
theorem ordU : Tryz.prog.follows .mixedOrders = true := by kernel_rfl
theorem allU : ∀ p ∈ tabU, ctrOk? Tryz.prog tabU p.1 p.2 = true := by
  intro p hp
  simp only [tabU, List.mem_cons, List.not_mem_nil, or_false] at hp
  rcases hp with rfl | rfl
  · exact u44
  · exact u74
noncomputable def CU : Cfg := ⟨Tryz.prog, fun g => lk g tabU, fun _ _ _ => none⟩
theorem ctrU : ∀ f c, CU.ctr f = some c → zMB Tryz.prog X side f c :=
  all_ok (hand := fun _ => false) nmU ordU (fun f c h hf => by cases hf) (fun f c h hf => allU (f, c) (zHB h)) (fun k hk => by cases hk)
theorem boxU : boxRun CU 22 76 de84 os84 = true := by kernel_rfl
theorem own_slice {P : Program} {ok : Nat → Prop} {w : World} {t : TypeId} {v : Value} {d : D} (h : yVA P ok w t v d) : ∃ sp sn sc, v = .slice sp sn sc := by
  obtain ⟨e, i, n, xs, _, _, h3, _⟩ := h
  rcases h3.2 with ⟨rfl, _⟩ | ⟨g, cap, cur, rfl, _⟩
  · exact ⟨_, _, _, rfl⟩
  · exact ⟨_, _, _, rfl⟩
theorem own_lt {P : Program} {ok : Nat → Prop} {w : World} {t : TypeId} {v : Value} {d : D} (h : yVA P ok w t v d) (b : Nat) (hb : v.ownBlock = some b) : b < w.heap.size := by
  obtain ⟨e, i, n, xs, _, _, h3, _⟩ := h
  exact (h3.lt b hb).2
theorem cell_lt {w : World} {b off : Nat} {v : Value} (h : w.cell? ⟨b, off, none⟩ = some v) : b < w.heap.size := by
  cases hh : w.heap[b]? with
  | none => simp [World.cell?, hh] at h
  | some o => exact (Array.getElem?_eq_some_iff.1 hh).1
theorem own_at {P : Program} {ok ok' : Nat → Prop} {w w' : World} {t e : TypeId} {v : Value} {d : D} (h : yVA P ok w t v d) (hu : P.underlying t = some (.slice e)) (h8 : isU8 P e = true) (hb : ∀ b, v.ownBlock = some b → w'.heap[b]? = w.heap[b]?) : yVA P ok' w' t v d :=
  (h.u8 (ok' := fun _ => False) hu h8).mono (fun _ h => h.elim) (fun _ h => h.elim) hb
set_option maxHeartbeats 1000000 in
theorem hand46 : zMB Tryz.prog X side 46 ⟨[.mcell 112 60, .own 22], .own 22, 25, true⟩ := by
  refine ⟨zOG (by kernel_rfl), fun ok w vs ds hA hok hRd hp => ?_⟩
  have hum : Tryz.prog.underlying 60 = some (.map 55 22) := by kernel_rfl
  have hby : isBy Tryz.prog 22 = true := by kernel_rfl
  obtain ⟨e22, hu22, h8⟩ := yFI hby
  have h8 : isU8 Tryz.prog e22 = true := by simp [isU8, h8]
  obtain @⟨⟩ | @⟨_, v1, d1, _, _, _, h1, hA⟩ := hA
  obtain @⟨⟩ | @⟨_, v2, d2, _, _, _, h2, hA⟩ := hA
  cases hA
  cases h2 with
  | own h2 =>
  cases h1 with
  | mcell hc h =>
  rename_i b off mv
  have hWr : ∀ x, Wr w [AK.mcell 112 60, .own 22] [.pointer (some ⟨b, off, none⟩), v2] x ↔ v2.ownBlock = some x := fun x => by
    simp [Wr, wrA]
  have hb2 : ∀ x, v2.ownBlock = some x → x < w.heap.size := fun x hx => own_lt h2 x hx
  have hbl : b < w.heap.size := cell_lt hc
  have hbne : v2.ownBlock ≠ some b := fun e => hRd b (.inl (.inl rfl)) ((hWr b).2 e)
  obtain ⟨sp, sn, sc, rfl⟩ := own_slice h2
  have hX := X_25' d1 d2
  replace hp : (X 25 [d1, d2]).len ≤ lim ∧ ∀ x ∈ mapL d1, x.2.len < 4294967296 := hp rfl
  have hWc : (w.alloc (.cells #[.slice sp sn sc] 22)).cell? ⟨b, off, none⟩ = some mv := (cell_of_block ((MapKept.heap_alloc w _).2 b hbl)).trans hc
  have hBh : (w.alloc (.cells #[.slice sp sn sc] 22)).heap[w.heap.size]? = some (.cells #[.slice sp sn sc] 22 (0, 0)) := (MapKept.heap_alloc w _).1
  have hold : ∀ x, x < w.heap.size → (w.alloc (.cells #[.slice sp sn sc] 22)).heap[x]? = w.heap[x]? := fun x hx => (MapKept.heap_alloc w _).2 x hx
  have hsz : (w.alloc (.cells #[.slice sp sn sc] 22)).heap.size = w.heap.size + 1 := by simp
  -- nothing to write
  have hnone : ∀ m, mv = .map m → mapL d1 = [] → (Builtin.len_ #[60] 3 #[.map m]).run Tryz.prog (w.alloc (.cells #[.slice sp sn sc] 22)) = .ok (goInt 0) (w.alloc (.cells #[.slice sp sn sc] 22)) →
      Calls Tryz.prog 46 #[.pointer (some ⟨b, off, none⟩), .slice sp sn sc] w fun e w' => ∃ v, e = .returned v ∧ Fr (Wr w [AK.mcell 112 60, .own 22] [.pointer (some ⟨b, off, none⟩), .slice sp sn sc]) w w' ∧ zAC Tryz.prog ok w w' ⟨[.mcell 112 60, .own 22], .own 22, 25, true⟩ [.pointer (some ⟨b, off, none⟩), .slice sp sn sc] v (X 25 [d1, d2]) := by
    intro m hm hnil hlen
    subst hm
    refine appendEach_calls w b off sp sn sc (fun w' v => _ ∧ _) ((each_none _ b off w.heap.size m hWc hlen).mono fun e w' he => ?_)
    obtain ⟨rfl, rfl⟩ := he
    refine ⟨rfl, _, cellB hBh, ⟨rfl, rfl, rfl, by rw [hsz]; omega, fun k hk _ => hold k hk⟩, fun x hx => ⟨.inr ((hWr x).2 hx), by have := hb2 x hx; rw [hsz]; omega⟩, fun ok' _ _ => ?_⟩
    rw [hX, hnil]
    exact own_at h2 hu22 h8 (fun x hx => hold x (hb2 x hx))
  cases h with
  | nil hu => exact hnone none rfl rfl (len_nil _)
  | map hu hk hh' hkeys hkw hs hborn hclock hr =>
    rename_i kk ee r clock es dd
    have hl : es.size = dd.length := by
      have := hkeys.length_eq
      simpa using this
    have hrl : r < w.heap.size := (Array.getElem?_eq_some_iff.1 hh').1
    have hrne : Value.ownBlock (.slice sp sn sc) ≠ some r := fun e => hRd r (.inl (.inr hc)) ((hWr r).2 e)
    by_cases hdd : dd = []
    · subst hdd
      refine hnone (some r) rfl rfl ?_
      have := len_some (w.alloc (.cells #[.slice sp sn sc] 22)) r clock es hum ((hold r hrl).trans hh')
      rw [hl] at this
      exact this
    have ht : TagsAt Tryz.prog ok w 60 (.map (some r)) (.map dd) := .map hu hk hh' hkeys hkw hs hborn hclock hr
    have hokw : ∀ x, ok x → x < w.heap.size ∧ Value.ownBlock (.slice sp sn sc) ≠ some x := fun x hx => ⟨(hok x hx).1, fun e => (hok x hx).2 ((hWr x).2 e)⟩
    have htW : TagsAt Tryz.prog ok (w.alloc (.cells #[.slice sp sn sc] 22)) 60 (.map (some r)) (.map dd) := ht.mono (fun _ h => h) (fun x hx => hold x (hokw x hx).1) (fun x hx => by cases hx; exact hold r hrl)
    obtain ⟨_, _, hfew⟩ := zQK ht
    obtain ⟨DD, hown, hDs, hDk⟩ := tags_owns htW hum
    have hpos : 0 < dd.length := by cases dd with | nil => exact absurd rfl hdd | cons a l => simp
    refine appendEach_calls w b off sp sn sc (fun w' v => _ ∧ _) ((each_calls (w.alloc (.cells #[.slice sp sn sc] 22)) b off r dd.length w.heap.size DD (dd.map (·.1)) hDk hs (fun x => x = w.heap.size ∨ Value.ownBlock (.slice sp sn sc) = some x)
      (fun x hx => by rcases hx with rfl | hx; · rw [hsz]; omega
                      · have := hb2 x hx; rw [hsz]; omega)
      (fun hx => by rcases hx with h | h; · omega
                    · exact hbne h)
      (fun ws k wl => Fr (fun x => x = w.heap.size ∨ Value.ownBlock (.slice sp sn sc) = some x) ws wl ∧ ∃ v ty, wl.heap[w.heap.size]? = some (.cells #[v] ty (0, 0)) ∧ v.ownBlock ≠ some w.heap.size ∧ (∀ x, v.ownBlock = some x → x < wl.heap.size ∧ (ws.heap.size ≤ x ∨ Value.ownBlock (.slice sp sn sc) = some x)) ∧ yVA Tryz.prog (fun _ => False) wl 22 v (appD d2 ((dd.take k).map tb).flatten))
      ?_ ?_ ?_ hWc hown (by rw [hDs]; exact hpos) (by rw [hDs]; exact hfew) (by rw [hsz]; omega) (by rw [hsz]; omega)).mono ?_)
    · intro ws hws
      refine ⟨Fr.refl _ _, .slice sp sn sc, 22, ?_, fun e => by have := hb2 _ e; omega, fun x hx => ⟨?_, .inr hx⟩, ?_⟩
      · rw [hws.block _ (by rw [hsz]; omega), hBh]
      · have := hb2 x hx; have := hws.size; omega
      · refine own_at h2 hu22 h8 (fun x hx => ?_)
        have := hb2 x hx
        rw [hws.block x (by rw [hsz]; omega), hold x this]
    · exact fun ws k wl h => h.1
    · rintro ws k wl hws hk' ⟨hfr, v, ty, hBc, hvB, hvb, hov⟩
      rw [List.length_map] at hk'
      have hkd : (dd.map (·.1)).getD k 0 = (dd[k]).1 := by simp [List.getD_eq_getElem?_getD, hk']
      rw [hkd]
      have hmem : ((dd[k]).1, (dd[k]).2) ∈ dd := List.getElem_mem hk'
      obtain ⟨vk, hrep, hlook⟩ := tags_lookup ht hum hmem
      have hwl : ∀ x, x < w.heap.size → Value.ownBlock (.slice sp sn sc) ≠ some x → wl.heap[x]? = w.heap[x]? := fun x hx hn => by
        rw [hfr.block x (by have := hws.size; rw [hsz] at this; omega) (fun hm => hm.elim (fun h => by omega) hn), hws.block x (by rw [hsz]; omega), hold x hx]
      refine ⟨vk, hlook wl (hwl r hrl hrne), ?_⟩
      obtain ⟨val, hval⟩ : KOk .byts (dd[k]).2 := qUG hby hrep
      have hnk := hkw _ hmem
      have h0 : 0 ≤ (dd[k]).1 := by simp [Lit.wf, IntKind.min, IntKind.max, IntKind.signed, IntKind.bits] at hnk; omega
      have hdl : (val.getD []).length < 4294967296 := by have := hp.2 _ hmem; rw [hval, yHA] at this; exact this
      have htk : ((dd.take (k + 1)).map tb).flatten = ((dd.take k).map tb).flatten ++ tb dd[k] := by
        rw [List.take_succ_eq_append_getElem hk', List.map_append, List.flatten_append]; simp
      have hlim : (appD d2 ((dd.take k).map tb).flatten).asStr.length + (tagB (dd[k]).1.toNat (val.getD [])).length ≤ lim := by
        have htb : tb dd[k] = tagB (dd[k]).1.toNat (val.getD []) := by rw [tb, hval, yTA]
        have hsplit : ((mapL (.map dd)).map tb).flatten = ((dd.take (k + 1)).map tb).flatten ++ ((dd.drop (k + 1)).map tb).flatten := by
          rw [← List.flatten_append, ← List.map_append, List.take_append_drop]; rfl
        have h1 := hp.1
        have hps : 0 < ((mapL (.map dd)).map tb).flatten.length := by
          rw [hsplit, htk, htb, tagB]
          simp only [List.length_append]
          have := @qRC (dd[k]).1.toNat
          omega
        rw [hX, xDG _ hps, hsplit, htk, htb] at h1
        rw [qME]
        simp only [List.length_append] at h1 ⊢
        omega
      have hev := ev84 (key := (dd[k]).1) (val := val) (acc := appD d2 ((dd.take k).map tb).flatten) h0 hdl hlim
      rw [← hval] at hev
      refine (box_calls (C := CU) (ok := ok) nmU ordU ctrU boxU hby hBc (own_at hov hu22 h8 (fun _ _ => rfl)) (hrep.mono (fun _ h => h) (fun x hx => hwl x (hokw x hx).1 (hokw x hx).2)) hnk (fun x hx => ?_) hvB hev.1).mono ?_
      · obtain ⟨q1, q2⟩ := hokw x hx
        have h3 := hws.size; have h4 := hfr.size; rw [hsz] at h3
        refine ⟨by omega, by omega, fun e => ?_⟩
        rcases (hvb x e).2 with h | h
        · omega
        · exact q2 h
      · rintro e w' ⟨rfl, hf2, v', ty', hB', hvB', hvb', ho'⟩
        refine ⟨rfl, ⟨hf2.os.trans hfr.os, hf2.tape.trans hfr.tape, hf2.output.trans hfr.output, Nat.le_trans hfr.size hf2.size, fun x hx hm => ?_⟩, v', ty', hB', hvB', fun x hx => ?_, ?_⟩
        · rw [hf2.block x (Nat.lt_of_lt_of_le hx hfr.size) (fun hm2 => by
            rcases hm2 with h | h
            · exact hm (.inl h)
            · rcases (hvb x h).2 with h | h
              · omega
              · exact hm (.inr h)), hfr.block x hx hm]
        · obtain ⟨q1, q2⟩ := hvb' x hx
          refine ⟨q1, ?_⟩
          rcases q2 with h | h
          · exact .inl (Nat.le_trans hfr.size h)
          · exact (hvb x h).2
        · have := ho' (fun _ => False)
          rw [hev.2, yXC, ← htk] at this
          exact this
    · rintro e w' ⟨rfl, ws, hws, hfr, v, ty, hBc, hvB, hvb, hov⟩
      refine ⟨rfl, v, cellB hBc, ⟨hfr.os.trans hws.os, hfr.tape.trans hws.tape, hfr.output.trans hws.output, ?_, fun x hx hm => ?_⟩, fun x hx => ?_, fun ok' _ _ => ?_⟩
      · have h3 := hws.size; have h4 := hfr.size; rw [hsz] at h3; omega
      · have h3 := hws.size; rw [hsz] at h3
        rw [hfr.block x (by omega) (fun h => by
          rcases h with h | h
          · omega
          · exact hm ((hWr x).2 h)), hws.block x (by rw [hsz]; omega), hold x hx]
      · obtain ⟨q1, q2⟩ := hvb x hx
        refine ⟨?_, q1⟩
        rcases q2 with h | h
        · have h3 := hws.size; rw [hsz] at h3; exact .inl (by omega)
        · exact .inr ((hWr x).2 h)
      · rw [hX]
        rw [List.length_map, List.take_length] at hov
        exact own_at hov hu22 h8 (fun _ _ => rfl)
end Go.Proofs
