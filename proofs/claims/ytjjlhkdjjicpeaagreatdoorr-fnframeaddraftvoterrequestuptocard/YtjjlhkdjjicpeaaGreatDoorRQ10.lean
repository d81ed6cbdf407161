/- Part of a verified symbolic run of the program's code (no condition of its own). -/
import Derived.Test.YtjjlhkdjjicpeaaGreatDoorRQ9
import Derived.Test.YtjjlhkdjjicpeaaGreatDoorRProg
import Derived.KernelRfl
import Derived.WalkKit
import Derived.Maps.AppendAt
set_option linter.unusedVariables false
set_option linter.unusedSimpArgs false
open Go Go.Dx Go.Mx Go.RowKit
namespace Go.Proofs
noncomputable def i80 : TypeInfo := (Tryz.prog.info? 80).get (by kernel_rfl)
theorem info80 : Tryz.prog.info? 80 = some i80 := by kernel_rfl
theorem size80 : i80.size = 16 := by kernel_rfl
theorem agg80 : agg Tryz.prog 80 = true := by kernel_rfl
theorem info5 : (Tryz.prog.info? 5).map (fun i => (i.zero, i.size, i.bytes)) = some (some (.int .u8 0), 1, 1) := by kernel_rfl
theorem und24 : Tryz.prog.underlying 24 = some (.slice 5) := by kernel_rfl
set_option maxHeartbeats 2000000 in
set_option maxRecDepth 100000 in
theorem uuid_calls (w : World) (sp : Option Addr) (sn sc m : Nat) (xs : List Value) (x0 x1 x2 x3 x4 x5 x6 x7 x8 x9 x10 x11 x12 x13 x14 x15 : Int) (hown : w.ownsRow 0 5 1 (.slice sp sn sc) m xs) (hm : m + 16 ≤ 140737488355328) :
   Calls Tryz.prog 198 #[.slice sp sn sc, .agg #[.int .u8 x0, .int .u8 x1, .int .u8 x2, .int .u8 x3, .int .u8 x4, .int .u8 x5, .int .u8 x6, .int .u8 x7, .int .u8 x8, .int .u8 x9, .int .u8 x10, .int .u8 x11, .int .u8 x12, .int .u8 x13, .int .u8 x14, .int .u8 x15]] w fun e w' => ∃ v', e = .returned v' ∧ w'.ownsRow 0 5 1 v' (m + 16) (xs ++ [.int .u8 x0, .int .u8 x1, .int .u8 x2, .int .u8 x3, .int .u8 x4, .int .u8 x5, .int .u8 x6, .int .u8 x7, .int .u8 x8, .int .u8 x9, .int .u8 x10, .int .u8 x11, .int .u8 x12, .int .u8 x13, .int .u8 x14, .int .u8 x15]) ∧ (w.alloc (.cells #[.int .u8 x0, .int .u8 x1, .int .u8 x2, .int .u8 x3, .int .u8 x4, .int .u8 x5, .int .u8 x6, .int .u8 x7, .int .u8 x8, .int .u8 x9, .int .u8 x10, .int .u8 x11, .int .u8 x12, .int .u8 x13, .int .u8 x14, .int .u8 x15] 80)).grownBy w' (Value.slice sp sn sc).ownBlock ∧ (v' = .slice none 0 0 → False) ∧ (v'.ownBlock = (Value.slice sp sn sc).ownBlock ∨ v'.ownBlock = some (w.heap.size + 1)) := by
  obtain ⟨i0, hi, hz0, hz1, hz2⟩ : ∃ i, Tryz.prog.info? 5 = some i ∧ i.zero = some (.int .u8 0) ∧ i.size = 1 ∧ i.bytes = 1 := by
    have := info5
    cases h : Tryz.prog.info? 5 with
    | none => rw [h] at this; cases this
    | some i => rw [h] at this; simp at this; exact ⟨i, rfl, this.1, this.2.1, this.2.2⟩
  go_enter Tryz.func198, Tryz.ntmps198
  go_wp2_with (first
    | (at_builtin; refine wpList_append_own_at _ rfl _ _ 24 rfl 0 5 i0 (.int .u8 0) 1 1 und24 hi hz0 hz1 hz2 rfl (by decide) _ m xs rfl (hown.alloc _) ⟨w.heap.size, 0, none⟩ 16 16 [.int .u8 x0, .int .u8 x1, .int .u8 x2, .int .u8 x3, .int .u8 x4, .int .u8 x5, .int .u8 x6, .int .u8 x7, .int .u8 x8, .int .u8 x9, .int .u8 x10, .int .u8 x11, .int .u8 x12, .int .u8 x13, .int .u8 x14, .int .u8 x15] rfl rfl (fun j u h => cells_new w [.int .u8 x0, .int .u8 x1, .int .u8 x2, .int .u8 x3, .int .u8 x4, .int .u8 x5, .int .u8 x6, .int .u8 x7, .int .u8 x8, .int .u8 x9, .int .u8 x10, .int .u8 x11, .int .u8 x12, .int .u8 x13, .int .u8 x14, .int .u8 x15] 80 j u h) (by simp [Value.oneCell']) (by unfold maxLen; omega) (by omega) (Nat.zero_le _) ?_; intro v' w' h1 h2 h3 h4)
    | go_in)
  go_ret
  exact ⟨v', rfl, h1, h2, fun e => by have := (h3.1 e).2; omega, h4.imp (fun h => h) (fun h => by rw [h]; simp)⟩
theorem tys80 : tys Tryz.prog 80 = List.replicate 16 5 := by kernel_rfl
theorem und5 : Tryz.prog.underlying 5 = some (.int .u8) := by kernel_rfl
theorem len16 {s : List UInt8} (h : s.length = 16) : ∃ y0 y1 y2 y3 y4 y5 y6 y7 y8 y9 y10 y11 y12 y13 y14 y15, s = [y0, y1, y2, y3, y4, y5, y6, y7, y8, y9, y10, y11, y12, y13, y14, y15] := by
  match s, h with
  | [y0, y1, y2, y3, y4, y5, y6, y7, y8, y9, y10, y11, y12, y13, y14, y15], _ => exact ⟨y0, y1, y2, y3, y4, y5, y6, y7, y8, y9, y10, y11, y12, y13, y14, y15, rfl⟩
theorem hand198 : qRA Tryz.prog X side 198 ⟨[.own 24, .val 80], .own 24, 9, true⟩ := by
  refine ⟨yTE (by kernel_rfl), fun ok w vs ds hA hok hRd hp => ?_⟩
  have hby : isBy Tryz.prog 24 = true := by kernel_rfl
  have h8 : isU8 Tryz.prog 5 = true := by simp [isU8]
  obtain ⟨i5, hi5, hz1⟩ : ∃ i, Tryz.prog.info? 5 = some i ∧ i.size = 1 := by
    have := info5
    cases h : Tryz.prog.info? 5 with
    | none => rw [h] at this; cases this
    | some i => rw [h] at this; simp at this; exact ⟨i, rfl, this.2.1⟩
  obtain @⟨⟩ | @⟨_, v1, d1, _, _, _, h1, hA⟩ := hA
  obtain @⟨⟩ | @⟨_, v2, d2, _, _, _, h2, hA⟩ := hA
  cases hA
  cases h1 with
  | own h1 =>
  cases h2 with
  | val h2 =>
  obtain ⟨s, hl, rfl, rfl⟩ := rep_u16 agg80 tys80 und5 h2
  replace hp : (X 9 [d1, .row (s.map fun x => .int (x.toNat : Int))]).len ≤ lim := hp rfl
  rw [X_9, rowBytes_of, yKG] at hp
  have hb1 : ∀ x, v1.ownBlock = some x → x < w.heap.size := fun x hx => own_lt h1 x hx
  have hWr : ∀ x, Wr w [AK.own 24, .val 80] [v1, .agg (u8V s).toArray] x ↔ v1.ownBlock = some x := fun x => by
    simp [Wr, wrA]
  obtain ⟨xs, hxs, hown⟩ := own_bytes und24 und5 hi5 hz1 h1
  obtain ⟨sp, sn, sc, rfl⟩ := own_slice h1
  obtain ⟨y0, y1, y2, y3, y4, y5, y6, y7, y8, y9, y10, y11, y12, y13, y14, y15, rfl⟩ := len16 hl
  have hlim : xs.length + 16 ≤ 140737488355328 := by
    rw [hl, hxs] at hp
    unfold lim at hp; omega
  refine (uuid_calls w sp sn sc xs.length (u8V xs) _ _ _ _ _ _ _ _ _ _ _ _ _ _ _ _ hown hlim).mono fun e w' he => ?_
  obtain ⟨v', rfl, hown', hg, hnn, hblk⟩ := he
  have hsz : (w.alloc (.cells (u8V [y0, y1, y2, y3, y4, y5, y6, y7, y8, y9, y10, y11, y12, y13, y14, y15]).toArray 80)).heap.size = w.heap.size + 1 := by simp
  refine ⟨v', rfl, ⟨hg.os, hg.tape, hg.output, ?_, fun k hk hm => ?_⟩, fun x hx => ⟨?_, ?_⟩, fun ok' _ _ => ?_⟩
  · have := hg.size; simp at this; omega
  · rw [hg.block k (by simp; omega) (fun e => hm ((hWr k).2 e.symm)), (MapKept.heap_alloc w _).2 k hk]
  · rcases hblk with h | h
    · exact .inr ((hWr x).2 (h ▸ hx))
    · rw [h] at hx; cases hx; exact .inl (by omega)
  · exact (hown'.lt x hx).2
  · rw [X_9, rowBytes_of]
    have : u8V xs ++ u8V [y0, y1, y2, y3, y4, y5, y6, y7, y8, y9, y10, y11, y12, y13, y14, y15] = u8V (d1.asStr ++ [y0, y1, y2, y3, y4, y5, y6, y7, y8, y9, y10, y11, y12, y13, y14, y15]) := by
      rw [u8V, u8V, u8V, ← List.map_append, hxs]
    exact own_mk und24 und5 hi5 hz1 hnn (s := d1.asStr ++ [y0, y1, y2, y3, y4, y5, y6, y7, y8, y9, y10, y11, y12, y13, y14, y15]) (by
      rw [List.length_append, ← this, hxs]; exact hown')
end Go.Proofs
