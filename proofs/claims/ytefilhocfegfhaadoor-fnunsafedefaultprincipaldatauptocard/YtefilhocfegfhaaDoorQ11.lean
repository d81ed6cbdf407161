/- Part of a verified symbolic run of the program's code (no condition of its own). -/
import Derived.Test.YtefilhocfegfhaaDoorQ10
set_option linter.unusedVariables false
set_option linter.unusedSimpArgs false
noncomputable section
open Go Go.Dx Go.Mx Go.RowKit
namespace Go.Proofs
open Go.Shelf Go.RowKit Go.Lib Go.Sort
set_option maxHeartbeats 2000000 in
set_option maxRecDepth 100000 in
theorem each_calls86 (W : World) (b off r n B : Nat) (D : DataW Value) (ks : List Int) (hD : ∀ x, x ∈ ks ↔ Maps.has D (.int .u32 x) = true) (hks : ks.Pairwise (· < ·)) (M : Nat → Prop) (hM : ∀ x, M x → x < W.heap.size) (hMb : ¬ M b)
    (R : World → Nat → World → Prop) (hR0 : ∀ ws, Below W.heap.size W ws → R ws 0 ws) (hRf : ∀ ws k wl, R ws k wl → Fr M ws wl)
    (hRs : ∀ ws k wl, Below W.heap.size W ws → k < ks.length → R ws k wl → ∃ vk, (Instr.lookup 59 (.map (some r)) (.int .u32 (ks.getD k 0)) false).run Tryd.prog wl = .ok vk wl ∧ Calls Tryd.prog 86 #[.int .u32 (ks.getD k 0), vk, .pointer (some ⟨B, 0, none⟩)] wl fun e w' => e = .returned (.tuple #[]) ∧ R ws (k + 1) w') (hc : W.cell? ⟨b, off, none⟩ = some (.map (some r))) (hown : W.ownsMap Tryd.prog 55 zOI r n D) (hn : 0 < Maps.size D) (hmax : Maps.size D ≤ 4294967296) (hb : b < W.heap.size) (hB : B < W.heap.size) :
    Calls Tryd.prog 80 #[.pointer (some ⟨b, off, none⟩), .func (.func 86) #[] #[.pointer (some ⟨B, 0, none⟩)]] W fun e w' => e = .returned (.tuple #[]) ∧ ∃ ws, Below W.heap.size W ws ∧ R ws ks.length w' := by
  obtain ⟨i0, hi, hz0, hz1, hz2⟩ : ∃ i, Tryd.prog.info? 55 = some i ∧ i.zero = some (.int .u32 0) ∧ i.size = 1 ∧ i.bytes = 4 := by
    have := info55
    cases h : Tryd.prog.info? 55 with
    | none => rw [h] at this; cases this
    | some i => rw [h] at this; simp at this; exact ⟨i, rfl, this.1, this.2.1, this.2.2⟩
  have hum : Tryd.prog.underlying 59 = some (.map 55 22) := by kernel_rfl
  have hrl := hown.lt
  go_enter Tryd.func80, Tryd.ntmps80
  go_wp2_with (first
    | (at_len; refine wpList_len_own _ rfl _ 59 rfl 55 22 hum zOI r n D rfl hown ?_)
    | (at_make; refine wpList_make_own _ rfl _ _ 142 rfl W.heap.size 55 i0 (.int .u32 0) 1 info142 hi hz0 hz1 _ _ _ (Maps.size D) rfl rfl rfl (by rw [hz2]; omega) (by unfold maxLen; omega) (Nat.le_refl _) ?_; intro w1 hrow1 hg1; have hcA := fun o => cell_grown_alloc hg1 hb hc o)
    | (at_range; refine wpList_range_own _ rfl _ 59 rfl 55 22 law55 hum zOI r n D rfl ((hown.kept hg1 (by simp)).alloc _) ?_; intro w0 hrg0 hg0 hs0)
    | go_in)
  go_frame
  obtain ⟨OB, hOB⟩ : ∃ x, x = w1.heap.size := ⟨_, rfl⟩
  obtain ⟨IT, hIT⟩ : ∃ x, x = (w1.alloc (.cells #[.slice (some ⟨W.heap.size, 0, none⟩) 0 (Maps.size D)] 142)).heap.size := ⟨_, rfl⟩
  rw [← hIT] at hrg0 ⊢
  rw [← hOB]
  have hITOB : IT ≠ OB := by rw [hIT, hOB]; simp
  have hOBN : W.heap.size ≤ OB := by rw [hOB]; exact hg1.size
  have hOB0 : w0.heap[OB]? = some (.cells #[.slice (some ⟨W.heap.size, 0, none⟩) 0 (Maps.size D)] 142 (0, 0)) := by
    rw [hg0.block OB (by rw [hOB]; simp) (by simp), hOB]
    exact (MapKept.heap_alloc w1 _).1
  have hrow0 : w0.ownsRow W.heap.size 55 1 (.slice (some ⟨W.heap.size, 0, none⟩) 0 (Maps.size D)) 0 [] := (hrow1.alloc _).kept hg0 (Or.inr (by simp [Value.ownBlock]))
  have hbel0 : Below W.heap.size W w0 := ((((Below.refl _ _).grown hg1 (Nat.le_refl _) (fun j hj => by cases hj)).alloc hg1.size _).grown hg0 (by have := hg1.size; simp; omega) (fun j hj => by cases hj))
  have hSOB : OB ≠ W.heap.size := fun e => by
    have h1 := (hrow1.lt W.heap.size rfl).2
    omega
  have hITN : W.heap.size ≤ IT := by rw [hIT]; have := hg1.size; simp; omega
  clear hOB hIT hs0
  go_loopw [] (fun wr => ∃ left cnt zs vS, wr.ranges Tryd.prog 55 zOI r IT n D left cnt ∧ wr.heap[OB]? = some (.cells #[vS] 142 (0, 0)) ∧ wr.ownsRow W.heap.size 55 1 vS zs.length (zs.map (Value.int .u32)) ∧ vS.ownBlock ≠ some OB ∧ vS ≠ .slice none 0 0 ∧
      Coll D left zs ∧ zs.length + cnt ≤ Maps.size D ∧ Below W.heap.size W wr)
    (fun wr => wr.rangeLeft r IT)
  case atStart =>
    refine ⟨_, _, [], .slice (some ⟨W.heap.size, 0, none⟩) 0 (Maps.size D), hrg0, ?_, ?_, ?_, by simp, Coll.start D, by simp, ?_⟩
    · exact hOB0
    · exact hrow0
    · simp only [Value.ownBlock]; exact fun e => hSOB (Option.some.inj e).symm
    · exact hbel0
  case round =>
    obtain ⟨left, cnt, zs, vS, hrg, hOBh, hrow, hvOB, hnn, hC, hcs, hnx⟩ := hrel
    have hOBc : wr.cell? ⟨OB, 0, none⟩ = some vS := cellB hOBh
    have hOBl : OB < wr.heap.size := (Array.getElem?_eq_some_iff.1 hOBh).1
    go_wp2_with (first
      | (at_next; refine wpList_next_ranges _ rfl _ rfl 55 law55 zOI (Value.int .u32) (fun c : Value => c) (fun key kl hk => by obtain ⟨x, hx, _⟩ := Maps.keyOf_int_inv Tryd.underlying55 hk; exact ⟨x, hx⟩) (fun v y hv => ⟨v, rfl⟩) r IT n _ _ _ rfl hrg ?_ ?_)
      | go_in)
    · intro hc0 hl0
      obtain ⟨g, cap, rfl⟩ := rowShape hrow hnn
      have hperm : ks.Perm zs := (List.perm_ext_iff_of_nodup (hks.imp (fun {a b} h => by omega)) hC.1).2 (fun a => by rw [hD a, hC.2.1 a, hl0]; simp)
      have hgOB : OB ≠ g := by simpa [Value.ownBlock] using hvOB.symm
      have hgl : g < wr.heap.size := (hrow.lt g rfl).2
      have hH := holdsU hrow
      have hfew : zs.length < 4611686018427387904 := by omega
      have hsort := sorted_facts (sort_u32 g cap OB zs ks wr hfew hH hgl hOBc hOBl hgOB hperm hks) hH hgl hOBc hOBl hgOB hperm.length_eq
      have hgN : W.heap.size ≤ g := (hrow.lt g rfl).1
      have hbl := hb
      have hlen := hperm.length_eq
      have hbc : ∀ ws, Below W.heap.size W ws → ws.cell? ⟨b, off, none⟩ = some (.map (some r)) := fun ws h => (h.cell (by exact hb)).trans hc
      go_wp2_with (first | (go_at_call 112; refine hsort.mono ?_; rintro e ws ⟨rfl, hSo, hSc, hSg⟩; have hbs := hnx.grown hSg hnx.size (fun j hj => by cases hj; exact hgN)) | go_in)
      rw [← hlen]
      have hkfew : ks.length < 4611686018427387904 := by omega
      clear hlen
      go_loopw [39] (fun i wl => ∃ k : Nat, k ≤ ks.length ∧ i = .int .i64 k ∧ R ws k wl)
        (fun i _ => ks.length - (intOf i).toNat)
      case atStart => exact ⟨0, Nat.zero_le _, rfl, hR0 ws hbs⟩
      case round =>
        obtain ⟨k, hk, rfl, hRk⟩ := hrel
        have hfl := hRf ws k wr hRk
        have hgs : g < ws.heap.size := Nat.lt_of_lt_of_le hgl hSg.size
        have hkc : k < ks.length → wr.cell? ⟨g, k, none⟩ = some (.int .u32 (ks.getD k 0)) := fun h => (cell_of_block (hfl.block g hgs (fun hm => by have := hM g hm; omega))).trans (hSc k h)
        have hbcl : wr.cell? ⟨b, off, none⟩ = some (.map (some r)) := (cell_of_block (hfl.block b (Nat.lt_of_lt_of_le hb hbs.size) hMb)).trans (hbc ws hbs)
        by_cases hlt : k < ks.length
        · obtain ⟨vk, hlook, hcall⟩ := hRs ws k wr hbs hlt hRk
          have hkc1 := hkc hlt
          clear hkc hSc
          generalize ks.getD k 0 = xk at hkc1 hlook hcall
          go_wp2_with (first | (go_at_call 86; refine hcall.mono ?_; rintro e w4 ⟨rfl, hR4⟩) | go_in)
          go_roundw
          case rel => exact ⟨k + 1, by omega, by go_num, hR4⟩
          case measure => simp [intOf]; omega
        · have hkl : k = ks.length := by omega
          subst hkl
          clear hkc hSc
          go_wp2
          go_end0
          exact ⟨rfl, ws, hbs, hRk⟩
    · intro x c kl yd yp w2 cnt2 hkey hlk hv hat hrg2 hlt hg2 hs2 hen
      have hOB2 : w2.heap[OB]? = some (.cells #[vS] 142 (0, 0)) := (hg2.block OB hOBl (by simpa using hITOB.symm)).trans hOBh
      have hOBc2 : w2.cell? ⟨OB, 0, none⟩ = some vS := cellB hOB2
      have hrow2 := hrow.kept hg2 (Or.inr (row_ne_iter hrow hrg).symm)
      clear hs2
      go_wp2_with (first
        | (at_builtin; refine wpList_append_own _ rfl _ _ 142 rfl W.heap.size 55 i0 (.int .u32 0) 1 4 info142 hi hz0 hz1 hz2 rfl (by decide) _ _ _ rfl (hrow2.alloc _) ⟨w2.heap.size, 0, none⟩ 1 1 [.int .u32 x] rfl rfl (cell_one_new _ _ _) (by simp [Value.oneCell']) (by unfold maxLen at *; omega) (by omega) (by have := hnx.size; have := hg2.size; simp; omega) ?_; intro v' w3 hown' hg3 hnil3; obtain ⟨g3, cap3, rfl⟩ := rowShape hown' (fun h => by have := (hnil3.1 h).2; omega); have hOB3 := blockOB hg3 hOB2 hvOB; have hOBc3 := cellB hOB3; have hOBf3 := frozB hOB3)
        | go_in)
      have hrg3 := (hrg2.alloc (.cells #[Value.int .u32 x] 55)).kept hg3 (row_ne_low hrow2 hrl) (row_ne_iter hrow2 hrg2)
      have hg4 := grown_setCell (w := w3) (v := .slice (some ⟨g3, 0, none⟩) (zs.length + 1) cap3) hOB3
      have hrg4 := hrg3.kept hg4 (by simp; omega) (by simpa using hITOB)
      have hg3OB : g3 ≠ OB := by
        obtain ⟨cur, hcur⟩ := rowBlock hown'
        intro e
        rw [e, hOB3] at hcur
        cases hcur
      go_roundw
      case rel =>
        refine ⟨_, cnt2, zs ++ [x], .slice (some ⟨g3, 0, none⟩) (zs.length + 1) cap3, hrg4, setCell_block hOB3, ?_, by simpa [Value.ownBlock] using hg3OB, by simp, hC.step hkey hlk, by simp; omega, ?_⟩
        · have := hown'.kept hg4 (Or.inr (by simpa [Value.ownBlock] using hg3OB))
          simpa using this
        · exact (((hnx.grown hg2 hnx.size (fun j hj => by cases hj; exact hITN)).alloc (by have := hnx.size; have := hg2.size; omega) _).grown hg3 (by have := hnx.size; have := hg2.size; simp; omega) (fun j hj => (hrow2.lt j hj).1)).grown hg4 (by have := hnx.size; have := hg2.size; have := hg3.size; simp at this; omega) (fun j hj => by cases hj; exact hOBN)
      case measure => rw [hrg4.left_eq, hrg.left_eq]; exact hlt
set_option maxHeartbeats 2000000 in
set_option maxRecDepth 100000 in
theorem each_none86 (w : World) (b off B : Nat) (m : Option Nat) (hc : w.cell? ⟨b, off, none⟩ = some (.map m)) (hlen : (Builtin.len_ #[59] 3 #[.map m]).run Tryd.prog w = .ok (goInt 0) w) :
    Calls Tryd.prog 80 #[.pointer (some ⟨b, off, none⟩), .func (.func 86) #[] #[.pointer (some ⟨B, 0, none⟩)]] w fun e w2 => e = .returned (.tuple #[]) ∧ w2 = w := by
  go_enter Tryd.func80, Tryd.ntmps80
  go_wp2
  refine bodyPost_ret (results_none rfl _ _ _) rfl ?_
  exact ⟨rfl, rfl⟩
theorem ea86 : EachOk Tryd.prog 80 86 59 55 := fun W b off r n B D ks hD hks M hM hMb R hR0 hRf hRs hc hown hn hmax hb hB => each_calls86 W b off r n B D ks hD hks M hM hMb R hR0 hRf hRs hc hown hn hmax hb hB
theorem no86 : EachNo Tryd.prog 80 86 59 3 := fun w b off B q hc hlen => each_none86 w b off B q hc hlen
theorem tr86 : zXI CE 22 25 86 deC osC = true := by kernel_rfl
def gsE : List Nat := [86]
def ctrE : Ctr := ⟨[.mcell 141 59, .ccell gsE 4 25], .ccell 25, 300, true⟩
theorem handE : xDA Tryd.prog X side 80 ctrE := by
  have hno : ∀ g, gsE.elem g = true → EachNo Tryd.prog 80 g 59 3 := fun g hg => by
    have hg : g ∈ gsE := by simpa using hg
    simp only [gsE, List.mem_cons, List.not_mem_nil, or_false] at hg
    rcases hg with rfl
    · exact no86
  have hea : ∀ g, gsE.elem g = true → EachOk Tryd.prog 80 g 59 55 := fun g hg => by
    have hg : g ∈ gsE := by simpa using hg
    simp only [gsE, List.mem_cons, List.not_mem_nil, or_false] at hg
    rcases hg with rfl
    · exact ea86
  have htr : ∀ g, gsE.elem g = true → zXI CE 22 25 g deC osC = true := fun g hg => by
    have hg : g ∈ gsE := by simpa using hg
    simp only [gsE, List.mem_cons, List.not_mem_nil, or_false] at hg
    rcases hg with rfl
    · exact tr86
  exact each_ctr (C := CE) (f := 80) (m := 59) (u := 55) (tb := 22) (tU := 25) (pt := 141) (ti := 3) (gs := gsE) nmE ordE (fun f c h => by cases h) (zMD (by kernel_rfl)) (by kernel_rfl) (by kernel_rfl) (by kernel_rfl) hno hea htr len_nil (fun w r clock es h => len_some w r clock es (by kernel_rfl) h)
end Go.Proofs
