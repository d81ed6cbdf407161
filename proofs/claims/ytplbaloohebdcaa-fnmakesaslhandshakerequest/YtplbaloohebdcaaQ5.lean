/- Part of a verified symbolic run of the program's code (no condition of its own). -/
import Derived.Test.YtplbaloohebdcaaQ4
import Derived.ChangeArms
import Derived.ChangeShapes
set_option linter.unusedVariables false
set_option linter.unusedSimpArgs false
namespace Go.Mx
open Go Go.Dx

theorem usual_eq (f : Fl) (t : T) : usual f t = if f.kind = 0 then decide (t.n % 2 = f.dflt) else if f.kind = 7 then (t.S.take 16).all (· == 0) else
    if f.kind = 8 ∨ f.kind = 9 then (if 0 ≤ f.null then t.null else t.S.length == 0) else if f.kind = 11 then t.L.length == 0 else
    if f.kind = 10 then usualS f.sub t else Fixed t.n (width f.kind).toNat == Fixed f.dflt (width f.kind).toNat := by
  cases f; rw [usual]; rfl
theorem usualS_eq (fs : Option (List Fl)) (t : T) : usualS fs t = (usualL (fs.getD []) 0 t && (unknown (fs.getD []) t.u).length == 0) := by
  cases fs <;> simp [usualS, usualL]
theorem usualL_fold (t : T) : ∀ (l : List Fl) (i : Nat) (s : Bool), foldI (fun i g s => if s then true else !usual g (at' t i)) i l s = (s || !usualL l i t)
  | [], i, s => by simp [foldI, usualL]
  | g :: r, i, s => by
    rw [foldI, usualL_fold t r, usualL]
    cases s <;> cases usual g (at' t i) <;> simp
theorem zeros_fold : ∀ (l : List UInt8) (i : Nat) (s : Bool), foldI (fun i (b : UInt8) s => if s then true else if i < 16 then ((b.toNat : Int) != 0) else false) i l s = (s || !(l.take (16 - i)).all (· == 0))
  | [], i, s => by simp [foldI]
  | g :: r, i, s => by
    rw [foldI, zeros_fold r]
    by_cases h : i < 16
    · have e : (g :: r).take (16 - i) = g :: r.take (16 - (i + 1)) := by
        have e : 16 - i = (16 - (i + 1)) + 1 := by omega
        rw [e, List.take_succ_cons]
      rw [if_pos h, e]
      have e2 : ((g.toNat : Int) != 0) = !(g == 0) := by
        by_cases hg : g = 0
        · subst hg; rfl
        · have h1 : g.toNat ≠ 0 := fun h => hg (UInt8.toNat_inj.1 (by rw [h]; rfl))
          have h2 : ((g.toNat : Int) != 0) = true := bne_iff_ne.2 (by omega)
          have h3 : (g == 0) = false := beq_eq_false_iff_ne.2 hg
          rw [h2, h3]; rfl
      rw [e2, List.all_cons]
      cases s <;> cases (g == 0) <;> cases (List.take (16 - (i + 1)) r).all (· == 0) <;> rfl
    · have e : 16 - i = 0 := by omega
      have e1 : 16 - (i + 1) = 0 := by omega
      rw [if_neg h, e, e1]
      cases s <;> simp

theorem ev50 (f : Fl) (t : T) (n : Nat) (h : Pre (n + 1) 50 [f.d, t.d]) : obsHold X (Pre n) ob50 [f.d, t.d] ∧ de50.eval X [f.d, t.d] = X 50 [f.d, t.d] := by
  obtain ⟨hm, hs⟩ := h
  have hm := hm rfl
  rw [meas_50, toF_d] at hm
  rw [side_50, toF_d] at hs
  obtain ⟨s1, s2⟩ := wfFs_l (wfF_sub hs)
  have f1 : Folds X [f.d, t.d] 2 (.f (.get 1) [(.v 1)]) [(.k (.bool false))] [(.f .ite [(.v 4), (.k (.bool true)), (.f .ite [(.f .ltI [(.v 2), (.k (.int 16))]), (.f .neI [(.f (.get 0) [(.v 3)]), (.k (.int 0))]), (.k (.bool false))])])] (fun b : UInt8 => .int b.toNat) (fun s : Bool => [.bool s]) (fun i (b : UInt8) s => if s then true else if i < 16 then ((b.toNat : Int) != 0) else false) (t.s.getD []) false := by
    refine ⟨rfl, ?_, rfl, fun i x a hx _ => ?_⟩
    · simp only [ev_f, evs_cons, evs_nil, ev_v, List.getD_cons_zero, List.getD_cons_succ, fe_get, cells_T, rows_encB]
    · simp only [evs_cons, evs_nil, ev_v, ev_k, ev_f, List.cons_append, List.nil_append, List.getD_cons_succ, List.getD_cons_zero, fe_ite, fe_ltI, fe_get]
      have e0 : (D.int (x.toNat : Nat)).cells.getD 0 .nil = .int x.toNat := rfl
      rw [e0, fe_neI]
      by_cases h : i < 16
      · have : (i : Int) < 16 := by omega
        cases a <;> simp [h, this]
      · have : ¬ (i : Int) < 16 := by omega
        cases a <;> simp [h, this]
  have f2 : Folds X [f.d, t.d] 2 (.f (.get 7) [(.v 0)]) [(.k (.bool false))] [(.f .ite [(.v 4), (.k (.bool true)), (.f .not [(.f (.ext 50) [(.v 3), (.f (.ext 40) [(.v 1), (.v 2)])])])])] Fl.d (fun s : Bool => [.bool s]) (fun i g s => if s then true else !usual g (at' t i)) (f.sub.getD []) false := by
    refine ⟨rfl, ?_, rfl, fun i x a hx _ => ?_⟩
    · simp only [ev_f, evs_cons, evs_nil, ev_v, List.getD_cons_zero, fe_get, cells_F, List.getD_cons_succ, rows_encF]
    · simp only [evs_cons, evs_nil, ev_v, ev_k, ev_f, List.cons_append, List.nil_append, List.getD_cons_succ, List.getD_cons_zero, fe_ite, fe_ext, X_50, X_40, toT_d, toF_d, int_i, fe_not]
      cases a <;> rfl
  have ei : (if (f.kind == 8) = true then D.bool (f.kind == 8) else D.bool (f.kind == 9)) = D.bool (decide (f.kind = 8 ∨ f.kind = 9)) := by
    rw [← kind_tests]; split <;> rfl
  constructor
  · refine ⟨fun c0 => ⟨fun _ => ⟨f1.all fun k x hx => ⟨fun _ => trivial, trivial⟩, trivial⟩, fun c7 => ⟨fun _ => ⟨fun _ => ⟨fun _ => ⟨fun _ => ⟨⟨fun e => by simp [recur] at e, ?_⟩, trivial⟩, f2.all fun k x hx => ⟨fun _ => ⟨⟨fun _ => ?_, ?_⟩, ⟨fun e => by simp [recur] at e, ?_⟩, trivial⟩, trivial⟩, trivial⟩, fun _ => ⟨⟨fun e => by simp [recur] at e, trivial⟩, ⟨fun e => by simp [recur] at e, ?_⟩, ⟨fun e => by simp [recur] at e, trivial⟩, ⟨fun e => by simp [recur] at e, ?_⟩, ⟨fun e => by simp [recur] at e, trivial⟩, trivial⟩, trivial⟩, trivial⟩, trivial⟩, trivial⟩, trivial⟩
    · simp only [ev_f, evs_cons, evs_nil, ev_v, List.getD_cons_zero, List.getD_cons_succ, fe_get, cells_T, cells_F]
      rw [side_41, decF_enc]; exact wfF_sub hs
    · have hxm : x ∈ f.sub.getD [] := List.mem_of_getElem? hx
      simp only [ev_f, evs_cons, evs_nil, ev_v, List.getD_cons_zero, List.getD_cons_succ, List.cons_append, List.nil_append, fe_ext]
      rw [meas_50, toF_d]
      have := wFs_mem hxm
      have := wF_sub f
      omega
    · have hxm : x ∈ f.sub.getD [] := List.mem_of_getElem? hx
      simp only [ev_f, evs_cons, evs_nil, ev_v, List.getD_cons_zero, List.getD_cons_succ, List.cons_append, List.nil_append, fe_ext]
      rw [side_50, toF_d]; exact s2 x hxm
    · simp only [evs_cons, evs_nil, ev_v, List.getD_cons_zero, List.getD_cons_succ, List.cons_append, List.nil_append]
      rw [side_40, int_i]; omega
    · simp only [ev_f, evs_cons, evs_nil, ev_v, List.getD_cons_zero, List.getD_cons_succ, fe_get, cells_F, fe_ext, X_55, int_i]
      rw [side_45]; simp only [int_i]; exact width_le _
    · simp only [ev_f, evs_cons, evs_nil, ev_v, List.getD_cons_zero, List.getD_cons_succ, fe_get, cells_F, cells_T, fe_ext, X_55, int_i]
      rw [side_45]; simp only [int_i]; exact width_le _
  · rw [X_50, toT_d, toF_d, usual_eq]
    rw [de50, ev_f]
    simp only [evs_cons, evs_nil]
    have g0 : (DE.f (.get 0) [.v 0]).eval X [f.d, t.d] = .int f.kind := by
      simp only [ev_f, evs_cons, evs_nil, ev_v, List.getD_cons_zero, fe_get, cells_F]
    simp only [ev_f .ite, ev_f .eqI, ev_f .not, ev_f .leI, ev_f .len, evs_cons, evs_nil, g0, ev_k, fe_eqI, fe_ite, f1.fold 0, f2.fold 0, List.getD_cons_zero, usualL_fold, zeros_fold, ei]
    simp only [ev_f, ev_v, evs_cons, evs_nil, ev_k, List.getD_cons_zero, List.getD_cons_succ, fe_get, cells_T, cells_F, fe_band, band1, fe_eqI, fe_leI, fe_len, len_encB, len_encT, fe_ext, X_41, X_52, X_45, X_55, len_encU, nz_getD, decF_enc, decU_enc, asStr_encN, int_i, fe_ite, beq_dec, decide_eq_true_eq]
    by_cases c0 : f.kind = 0
    · rw [if_pos c0, if_pos c0]
    · rw [if_neg c0, if_neg c0]
      by_cases c7 : f.kind = 7
      · rw [if_pos c7, if_pos c7]
        show (if _ then _ else _) = D.bool ((t.s.getD []).take 16 |>.all (· == 0))
        simp only [Bool.false_or, Nat.sub_zero]
        cases ((t.s.getD []).take 16).all (· == 0) <;> rfl
      · rw [if_neg c7, if_neg c7]
        by_cases c8 : f.kind = 8 ∨ f.kind = 9
        · rw [if_pos c8, if_pos c8]
          by_cases h0 : 0 ≤ f.null
          · rw [if_pos h0, if_pos h0]
          · rw [if_neg h0, if_neg h0]
            congr 1
            show decide (((t.S.length : Nat) : Int) = 0) = _
            by_cases h : t.S.length = 0 <;> simp [h]
        · rw [if_neg c8, if_neg c8]
          by_cases c11 : f.kind = 11
          · rw [if_pos c11, if_pos c11]
            congr 1
            show decide (((t.L.length : Nat) : Int) = 0) = _
            by_cases h : t.L.length = 0 <;> simp [h]
          · rw [if_neg c11, if_neg c11]
            by_cases c10 : f.kind = 10
            · rw [if_pos c10, if_pos c10, usualS_eq]
              cases usualL (f.sub.getD []) 0 t
              · rfl
              · simp only [Bool.false_or, Bool.not_true, Bool.false_eq_true, if_false, Bool.true_and]
                congr 1
                by_cases h : (unknown (f.sub.getD []) t.u).length = 0 <;> simp [h]
            · rw [if_neg c10, if_neg c10]
end Go.Mx

namespace Go.Mx
open Go Go.Dx

theorem field_eq (f : Fl) (v : Int) (x : Bool) (t : T) : field f v x t = fieldB f.kind f.null f.of (Mx.null f v t) x t (fun y => partS f.sub v x y) := by
  cases f; rw [field]; rfl
theorem foldI_flat {A B : Type} (g : Nat → A → List B) : ∀ (l : List A) (i : Nat) (s : List B), foldI (fun i a s => s ++ g i a) i l s = s ++ (mapI g i l).flatten
  | [], i, s => by simp [foldI, mapI]
  | a :: l, i, s => by simp only [foldI, mapI]; rw [foldI_flat g l (i + 1)]; simp
theorem appd_N (a b : List UInt8) : (encN a).appd (encN b) = encN (a ++ b) := by
  rw [appd_encN, asStr_encN]
  cases b with
  | nil => exact .inl rfl
  | cons x b => exact .inr ⟨_, .inl rfl⟩
theorem mapI_take {A B : Type} (g : Nat → A → B) : ∀ (l : List A) (i k : Nat), mapI g i (l.take k) = (mapI g i l).take k
  | [], i, k => by simp [mapI]
  | a :: l, i, 0 => by simp [mapI]
  | a :: l, i, k + 1 => by simp [mapI, mapI_take g l (i + 1) k]
theorem mapI_get {A B : Type} (g : Nat → A → B) : ∀ (l : List A) (i k : Nat) (a : A), l[k]? = some a → (mapI g i l)[k]? = some (g (i + k) a)
  | [], i, k, a, h => by simp at h
  | x :: l, i, 0, a, h => by simp at h; subst h; simp [mapI]
  | x :: l, i, k + 1, a, h => by
    simp only [List.getElem?_cons_succ] at h
    simp only [mapI, List.getElem?_cons_succ]
    rw [mapI_get g l (i + 1) k a h]
    congr 2; omega
/-- what is written up to a row and with it is no longer than the whole -/
theorem flat_le {B : Type} {l : List (List B)} {k : Nat} {a : List B} (h : l[k]? = some a) : (l.take k).flatten.length + a.length ≤ l.flatten.length := by
  have e : l = l.take k ++ a :: l.drop (k + 1) := by
    obtain ⟨h1, h2⟩ := List.getElem?_eq_some_iff.1 h
    rw [← h2, ← List.drop_eq_getElem_cons h1, List.take_append_drop]
  conv => rhs; rw [e]
  simp only [List.flatten_append, List.length_append, List.flatten_cons]
  omega

theorem ev49 (f : Fl) (v : Int) (x : Bool) (t : T) (n : Nat) (h : Pre (n + 1) 49 [f.d, .int v, .bool x, t.d]) : obsHold X (Pre n) ob49 [f.d, .int v, .bool x, t.d] ∧ de49.eval X [f.d, .int v, .bool x, t.d] = X 49 [f.d, .int v, .bool x, t.d] := by
  obtain ⟨hm, hs⟩ := h
  have hm := hm rfl
  rw [meas_49, toF_d] at hm
  rw [side_49, toF_d, int_i, bool_b, toT_d, field_eq] at hs
  obtain ⟨hs, hl⟩ := hs
  have hw := wfF_sub hs
  have hN : ∀ δ, (DE.f (.ext 56) [.v 0, .v 1, .v 3]).eval X ([f.d, .int v, .bool x, t.d] ++ δ) = .bool (Mx.null f v t) := fun δ => by
    simp only [ev_f, evs_cons, evs_nil, ev_v, List.cons_append, List.getD_cons_zero, List.getD_cons_succ, fe_ext, X_56, toF_d, toT_d, int_i]
  have hN0 := hN []
  rw [List.append_nil] at hN0
  generalize hb : Mx.null f v t = b at *
  have hlist : ∀ (z : Bool), (if z then D.nil else encT (things t.l)) = encT (if z then none else things t.l) := fun z => by cases z <;> simp [encT]
  have hgetD : (if b then none else things t.l : Option (List T)).getD [] = if b then [] else t.L.take Most := by
    cases b
    · simp only [Bool.false_eq_true, if_false]; exact things_getD _
    · rfl
  have hle : (if b then [] else t.L.take Most).length ≤ 32767 := by cases b <;> simp [Most]; omega
  have hsrc : (DE.f .ite [(.f (.ext 56) [(.v 0), (.v 1), (.v 3)]), (.k .nil), (.f .take [(.f (.get 3) [(.v 3)]), (.f .imin [(.f .len [(.f (.get 3) [(.v 3)])]), (.k (.int 32767))])])]).eval X [f.d, .int v, .bool x, t.d] = encT (if b then none else things t.l) := by
    rw [ev_f]
    simp only [evs_cons, evs_nil, hN0]
    simp only [ev_f, evs_cons, evs_nil, ev_v, ev_k, List.getD_cons_zero, List.getD_cons_succ, fe_get, cells_T, fe_len, len_encT, fe_imin, fe_take, takeT, fe_ite, hlist]
  have hf : Folds X [f.d, .int v, .bool x, t.d] 4 (.f .ite [(.f (.ext 56) [(.v 0), (.v 1), (.v 3)]), (.k .nil), (.f .take [(.f (.get 3) [(.v 3)]), (.f .imin [(.f .len [(.f (.get 3) [(.v 3)])]), (.k (.int 32767))])])]) [(.f (.ext 53) [(.v 2), (.f (.ext 56) [(.v 0), (.v 1), (.v 3)]), (.f .len [(.f .ite [(.f (.ext 56) [(.v 0), (.v 1), (.v 3)]), (.k .nil), (.f .take [(.f (.get 3) [(.v 3)]), (.f .imin [(.f .len [(.f (.get 3) [(.v 3)])]), (.k (.int 32767))])])])]), (.k (.int 4))])] [(.f .app [(.v 6), (.f (.ext 48) [(.f (.get 6) [(.v 0)]), (.f (.get 7) [(.v 0)]), (.k (.bool false)), (.v 1), (.v 2), (.v 5)])])] T.d (fun s : List UInt8 => [encN s]) (fun _ y s => s ++ valueB f.of false x y (partS f.sub v x y)) (if b then [] else t.L.take Most) (counted x b (if b then [] else t.L.take Most).length 4) := by
    refine ⟨rfl, ?_, ?_, fun i y a hy _ => ?_⟩
    · rw [hsrc, rows_encT, hgetD]
    · simp only [evs_cons, evs_nil]
      rw [ev_f]
      simp only [evs_cons, evs_nil, hN0]
      rw [ev_f .len]
      simp only [evs_cons, evs_nil, hsrc]
      simp only [ev_v, ev_k, List.getD_cons_zero, List.getD_cons_succ, fe_len, len_encT, hgetD, fe_ext, X_53, bool_b, int_i, Int.toNat_natCast]
      rfl
    · simp only [evs_cons, evs_nil, ev_v, ev_k, ev_f, List.cons_append, List.nil_append, List.getD_cons_succ, List.getD_cons_zero, fe_get, cells_F, fe_ext, X_48, decF_enc, toT_d, int_i, bool_b, fe_app, appd_N]
  have hc10 : (DE.f .ite [(.f .eqI [(.f (.get 0) [(.v 0)]), (.k (.int 10))]), (.f .leI [(.k (.int 0)), (.f (.get 3) [(.v 0)])]), (.k (.bool false))]).eval X [f.d, .int v, .bool x, t.d] = .bool (decide (f.kind = 10 ∧ 0 ≤ f.null)) := by
    simp only [ev_f, evs_cons, evs_nil, ev_v, ev_k, List.getD_cons_zero, List.getD_cons_succ, fe_get, cells_F, fe_eqI, fe_leI, fe_ite, beq_dec, decide_eq_true_eq]
    by_cases h : f.kind = 10 <;> simp [h]
  have hc11 : (DE.f .eqI [(.f (.get 0) [(.v 0)]), (.k (.int 11))]).eval X [f.d, .int v, .bool x, t.d] = .bool (decide (f.kind = 11)) := by
    simp only [ev_f, evs_cons, evs_nil, ev_v, ev_k, List.getD_cons_zero, List.getD_cons_succ, fe_get, cells_F, fe_eqI, beq_dec]
  constructor
  · refine ⟨fun c11 => ⟨hf.all fun k y hy => ⟨?_, ⟨fun _ => ?_, ?_⟩, trivial⟩, ⟨fun e => by simp [recur] at e, ?_⟩, ?_, trivial⟩, fun c11 => ⟨fun c10 => ⟨fun _ => ⟨⟨fun e => by simp [recur] at e, ?_⟩, trivial⟩, fun cn => ⟨?_, ⟨fun _ => ?_, ?_⟩, ⟨fun e => by simp [recur] at e, ?_⟩, trivial⟩, trivial⟩, fun c10 => ⟨⟨fun _ => ?_, ?_⟩, trivial⟩, trivial⟩, ⟨fun e => by simp [recur] at e, trivial⟩, trivial⟩
    · rw [hc11, bool_b, decide_eq_true_eq] at c11
      rw [fieldB, if_pos c11] at hl
      simp only [foldI_flat, mapI_const, Ob.holds, evs_cons, evs_nil, ev_v, ev_k, ev_f, List.cons_append, List.nil_append, List.getD_cons_succ, List.getD_cons_zero, fe_get, cells_F, fe_ext, X_48, decF_enc, toT_d, int_i, bool_b, fe_app, appd_N, len_encN]
      refine room1 (Nat.le_trans ?_ hl)
      have hm : (((if b then [] else t.L.take Most).map fun y => valueB f.of false x y (partS f.sub v x y)))[k]? = some (valueB f.of false x y (partS f.sub v x y)) := by rw [List.getElem?_map, hy]; rfl
      have := flat_le hm
      simp only [List.length_append, List.map_take] at this ⊢
      omega
    · simp only [evs_cons, evs_nil, ev_v, ev_k, ev_f, List.cons_append, List.nil_append, List.getD_cons_succ, List.getD_cons_zero, fe_get, cells_F]
      rw [meas_48, decF_enc]; omega
    · rw [hc11, bool_b, decide_eq_true_eq] at c11
      rw [fieldB, if_pos c11] at hl
      simp only [evs_cons, evs_nil, ev_v, ev_k, ev_f, List.cons_append, List.nil_append, List.getD_cons_succ, List.getD_cons_zero, fe_get, cells_F]
      rw [side_48, decF_enc, toT_d]
      refine ⟨hw, Nat.le_trans ?_ hl⟩
      have hm : (((if b then [] else t.L.take Most).map fun y => valueB f.of false x y (partS f.sub v x y)))[k]? = some (valueB f.of false x y (partS f.sub v x y)) := by rw [List.getElem?_map, hy]; rfl
      have := flat_le hm
      simp only [int_i, bool_b, List.length_append] at this ⊢
      omega
    · simp only [evs_cons, evs_nil, hN0]
      rw [ev_f .len]
      simp only [evs_cons, evs_nil, hsrc, ev_v, ev_k, List.getD_cons_zero, List.getD_cons_succ, fe_len, len_encT, hgetD]
      rw [side_53]; simp only [int_i]; exact ⟨by omega, by omega, .inr trivial⟩
    · simp only [Ob.holds, ev_f, evs_cons, evs_nil, ev_v, ev_k, List.getD_cons_zero, List.getD_cons_succ, fe_get, cells_T, fe_len, len_encT, fe_imin, int_i, Bool.false_eq_true, if_false]
      omega
    · simp only [evs_cons, evs_nil, ev_k]
      rw [side_45]; simp only [int_i]; omega
    · rw [hc11, bool_b, decide_eq_false_iff_not] at c11
      rw [hc10, bool_b, decide_eq_true_eq] at c10
      rw [hN0, bool_b] at cn
      rw [fieldB, if_neg c11, if_pos c10, if_neg (by simp [cn])] at hl
      simp only [Ob.holds, ev_f, evs_cons, evs_nil, ev_v, ev_k, List.getD_cons_zero, List.getD_cons_succ, fe_get, cells_F, fe_ext, X_45, X_47, decF_enc, toT_d, int_i, bool_b, fe_app, appd_N, len_encN]
      exact room1 hl
    · simp only [evs_cons, evs_nil, ev_v, ev_f, List.getD_cons_zero, List.getD_cons_succ, fe_get, cells_F]
      rw [meas_47, decF_enc]; omega
    · rw [hc11, bool_b, decide_eq_false_iff_not] at c11
      rw [hc10, bool_b, decide_eq_true_eq] at c10
      rw [hN0, bool_b] at cn
      rw [fieldB, if_neg c11, if_pos c10, if_neg (by simp [cn])] at hl
      simp only [evs_cons, evs_nil, ev_v, ev_f, List.getD_cons_zero, List.getD_cons_succ, fe_get, cells_F]
      rw [side_47, decF_enc, toT_d]
      simp only [int_i, bool_b]
      refine ⟨hw, Nat.le_trans ?_ hl⟩
      simp
    · simp only [evs_cons, evs_nil, ev_k]
      rw [side_45]; simp only [int_i]; omega
    · simp only [evs_cons, evs_nil, ev_v, ev_f, List.getD_cons_zero, List.getD_cons_succ, fe_get, cells_F]
      rw [meas_48, decF_enc]; omega
    · rw [hc11, bool_b, decide_eq_false_iff_not] at c11
      rw [hc10, bool_b, decide_eq_false_iff_not] at c10
      rw [fieldB, if_neg c11, if_neg c10] at hl
      simp only [evs_cons, evs_nil, hN0]
      simp only [ev_v, ev_f, evs_cons, evs_nil, List.getD_cons_zero, List.getD_cons_succ, fe_get, cells_F]
      rw [side_48, decF_enc, toT_d]
      simp only [int_i, bool_b]
      exact ⟨hw, hl⟩
  · rw [X_49, toT_d, toF_d, int_i, bool_b, field_eq, hb]
    rw [de49, ev_f]
    simp only [evs_cons, evs_nil]
    rw [hc11, fe_ite, hf.fold 0, foldI_flat, mapI_const]
    rw [ev_f]
    simp only [evs_cons, evs_nil]
    rw [hc10, fe_ite]
    simp only [decide_eq_true_eq]
    rw [fieldB]
    by_cases c11 : f.kind = 11
    · rw [if_pos c11, if_pos c11]; rfl
    · rw [if_neg c11, if_neg c11]
      by_cases c10 : f.kind = 10 ∧ 0 ≤ f.null
      · rw [if_pos c10, if_pos c10, ev_f]
        simp only [evs_cons, evs_nil]
        rw [hN0, fe_ite]
        simp only [ev_f, evs_cons, evs_nil, ev_v, ev_k, List.getD_cons_zero, List.getD_cons_succ, fe_get, cells_F, fe_ext, X_45, X_47, decF_enc, toT_d, int_i, bool_b, fe_app, appd_N]
        cases b <;> rfl
      · rw [if_neg c10, if_neg c10, ev_f]
        simp only [evs_cons, evs_nil, hN0]
        simp only [ev_f, evs_cons, evs_nil, ev_v, List.getD_cons_zero, List.getD_cons_succ, fe_get, cells_F, fe_ext, X_48, decF_enc, toT_d, int_i, bool_b]
end Go.Mx

namespace Go.Mx
open Go Go.Dx

def P.c1 : DE := (.f .ite [(.f .ltI [(.f (.get 4) [(.v 5)]), (.k (.int 0))]), (.f (.ext 57) [(.v 5), (.v 1)]), (.k (.bool false))])
def P.fl1 : DE := (.f (.ext 49) [(.v 5), (.v 1), (.v 2), (.f (.ext 40) [(.v 3), (.v 4)])])
def P.bs1 : List DE := [(.f .ite [P.c1, (.f .app [(.v 6), P.fl1]), (.v 6)])]
def P.outE : DE := (.fold 4 (.v 0) [(.k .nil)] P.bs1 0)
def P.c2 : DE := (.f .ite [(.f .eqI [(.f (.get 4) [(.v 9)]), (.v 4)]), (.f .not [(.f (.ext 50) [(.v 9), (.f (.ext 40) [(.v 3), (.v 8)])])]), (.k (.bool false))])
def P.fl2 : DE := (.f (.ext 49) [(.v 9), (.v 1), (.v 2), (.f (.ext 40) [(.v 3), (.v 8)])])
def P.a1 : DE := (.f .app [(.v 10), (.f (.ext 46) [(.f (.wrap .u64) [(.v 4)])])])
def P.u2 : DE := (.f (.ext 46) [(.f (.wrap .u64) [(.f .len [P.fl2])])])
def P.a2 : DE := (.f .app [P.a1, P.u2])
def P.a3 : DE := (.f .app [P.a2, P.fl2])
def P.bs2 : List DE := [(.f .ite [P.c2, P.a3, (.v 10)]), (.f .ite [P.c2, (.f (.add .i64) [(.v 11), (.k (.int 1))]), (.v 11)])]
def P.is2 : List DE := [(.v 7), (.v 6)]
def P.bsG : List DE := [(.fold 8 (.v 0) P.is2 P.bs2 1), (.fold 8 (.v 0) P.is2 P.bs2 0)]
def P.srcG : DE := (.f .iota [(.f (.wrap .i64) [(.f (.ext 51) [(.v 0)])])])
def P.isG : List DE := [(.k (.int 0)), (.k .nil)]
def P.isU : List DE := [(.fold 4 P.srcG P.isG P.bsG 1), (.fold 4 P.srcG P.isG P.bsG 0)]
def P.srcU : DE := (.f (.ext 41) [(.v 0), (.f (.get 4) [(.v 3)])])
def P.wh : DE := (.f .take [(.f (.get 1) [(.v 5)]), (.f .imin [(.f .len [(.f (.get 1) [(.v 5)])]), (.k (.int 32767))])])
def P.b1 : DE := (.f .app [(.v 6), (.f (.ext 46) [(.f (.wrap .u64) [(.f (.get 0) [(.v 5)])])])])
def P.u3 : DE := (.f (.ext 46) [(.f (.wrap .u64) [(.f .len [P.wh])])])
def P.b2 : DE := (.f .app [P.b1, P.u3])
def P.b3 : DE := (.f .app [P.b2, P.wh])
def P.bsU : List DE := [P.b3, (.f (.add .i64) [(.v 7), (.k (.int 1))])]
def P.unk0 : DE := (.fold 4 P.srcU P.isU P.bsU 0)
def P.unk1 : DE := (.fold 4 P.srcU P.isU P.bsU 1)
def P.o1 : DE := (.f .app [P.outE, (.f (.ext 46) [(.f (.wrap .u64) [P.unk1])])])
def P.o2 : DE := (.f .app [P.o1, P.unk0])
theorem de47_eq : de47 =  (.f .ite [(.f .not [(.v 2)]), P.outE, P.o2]) := rfl
theorem ob47_eq : ob47 =  [(.when (.f .not [(.v 2)]) false [(.room P.o2 1), (.room P.o1 1), (.pre 46 [(.f (.wrap .u64) [P.unk1])]), (.all P.srcU P.isU P.bsU [(.room P.b3 1), (.room P.b2 1), (.pre 46 [(.f (.wrap .u64) [(.f .len [P.wh])])]), (.room P.b1 1), (.pre 46 [(.f (.wrap .u64) [(.f (.get 0) [(.v 5)])])]), (.idx (.f .imin [(.f .len [(.f (.get 1) [(.v 5)])]), (.k (.int 32767))]) (.f (.get 1) [(.v 5)]) false)]), (.pre 41 [(.v 0), (.f (.get 4) [(.v 3)])]), (.all P.srcG P.isG P.bsG [(.all (.v 0) P.is2 P.bs2 [(.when P.c2 true [(.room P.a3 1), (.room P.a2 1), (.pre 46 [(.f (.wrap .u64) [(.f .len [P.fl2])])]), (.room P.a1 1), (.pre 46 [(.f (.wrap .u64) [(.v 4)])]), (.pre 49 [(.v 9), (.v 1), (.v 2), (.f (.ext 40) [(.v 3), (.v 8)])]), (.pre 40 [(.v 3), (.v 8)])]), (.when (.f .eqI [(.f (.get 4) [(.v 9)]), (.v 4)]) true [(.pre 50 [(.v 9), (.f (.ext 40) [(.v 3), (.v 8)])]), (.pre 40 [(.v 3), (.v 8)])])])]), (.pre 51 [(.v 0)])]), (.all (.v 0) [(.k .nil)] P.bs1 [(.when P.c1 true [(.room (.f .app [(.v 6), P.fl1]) 1), (.pre 49 [(.v 5), (.v 1), (.v 2), (.f (.ext 40) [(.v 3), (.v 4)])]), (.pre 40 [(.v 3), (.v 4)])]), (.when (.f .ltI [(.f (.get 4) [(.v 5)]), (.k (.int 0))]) true [(.pre 57 [(.v 5), (.v 1)])])])] := rfl

/-! ### the rows of a part -/
def rowP (v : Int) (x : Bool) (t : T) (i : Nat) (f : Fl) : Fl × T × List UInt8 := (f, at' t i, field f v x (at' t i))
theorem rowsL_eq (v : Int) (x : Bool) (t : T) : ∀ (l : List Fl) (i : Nat), rowsL l i v x t = mapI (rowP v x t) i l
  | [], _ => rfl
  | f :: r, i => by rw [rowsL, mapI, rowsL_eq v x t r (i + 1)]; rfl
def cellT (g : Nat) (r : Fl × T × List UInt8) : List (List UInt8) := if r.1.tag = (g : Int) ∧ usual r.1 r.2.1 = false then [tagB g r.2.2] else []
def cellO (v : Int) (r : Fl × T × List UInt8) : List UInt8 := if r.1.tag < 0 ∧ has r.1 v = true then r.2.2 else []
theorem filterMap_flat {A B : Type} (p : A → Prop) [DecidablePred p] (g : A → B) : ∀ l : List A, l.filterMap (fun r => if p r then some (g r) else none) = (l.map fun r => if p r then [g r] else []).flatten
  | [] => rfl
  | a :: l => by
    have := filterMap_flat p g l
    by_cases h : p a <;> simp [h, this]
theorem tagsB_eq (rows : List (Fl × T × List UInt8)) (n : Nat) : tagsB rows n = ((List.range n).map fun g => (rows.map (cellT g)).flatten).flatten := by
  rw [tagsB, List.flatMap]
  congr 1
  apply List.map_congr_left
  intro g _
  exact filterMap_flat (fun r => r.1.tag = (g : Int) ∧ usual r.1 r.2.1 = false) (fun r => tagB g r.2.2) rows
theorem mapI_map {A B C : Type} (h : B → C) (g : Nat → A → B) : ∀ (l : List A) (i : Nat), (mapI g i l).map h = mapI (fun i a => h (g i a)) i l
  | [], _ => rfl
  | a :: l, i => by simp [mapI, mapI_map h g l (i + 1)]
theorem partS_eq (fs : Option (List Fl)) (v : Int) (x : Bool) (t : T) : partS fs v x t = partB v x (fs.getD []) t.u (mapI (rowP v x t) 0 (fs.getD [])) := by
  cases fs with
  | none => rw [partS]; rfl
  | some l => rw [partS, rowsL_eq]; rfl
def tags1 (fs : List Fl) (v : Int) (x : Bool) (t : T) : List (List UInt8) := ((List.range (known fs)).map fun g => (mapI (fun i f => cellT g (rowP v x t i f)) 0 fs).flatten).flatten
def unkB (x : Tg) : List UInt8 := tagB (IntKind.u64.wrap x.key).toNat ((x.val.getD []).take Most)
def tags2 (fs : List Fl) (u : Option (List Tg)) : List (List UInt8) := (unknown fs u).map unkB
def outP (fs : List Fl) (v : Int) (x : Bool) (t : T) : List UInt8 := (mapI (fun i f => cellO v (rowP v x t i f)) 0 fs).flatten
def tagsP (fs : List Fl) (v : Int) (x : Bool) (t : T) : List (List UInt8) := tags1 fs v x t ++ tags2 fs t.u
theorem partS_false (fs : Option (List Fl)) (v : Int) (t : T) : partS fs v false t = outP (fs.getD []) v false t := by
  rw [partS_eq, partB, mapI_map]; rfl
theorem partS_true (fs : Option (List Fl)) (v : Int) (t : T) : partS fs v true t = outP (fs.getD []) v true t ++ Uvarint (tagsP (fs.getD []) v true t).length ++ (tagsP (fs.getD []) v true t).flatten := by
  rw [partS_eq, partB, mapI_map, if_pos rfl, tagsB_eq, tagsP, tags1, tags2]
  simp only [mapI_map]
  rfl

/-! ### sizes -/
theorem flat_pre {B : Type} {l : List (List B)} {k : Nat} {a : List B} (h : l[k]? = some a) : ∃ r, l.flatten = (l.take k).flatten ++ (a ++ r) := by
  have e : l = l.take k ++ a :: l.drop (k + 1) := by
    obtain ⟨h1, h2⟩ := List.getElem?_eq_some_iff.1 h
    rw [← h2, ← List.drop_eq_getElem_cons h1, List.take_append_drop]
  refine ⟨(l.drop (k + 1)).flatten, ?_⟩
  conv => lhs; rw [e]
  simp
theorem mem_flat_le {B : Type} : ∀ {l : List (List B)} {a : List B}, a ∈ l → a.length ≤ l.flatten.length
  | b :: l, a, h => by
    simp only [List.flatten_cons, List.length_append]
    rcases List.mem_cons.1 h with rfl | h
    · omega
    · have := mem_flat_le h; omega
theorem outP_le (fs : Option (List Fl)) (v : Int) (x : Bool) (t : T) : (outP (fs.getD []) v x t).length ≤ (partS fs v x t).length := by
  cases x
  · rw [partS_false]; exact Nat.le_refl _
  · rw [partS_true]; simp only [List.length_append]; omega
theorem Uvarint_pos (n : Nat) : 0 < (Uvarint n).length := by
  rw [Uvarint]; split <;> simp
theorem mapI_some {A B : Type} {g : Nat → A → B} {l : List A} {k : Nat} {a : A} (h : l[k]? = some a) : (mapI g 0 l)[k]? = some (g k a) := by
  have := mapI_get g l 0 k a h; rwa [Nat.zero_add] at this
theorem cells_le {A B : Type} (g : Nat → A → List B) (h : ∀ i a, (g i a).length ≤ 1) : ∀ (l : List A) (i : Nat), (mapI g i l).flatten.length ≤ l.length
  | [], _ => by simp [mapI]
  | a :: l, i => by
    have := cells_le g h l (i + 1)
    have := h i a
    simp only [mapI, List.flatten_cons, List.length_append, List.length_cons]; omega
theorem cellT_le (g : Nat) (r : Fl × T × List UInt8) : (cellT g r).length ≤ 1 := by
  unfold cellT; split <;> simp
theorem range_le {B : Type} (g : Nat → List B) (m : Nat) (h : ∀ i, (g i).length ≤ m) : ∀ n, ((List.range n).map g).flatten.length ≤ n * m
  | 0 => by simp
  | n + 1 => by
    have := range_le g m h n
    have := h n
    rw [List.range_succ, List.map_append, List.flatten_append, List.length_append, Nat.add_mul]
    simp only [List.map_cons, List.map_nil, List.flatten_cons, List.flatten_nil, List.append_nil]; omega
end Go.Mx

namespace Go.Mx
open Go Go.Dx

section
variable {fs : Option (List Fl)} {v : Int} {x : Bool} {t : T}
def envP (fs : Option (List Fl)) (v : Int) (x : Bool) (t : T) : List D := [encF fs, .int v, .bool x, t.d]
theorem wrapu {n : Nat} (h : n ≤ lim) : IntKind.u64.wrap (n : Nat) = n := wrapu64 (by omega) (by simp only [lim] at h; omega)
theorem wrapl {n : Int} (h : 0 ≤ n) (h2 : n ≤ 10000000) : IntKind.i64.wrap n = n := by rw [IntKind.wrap_i64]; omega

theorem c1_eval (i : Nat) (f : Fl) (r : List D) : P.c1.eval X (envP fs v x t ++ (.int i :: f.d :: r)) = .bool (decide (f.tag < 0 ∧ has f v = true)) := by
  simp only [P.c1, envP, ev_f, evs_cons, evs_nil, ev_v, ev_k, List.cons_append, List.nil_append, List.getD_cons_zero, List.getD_cons_succ, fe_get, cells_F, fe_ltI, fe_ext, X_57, toF_d, int_i, fe_ite]
  by_cases h1 : f.tag < 0 <;> cases h2 : has f v <;> simp [h1]
theorem fl1_eval (i : Nat) (f : Fl) (r : List D) : P.fl1.eval X (envP fs v x t ++ (.int i :: f.d :: r)) = encN (field f v x (at' t i)) := by
  simp only [P.fl1, envP, ev_f, evs_cons, evs_nil, ev_v, List.cons_append, List.nil_append, List.getD_cons_zero, List.getD_cons_succ, fe_ext, X_49, X_40, toF_d, toT_d, int_i, bool_b]
theorem fold1 : Folds X (envP fs v x t) 4 (.v 0) [(.k .nil)] P.bs1 Fl.d (fun s : List UInt8 => [encN s]) (fun i f s => s ++ cellO v (rowP v x t i f)) (fs.getD []) [] := by
  refine ⟨rfl, ?_, rfl, fun i f s hf _ => ?_⟩
  · simp only [envP, ev_v, List.getD_cons_zero, rows_encF]
  · simp only [P.bs1, evs_cons, evs_nil]
    rw [ev_f]
    simp only [evs_cons, evs_nil]
    rw [c1_eval, fe_ite, ev_f]
    simp only [evs_cons, evs_nil]
    rw [fl1_eval]
    have e : (DE.v 6).eval X (envP fs v x t ++ D.int (i : Nat) :: f.d :: [encN s]) = encN s := rfl
    rw [e, fe_app, appd_N, cellO]
    by_cases h : f.tag < 0 ∧ has f v = true
    · rw [if_pos (decide_eq_true h), if_pos (by exact h)]; rfl
    · rw [if_neg (by simp [h]), if_neg (by exact h), List.append_nil]

def envG (fs : Option (List Fl)) (v : Int) (x : Bool) (t : T) (j g : Nat) (S : List (List UInt8)) : List D := envP fs v x t ++ [.int g, .int g, .int S.length, encN S.flatten]
theorem c2_eval (j g : Nat) (S : List (List UInt8)) (i : Nat) (f : Fl) (r : List D) : P.c2.eval X (envG fs v x t j g S ++ (.int i :: f.d :: r)) = .bool (decide (f.tag = (g : Int) ∧ usual f (at' t i) = false)) := by
  simp only [P.c2, envG, envP, ev_f, evs_cons, evs_nil, ev_v, ev_k, List.cons_append, List.nil_append, List.getD_cons_zero, List.getD_cons_succ, fe_get, cells_F, fe_eqI, fe_not, fe_ext, X_50, X_40, toF_d, toT_d, int_i, fe_ite, beq_dec]
  by_cases h1 : f.tag = (g : Int) <;> cases h2 : usual f (at' t i) <;> simp [h1]
theorem fl2_eval (j g : Nat) (S : List (List UInt8)) (i : Nat) (f : Fl) (r : List D) : P.fl2.eval X (envG fs v x t j g S ++ (.int i :: f.d :: r)) = encN (field f v x (at' t i)) := by
  simp only [P.fl2, envG, envP, ev_f, evs_cons, evs_nil, ev_v, List.cons_append, List.nil_append, List.getD_cons_zero, List.getD_cons_succ, fe_ext, X_49, X_40, toF_d, toT_d, int_i, bool_b]
theorem a1_eval (j g : Nat) (hg : g ≤ 2000) (S : List (List UInt8)) (i : Nat) (f : Fl) (s : List UInt8) (r : List D) : P.a1.eval X (envG fs v x t j g S ++ (.int i :: f.d :: encN s :: r)) = encN (s ++ Uvarint g) := by
  simp only [P.a1, envG, envP, ev_f, evs_cons, evs_nil, ev_v, List.cons_append, List.nil_append, List.getD_cons_zero, List.getD_cons_succ, fe_ext, X_46, fe_wrap, int_i]
  rw [wrapu (n := g) (by simp only [lim]; omega), fe_app, appd_N, Int.toNat_natCast]
theorem u2_eval (j g : Nat) (S : List (List UInt8)) (i : Nat) (f : Fl) (r : List D) (hl : (field f v x (at' t i)).length ≤ lim) : P.u2.eval X (envG fs v x t j g S ++ (.int i :: f.d :: r)) = encN (Uvarint (field f v x (at' t i)).length) := by
  rw [P.u2, ev_f]
  simp only [evs_cons, evs_nil]
  rw [ev_f]
  simp only [evs_cons, evs_nil]
  rw [ev_f]
  simp only [evs_cons, evs_nil]
  rw [fl2_eval, fe_len, len_encN, fe_wrap, wrapu hl, fe_ext, X_46, int_i, Int.toNat_natCast]
theorem a2_eval (j g : Nat) (hg : g ≤ 2000) (S : List (List UInt8)) (i : Nat) (f : Fl) (s : List UInt8) (r : List D) (hl : (field f v x (at' t i)).length ≤ lim) : P.a2.eval X (envG fs v x t j g S ++ (.int i :: f.d :: encN s :: r)) = encN (s ++ Uvarint g ++ Uvarint (field f v x (at' t i)).length) := by
  rw [P.a2, ev_f]
  simp only [evs_cons, evs_nil]
  rw [a1_eval j g hg, u2_eval _ _ _ _ _ _ hl, fe_app, appd_N]
theorem a3_eval (j g : Nat) (hg : g ≤ 2000) (S : List (List UInt8)) (i : Nat) (f : Fl) (s : List UInt8) (r : List D) (hl : (field f v x (at' t i)).length ≤ lim) : P.a3.eval X (envG fs v x t j g S ++ (.int i :: f.d :: encN s :: r)) = encN (s ++ tagB g (field f v x (at' t i))) := by
  rw [P.a3, ev_f]
  simp only [evs_cons, evs_nil]
  rw [a2_eval j g hg _ _ _ _ _ hl, fl2_eval, fe_app, appd_N, tagB]
  simp only [List.append_assoc]
def Hf (fs : Option (List Fl)) (v : Int) (x : Bool) (t : T) : Prop := ∀ (i : Nat) (f : Fl), (fs.getD [])[i]? = some f → 0 ≤ f.tag → usual f (at' t i) = false → (field f v x (at' t i)).length ≤ lim
theorem fold2 (hl : (fs.getD []).length ≤ 1000) (j g : Nat) (hg : g ≤ 2000) (S0 : List (List UInt8)) (h0 : S0.length ≤ 2000000) (H : Hf fs v x t) : Folds X (envG fs v x t j g S0) 8 (.v 0) P.is2 P.bs2 Fl.d (fun S : List (List UInt8) => [encN S.flatten, .int S.length]) (fun i f S => S ++ cellT g (rowP v x t i f)) (fs.getD []) S0 := by
  refine ⟨rfl, ?_, rfl, fun i f S hf hS => ?_⟩
  · simp only [envG, envP, List.cons_append, ev_v, List.getD_cons_zero, rows_encF]
  · have hi := (List.getElem?_eq_some_iff.1 hf).1
    have hSl : S.length ≤ 2001000 := by
      rw [hS, foldI_flat, mapI_take, List.length_append]
      have := cells_le (fun i f => cellT g (rowP v x t i f)) (fun i f => cellT_le g _) (fs.getD []) 0
      have h2 : (List.take i (mapI (fun i f => cellT g (rowP v x t i f)) 0 (fs.getD []))).flatten.length ≤ (mapI (fun i f => cellT g (rowP v x t i f)) 0 (fs.getD [])).flatten.length := by
        conv => rhs; rw [← List.take_append_drop i (mapI (fun i f => cellT g (rowP v x t i f)) 0 (fs.getD []))]
        rw [List.flatten_append, List.length_append]; omega
      omega
    simp only [P.bs2, evs_cons, evs_nil]
    rw [ev_f .ite, ev_f .ite]
    simp only [evs_cons, evs_nil]
    rw [c2_eval, fe_ite, fe_ite]
    have e10 : (DE.v 10).eval X (envG fs v x t j g S0 ++ D.int (i : Nat) :: f.d :: [encN S.flatten, .int S.length]) = encN S.flatten := rfl
    have e11 : (DE.v 11).eval X (envG fs v x t j g S0 ++ D.int (i : Nat) :: f.d :: [encN S.flatten, .int S.length]) = .int S.length := rfl
    rw [ev_f (.add .i64)]
    simp only [evs_cons, evs_nil]
    rw [e10, e11, ev_k, fe_add, wrapl (by omega) (by omega)]
    by_cases h : f.tag = (g : Int) ∧ usual f (at' t i) = false
    · have ec : cellT g (rowP v x t i f) = [tagB g (field f v x (at' t i))] := by rw [cellT, if_pos (by exact h)]; rfl
      rw [if_pos (decide_eq_true h), if_pos (decide_eq_true h), a3_eval j g hg _ _ _ _ _ (H i f hf (by omega) h.2), ec]
      simp
    · have ec : cellT g (rowP v x t i f) = [] := by rw [cellT, if_neg (by exact h)]
      rw [if_neg (by simp only [h, decide_false]; exact Bool.false_ne_true), if_neg (by simp only [h, decide_false]; exact Bool.false_ne_true), ec, List.append_nil]

def rowG (fs : Option (List Fl)) (v : Int) (x : Bool) (t : T) (g : Nat) : List (List UInt8) := (mapI (fun i f => cellT g (rowP v x t i f)) 0 (fs.getD [])).flatten
theorem tags1_eq : tags1 (fs.getD []) v x t = ((List.range (known (fs.getD []))).map (rowG fs v x t)).flatten := rfl
theorem rowG_le (hl : (fs.getD []).length ≤ 1000) (g : Nat) : (rowG fs v x t g).length ≤ 1000 :=
  Nat.le_trans (cells_le _ (fun _ _ => cellT_le g _) _ 0) hl
theorem partG_le (hl : (fs.getD []).length ≤ 1000) (n : Nat) (hn : n ≤ 1001) : ((List.range n).map (rowG fs v x t)).flatten.length ≤ 1001000 := by
  have := range_le (rowG fs v x t) 1000 (rowG_le hl) n
  omega
theorem range_get {n i g : Nat} (h : (List.range n)[i]? = some g) : g = i ∧ i < n := by
  obtain ⟨h1, h2⟩ := List.getElem?_eq_some_iff.1 h
  simp at h1 h2
  omega
theorem range_take {n i : Nat} (h : i ≤ n) : (List.range n).take i = List.range i := by
  rw [List.take_range]; congr 1; omega
theorem foldG (hw : wfFs fs = true) (H : Hf fs v x t) : Folds X (envP fs v x t) 4 P.srcG P.isG P.bsG (fun g : Nat => .int g) (fun S : List (List UInt8) => [.int S.length, encN S.flatten]) (fun _ g S => S ++ rowG fs v x t g) (List.range (known (fs.getD []))) [] := by
  have hl := (wfFs_l hw).1
  have hk := known_small hw
  refine ⟨rfl, ?_, rfl, fun i g S hg hS => ?_⟩
  · simp only [P.srcG, envP, ev_f, evs_cons, evs_nil, ev_v, List.getD_cons_zero, fe_ext, X_51, decF_enc, fe_wrap]
    rw [wrapl (by omega) (by omega)]
    rfl
  · obtain ⟨rfl, hi⟩ := range_get hg
    have hSl : S.length ≤ 1001000 := by
      rw [hS, foldI_flat, mapI_const, List.nil_append, range_take (by omega)]
      exact partG_le hl _ (by omega)
    have hf := fold2 (fs := fs) (v := v) (x := x) (t := t) hl g g (by omega) S (by omega) H
    show evals X P.bsG (envG fs v x t g g S) = _
    simp only [P.bsG, evs_cons, evs_nil]
    rw [hf.fold 0, hf.fold 1, foldI_flat]
    rfl
theorem tags1_fold : foldI (fun _ g S => S ++ rowG fs v x t g) 0 (List.range (known (fs.getD []))) [] = tags1 (fs.getD []) v x t := by
  rw [foldI_flat, mapI_const, List.nil_append, tags1_eq]
theorem wh_eval (i : Nat) (y : Tg) (r : List D) : P.wh.eval X (envP fs v x t ++ (.int i :: y.d :: r)) = encB (whole y.val) := by
  simp only [P.wh, envP, ev_f, evs_cons, evs_nil, ev_v, ev_k, List.cons_append, List.nil_append, List.getD_cons_zero, List.getD_cons_succ, fe_get, cells_Tg, fe_len, len_encB, fe_imin, fe_take, takeB]
theorem wrapu_nonneg (k : Int) : 0 ≤ IntKind.u64.wrap k := by rw [IntKind.wrap_u64]; omega
theorem b1_eval (i : Nat) (y : Tg) (s : List UInt8) (r : List D) : P.b1.eval X (envP fs v x t ++ (.int i :: y.d :: encN s :: r)) = encN (s ++ Uvarint (IntKind.u64.wrap y.key).toNat) := by
  simp only [P.b1, envP, ev_f, evs_cons, evs_nil, ev_v, ev_k, List.cons_append, List.nil_append, List.getD_cons_zero, List.getD_cons_succ, fe_get, cells_Tg, fe_wrap, fe_ext, X_46, int_i, fe_app, appd_N]
theorem u3_eval (i : Nat) (y : Tg) (r : List D) : P.u3.eval X (envP fs v x t ++ (.int i :: y.d :: r)) = encN (Uvarint ((y.val.getD []).take Most).length) := by
  rw [P.u3, ev_f]
  simp only [evs_cons, evs_nil]
  rw [ev_f]
  simp only [evs_cons, evs_nil]
  rw [ev_f]
  simp only [evs_cons, evs_nil]
  have := whole_le y.val
  rw [wh_eval, fe_len, len_encB, fe_wrap, wrapu (by simp only [lim]; omega), fe_ext, X_46, int_i, Int.toNat_natCast, whole_getD]
theorem b2_eval (i : Nat) (y : Tg) (s : List UInt8) (r : List D) : P.b2.eval X (envP fs v x t ++ (.int i :: y.d :: encN s :: r)) = encN (s ++ Uvarint (IntKind.u64.wrap y.key).toNat ++ Uvarint ((y.val.getD []).take Most).length) := by
  rw [P.b2, ev_f]
  simp only [evs_cons, evs_nil]
  rw [b1_eval, u3_eval, fe_app, appd_N]
theorem b3_eval (i : Nat) (y : Tg) (s : List UInt8) (r : List D) : P.b3.eval X (envP fs v x t ++ (.int i :: y.d :: encN s :: r)) = encN (s ++ unkB y) := by
  rw [P.b3, ev_f]
  simp only [evs_cons, evs_nil]
  rw [b2_eval, wh_eval, fe_app, appd_encN]
  · rw [asStr_encB, whole_getD, unkB, tagB]; simp only [List.append_assoc]
  · cases whole y.val with
    | none => exact .inl rfl
    | some s => exact .inr ⟨s, .inl rfl⟩
theorem foldU (hw : wfFs fs = true) (H : Hf fs v x t) : Folds X (envP fs v x t) 4 P.srcU P.isU P.bsU Tg.d (fun S : List (List UInt8) => [encN S.flatten, .int S.length]) (fun _ y S => S ++ [unkB y]) (unknown (fs.getD []) t.u) (tags1 (fs.getD []) v x t) := by
  have hl := (wfFs_l hw).1
  have hk := known_small hw
  have hul := unknown_len (fs.getD []) t.u
  have hG := foldG hw H
  refine ⟨rfl, ?_, ?_, fun i y S hy hS => ?_⟩
  · simp only [P.srcU, envP, ev_f, evs_cons, evs_nil, ev_v, List.getD_cons_zero, List.getD_cons_succ, fe_get, cells_T, fe_ext, X_41, decF_enc, decU_enc, rows_encU, nz_getD]
  · simp only [P.isU, evs_cons, evs_nil]
    rw [hG.fold 0, hG.fold 1, tags1_fold]
    rfl
  · have hi := (List.getElem?_eq_some_iff.1 hy).1
    have hSl : S.length ≤ 2000000 := by
      rw [hS, foldI_app (fun _ y => unkB y), mapI_const, List.length_append, tags1_eq]
      have := partG_le (v := v) (x := x) (t := t) hl (known (fs.getD [])) hk
      simp only [List.length_map, List.length_take]; omega
    simp only [P.bsU, evs_cons, evs_nil]
    rw [b3_eval, ev_f]
    simp only [evs_cons, evs_nil]
    have e7 : (DE.v 7).eval X (envP fs v x t ++ D.int (i : Nat) :: y.d :: [encN S.flatten, .int S.length]) = .int S.length := rfl
    rw [e7, ev_k, fe_add, wrapl (by omega) (by omega)]
    simp
theorem tagsP_fold : foldI (fun _ y S => S ++ [unkB y]) 0 (unknown (fs.getD []) t.u) (tags1 (fs.getD []) v x t) = tagsP (fs.getD []) v x t := by
  rw [foldI_app (fun _ y => unkB y), mapI_const]; rfl
theorem unk1_eval (hw : wfFs fs = true) (H : Hf fs v x t) : P.unk1.eval X (envP fs v x t) = .int (tagsP (fs.getD []) v x t).length := by
  rw [P.unk1, (foldU hw H).fold 1, tagsP_fold]; rfl
theorem unk0_eval (hw : wfFs fs = true) (H : Hf fs v x t) : P.unk0.eval X (envP fs v x t) = encN (tagsP (fs.getD []) v x t).flatten := by
  rw [P.unk0, (foldU hw H).fold 0, tagsP_fold]; rfl
theorem out_eval : P.outE.eval X (envP fs v x t) = encN (outP (fs.getD []) v x t) := by
  rw [P.outE, fold1.fold 0, foldI_flat]; rfl
theorem tagsP_len (hw : wfFs fs = true) : (tagsP (fs.getD []) v x t).length ≤ 2000000 := by
  have := partG_le (v := v) (x := x) (t := t) (wfFs_l hw).1 (known (fs.getD [])) (known_small hw)
  have hul := unknown_len (fs.getD []) t.u
  rw [tagsP, List.length_append, tags1_eq, tags2, List.length_map]; omega
theorem o1_eval (hw : wfFs fs = true) (H : Hf fs v x t) : P.o1.eval X (envP fs v x t) = encN (outP (fs.getD []) v x t ++ Uvarint (tagsP (fs.getD []) v x t).length) := by
  rw [P.o1, ev_f]
  simp only [evs_cons, evs_nil]
  rw [out_eval, ev_f]
  simp only [evs_cons, evs_nil]
  rw [ev_f]
  simp only [evs_cons, evs_nil]
  have := tagsP_len (v := v) (x := x) (t := t) hw
  rw [unk1_eval hw H, fe_wrap, wrapu (by simp only [lim]; omega), fe_ext, X_46, int_i, Int.toNat_natCast, fe_app, appd_N]
theorem o2_eval (hw : wfFs fs = true) (H : Hf fs v x t) : P.o2.eval X (envP fs v x t) = encN (outP (fs.getD []) v x t ++ Uvarint (tagsP (fs.getD []) v x t).length ++ (tagsP (fs.getD []) v x t).flatten) := by
  rw [P.o2, ev_f]
  simp only [evs_cons, evs_nil]
  rw [o1_eval hw H, unk0_eval hw H, fe_app, appd_N]
end
end Go.Mx

namespace Go.Mx
open Go Go.Dx

theorem known_ge : ∀ (l : List Fl) (a : Nat), a ≤ l.foldl (fun n f => if 0 ≤ f.tag then max n (f.tag.toNat + 1) else n) a
  | [], a => Nat.le_refl _
  | f :: r, a => by
    refine Nat.le_trans ?_ (known_ge r _)
    show a ≤ if 0 ≤ f.tag then max a (f.tag.toNat + 1) else a
    split <;> omega
theorem known_mem : ∀ (l : List Fl) (a : Nat) (f : Fl), f ∈ l → 0 ≤ f.tag → f.tag.toNat < l.foldl (fun n f => if 0 ≤ f.tag then max n (f.tag.toNat + 1) else n) a
  | g :: r, a, f, h, h0 => by
    rcases List.mem_cons.1 h with rfl | h
    · refine Nat.lt_of_lt_of_le ?_ (known_ge r _)
      show f.tag.toNat < if 0 ≤ f.tag then max a (f.tag.toNat + 1) else a
      rw [if_pos h0]; omega
    · exact known_mem r _ f h h0
section
variable {fs : Option (List Fl)} {v : Int} {x : Bool} {t : T}
theorem tag_mem {i : Nat} {f : Fl} (hf : (fs.getD [])[i]? = some f) (h0 : 0 ≤ f.tag) (hu : usual f (at' t i) = false) : tagB f.tag.toNat (field f v x (at' t i)) ∈ tags1 (fs.getD []) v x t := by
  rw [tags1_eq, List.mem_flatten]
  refine ⟨rowG fs v x t f.tag.toNat, List.mem_map.2 ⟨f.tag.toNat, List.mem_range.2 (known_mem _ 0 f (List.mem_of_getElem? hf) h0), rfl⟩, ?_⟩
  rw [rowG, List.mem_flatten]
  refine ⟨_, List.mem_of_getElem? (mapI_some (g := fun i f' => cellT f.tag.toNat (rowP v x t i f')) hf), ?_⟩
  show _ ∈ cellT f.tag.toNat (rowP v x t i f)
  rw [cellT, if_pos ⟨by show f.tag = _; omega, hu⟩]
  exact List.mem_singleton.2 rfl
theorem tags_le (h : (partS fs v true t).length ≤ lim) : (tagsP (fs.getD []) v true t).flatten.length ≤ lim := by
  rw [partS_true] at h
  simp only [List.length_append] at h; omega
theorem tags1_le (h : (partS fs v true t).length ≤ lim) : (tags1 (fs.getD []) v true t).flatten.length ≤ lim := by
  have := tags_le h
  rw [tagsP, List.flatten_append, List.length_append] at this; omega
theorem hf_of (h : (partS fs v true t).length ≤ lim) : Hf fs v true t := fun i f hf h0 hu => by
  have h1 := mem_flat_le (tag_mem (v := v) (x := true) hf h0 hu)
  have h2 := tags1_le h
  rw [tagB] at h1
  simp only [List.length_append] at h1
  omega
theorem pre_other {n k : Nat} {ds : List D} (h : recur k = false) (hs : side k ds) : Pre n k ds := ⟨fun e => by rw [h] at e; exact absurd e Bool.false_ne_true, hs⟩
theorem wFs_sub {f : Fl} (h : f ∈ fs.getD []) : wFs f.sub + 2 ≤ wFs fs := by
  have := wFs_mem h
  have := wF_sub f
  omega

theorem ev47 (n : Nat) (h : Pre (n + 1) 47 [encF fs, .int v, .bool x, t.d]) : obsHold X (Pre n) ob47 [encF fs, .int v, .bool x, t.d] ∧ de47.eval X [encF fs, .int v, .bool x, t.d] = X 47 [encF fs, .int v, .bool x, t.d] := by
  obtain ⟨hm, hs⟩ := h
  have hm := hm rfl
  rw [meas_47, decF_enc] at hm
  rw [side_47, decF_enc, int_i, bool_b, toT_d] at hs
  obtain ⟨hw, hl⟩ := hs
  obtain ⟨hw1, hw2⟩ := wfFs_l hw
  have hnot : (DE.f .not [.v 2]).eval X (envP fs v x t) = .bool (!x) := by
    simp only [envP, ev_f, evs_cons, evs_nil, ev_v, List.getD_cons_zero, List.getD_cons_succ, fe_not]
  have h40 : ∀ (i : Nat) (d : D), side 40 [d, .int (i : Nat)] := fun i d => by rw [side_40, int_i]; omega
  constructor
  · rw [ob47_eq]
    show obsHold X (Pre n) _ (envP fs v x t)
    refine ⟨fun hx => ?_, fold1.all (fun k f hf => ?_), trivial⟩
    · rw [hnot, bool_b] at hx
      have hx : x = true := by cases x <;> simp_all
      subst hx
      have H := hf_of hl
      have hl1 := tags1_le hl
      have hlP := tags_le hl
      refine ⟨?_, ?_, pre_other rfl trivial, (foldU hw H).all (fun k y hy => ?_), pre_other rfl ?_, (foldG hw H).all (fun k g hg => ?_), pre_other rfl ?_, trivial⟩
      · simp only [Ob.holds]
        rw [o2_eval hw H, len_encN, ← partS_true]
        exact room1 hl
      · simp only [Ob.holds]
        rw [o1_eval hw H, len_encN]
        rw [partS_true] at hl
        refine room1 (Nat.le_trans ?_ hl)
        simp only [List.length_append]; omega
      · have hsz : ((foldI (fun _ y S => S ++ [unkB y]) 0 ((unknown (fs.getD []) t.u).take k) (tags1 (fs.getD []) v true t)).flatten ++ unkB y).length ≤ lim := by
          rw [foldI_app (fun _ y => unkB y), mapI_const]
          rw [tagsP, tags2] at hlP
          have hm : ((unknown (fs.getD []) t.u).map unkB)[k]? = some (unkB y) := by rw [List.getElem?_map, hy]; rfl
          have := flat_le hm
          simp only [List.flatten_append, List.length_append, List.map_take] at this hlP ⊢
          omega
        generalize foldI (fun _ y S => S ++ [unkB y]) 0 ((unknown (fs.getD []) t.u).take k) (tags1 (fs.getD []) v true t) = S at hsz
        have hsz2 := hsz
        rw [unkB, tagB] at hsz2
        simp only [List.length_append] at hsz2
        refine ⟨?_, ?_, pre_other rfl trivial, ?_, pre_other rfl trivial, ?_, trivial⟩
        · simp only [Ob.holds]
          rw [b3_eval, len_encN]; exact room1 hsz
        · simp only [Ob.holds]
          rw [b2_eval, len_encN]; exact room1 (by simp only [List.length_append]; omega)
        · simp only [Ob.holds]
          rw [b1_eval, len_encN]; exact room1 (by simp only [List.length_append]; omega)
        · simp only [Ob.holds, envP, ev_f, evs_cons, evs_nil, ev_v, ev_k, List.cons_append, List.nil_append, List.getD_cons_zero, List.getD_cons_succ, fe_get, cells_Tg, fe_len, len_encB, fe_imin, int_i, Bool.false_eq_true, if_false]
          omega
      · simp only [envP, ev_f, evs_cons, evs_nil, ev_v, List.getD_cons_zero, List.getD_cons_succ, fe_get, cells_T]
        rw [side_41, decF_enc]; exact hw
      · have hgk := range_get hg
        obtain ⟨rfl, hgl⟩ := hgk
        have hkn := known_small hw
        have eS : foldI (fun _ g S => S ++ rowG fs v true t g) 0 ((List.range (known (fs.getD []))).take g) [] = ((List.range g).map (rowG fs v true t)).flatten := by
          rw [foldI_flat, mapI_const, List.nil_append, range_take (by omega)]
        rw [eS]
        generalize hS : ((List.range g).map (rowG fs v true t)).flatten = S
        have hS1 : S.length ≤ 1001000 := by rw [← hS]; exact partG_le hw1 _ (by omega)
        have hpre : ∃ r, tags1 (fs.getD []) v true t = S ++ (rowG fs v true t g ++ r) := by
          have hm : ((List.range (known (fs.getD []))).map (rowG fs v true t))[g]? = some (rowG fs v true t g) := by rw [List.getElem?_map, hg]; rfl
          obtain ⟨r, hr⟩ := flat_pre hm
          refine ⟨r, ?_⟩
          rw [tags1_eq, hr, ← hS, ← List.map_take, range_take (by omega)]
        obtain ⟨r1, hr1⟩ := hpre
        have hf2 := fold2 (fs := fs) (v := v) (x := true) (t := t) hw1 g g (by omega) S (by omega) H
        show obsHold X (Pre n) _ (envG fs v true t g g S)
        refine ⟨hf2.all (fun i f hf => ?_), trivial⟩
        have hfm : f ∈ fs.getD [] := List.mem_of_getElem? hf
        have hws := wFs_sub hfm
        have hwm := wFs_mem hfm
        rw [foldI_flat, mapI_take]
        have hpre2 : ∃ r, rowG fs v true t g = ((mapI (fun i f => cellT g (rowP v true t i f)) 0 (fs.getD [])).take i).flatten ++ (cellT g (rowP v true t i f) ++ r) := flat_pre (mapI_some (g := fun i f => cellT g (rowP v true t i f)) hf)
        obtain ⟨r2, hr2⟩ := hpre2
        generalize ((mapI (fun i f => cellT g (rowP v true t i f)) 0 (fs.getD [])).take i).flatten = S2 at hr2
        have heq : (DE.f .eqI [.f (.get 4) [.v 9], .v 4]).eval X (envG fs v true t g g S ++ (D.int (i : Nat) :: f.d :: [encN (S ++ S2).flatten, D.int ((S ++ S2).length : Nat)])) = .bool (decide (f.tag = (g : Int))) := by
          simp only [envG, envP, ev_f, evs_cons, evs_nil, ev_v, List.cons_append, List.nil_append, List.getD_cons_zero, List.getD_cons_succ, fe_get, cells_F, fe_eqI, beq_dec]
        refine ⟨fun hc => ?_, fun hc => ⟨⟨fun _ => ?_, ?_⟩, pre_other rfl (h40 _ _), trivial⟩, trivial⟩
        · rw [c2_eval, bool_b, decide_eq_true_eq] at hc
          have hfl := H i f hf (by omega) hc.2
          have ec : cellT g (rowP v true t i f) = [tagB g (field f v true (at' t i))] := by rw [cellT, if_pos (by exact hc)]; rfl
          rw [hr1, hr2, ec, tagB] at hl1
          simp only [List.flatten_append, List.length_append, List.flatten_cons, List.flatten_nil, List.append_nil] at hl1
          refine ⟨?_, ?_, pre_other rfl trivial, ?_, pre_other rfl trivial, ⟨fun _ => ?_, ?_⟩, pre_other rfl (h40 _ _), trivial⟩
          · simp only [Ob.holds]
            rw [a3_eval _ _ (by omega) _ _ _ _ _ hfl, len_encN, tagB]
            exact room1 (by simp only [List.flatten_append, List.length_append]; omega)
          · simp only [Ob.holds]
            rw [a2_eval _ _ (by omega) _ _ _ _ _ hfl, len_encN]
            exact room1 (by simp only [List.flatten_append, List.length_append]; omega)
          · simp only [Ob.holds]
            rw [a1_eval _ _ (by omega), len_encN]
            exact room1 (by simp only [List.flatten_append, List.length_append]; omega)
          · simp only [envG, envP, evs_cons, evs_nil, ev_v, List.cons_append, List.nil_append, List.getD_cons_zero, List.getD_cons_succ]
            rw [meas_49, toF_d]; omega
          · simp only [envG, envP, evs_cons, evs_nil, ev_v, ev_f, List.cons_append, List.nil_append, List.getD_cons_zero, List.getD_cons_succ, fe_ext, X_40, toT_d, int_i]
            rw [side_49, toF_d, toT_d]; exact ⟨hw2 f hfm, hfl⟩
        · simp only [envG, envP, evs_cons, evs_nil, ev_v, List.cons_append, List.nil_append, List.getD_cons_zero, List.getD_cons_succ]
          rw [meas_50, toF_d]; omega
        · simp only [envG, envP, evs_cons, evs_nil, ev_v, List.cons_append, List.nil_append, List.getD_cons_zero, List.getD_cons_succ]
          rw [side_50, toF_d]; exact hw2 f hfm
      · simp only [envP, evs_cons, evs_nil, ev_v, List.getD_cons_zero]
        rw [side_51, decF_enc]; exact hw
    · have hfm : f ∈ fs.getD [] := List.mem_of_getElem? hf
      have hws := wFs_sub hfm
      rw [foldI_flat, mapI_take, List.nil_append]
      have hlo := Nat.le_trans (outP_le fs v x t) hl
      have hm : (mapI (fun i f => cellO v (rowP v x t i f)) 0 (fs.getD []))[k]? = some (cellO v (rowP v x t k f)) := mapI_some (g := fun i f => cellO v (rowP v x t i f)) hf
      have hle := flat_le hm
      rw [outP] at hlo
      generalize ((mapI (fun i f => cellO v (rowP v x t i f)) 0 (fs.getD [])).take k).flatten = s at hle
      refine ⟨fun hc => ?_, fun _ => ⟨pre_other rfl trivial, trivial⟩, trivial⟩
      rw [c1_eval, bool_b, decide_eq_true_eq] at hc
      have ec : cellO v (rowP v x t k f) = field f v x (at' t k) := by rw [cellO, if_pos (by exact hc)]; rfl
      rw [ec] at hle
      refine ⟨?_, ⟨fun _ => ?_, ?_⟩, pre_other rfl (h40 _ _), trivial⟩
      · simp only [Ob.holds]
        rw [ev_f]
        simp only [evs_cons, evs_nil]
        rw [fl1_eval]
        have e : (DE.v 6).eval X (envP fs v x t ++ D.int (k : Nat) :: f.d :: [encN s]) = encN s := rfl
        rw [e, fe_app, appd_N, len_encN]
        exact room1 (by simp only [List.length_append]; omega)
      · simp only [envP, evs_cons, evs_nil, ev_v, List.cons_append, List.nil_append, List.getD_cons_zero, List.getD_cons_succ]
        rw [meas_49, toF_d]; omega
      · simp only [envP, evs_cons, evs_nil, ev_v, ev_f, List.cons_append, List.nil_append, List.getD_cons_zero, List.getD_cons_succ, fe_ext, X_40, toT_d, int_i]
        rw [side_49, toF_d, toT_d]; exact ⟨hw2 f hfm, by simp only [int_i, bool_b]; omega⟩
  · rw [X_47, decF_enc, int_i, bool_b, toT_d, de47_eq]
    show _ = encN (partS fs v x t)
    rw [ev_f]
    simp only [evs_cons, evs_nil]
    show Fn.eval X .ite [DE.eval X _ (envP fs v x t), DE.eval X _ (envP fs v x t), DE.eval X _ (envP fs v x t)] = _
    rw [hnot, fe_ite, out_eval]
    cases x
    · rw [partS_false]; rfl
    · rw [o2_eval hw (hf_of hl), partS_true]; rfl
end

theorem ev59 (fs : Option (List Fl)) (fx v : Int) (t : T) (n : Nat) (h : side 59 [.row [encF fs, .int fx], .int v, t.d]) (hn : 3 * wFs fs < n) : obsHold X (Pre n) ob59 [.row [encF fs, .int fx], .int v, t.d] ∧ de59.eval X [.row [encF fs, .int fx], .int v, t.d] = X 59 [.row [encF fs, .int fx], .int v, t.d] := by
  rw [side_59, decF_enc, int_i, int_i, toT_d] at h
  obtain ⟨hw, hl⟩ := h
  have c0 : (D.row [encF fs, .int fx]).cells = [encF fs, .int fx] := rfl
  constructor
  · refine ⟨fun hc => ⟨⟨fun _ => ?_, ?_⟩, trivial⟩, fun hc => ⟨⟨fun _ => ?_, ?_⟩, trivial⟩, trivial⟩ <;>
    simp only [evs_cons, evs_nil, ev_v, ev_f, ev_k, List.getD_cons_zero, List.getD_cons_succ, fe_get, c0, fe_leI, bool_b, decide_eq_true_eq, decide_eq_false_iff_not] at hc ⊢
    · rw [meas_47, decF_enc]; exact hn
    · rw [side_47, decF_enc, int_i, bool_b, toT_d]
      rw [Flexible, decide_eq_true hc, Bool.true_and] at hl
      exact ⟨hw, hl⟩
    · rw [meas_47, decF_enc]; exact hn
    · rw [side_47, decF_enc, int_i, bool_b, toT_d]
      rw [Flexible, decide_eq_false hc, Bool.false_and] at hl
      exact ⟨hw, hl⟩
  · rw [X_59, decF_enc, int_i, int_i, toT_d]
    simp only [de59, evs_cons, evs_nil, ev_v, ev_f, ev_k, List.getD_cons_zero, List.getD_cons_succ, fe_get, c0, fe_leI, fe_ite, fe_ext, X_47, decF_enc, toT_d, int_i, bool_b, decide_eq_true_eq, Flexible]
    by_cases h0 : 0 ≤ fx
    · rw [if_pos h0, decide_eq_true h0, Bool.true_and]
    · rw [if_neg h0, decide_eq_false h0, Bool.false_and]
theorem Fixed_len (n : Int) (k : Nat) : (Fixed n k).length = k := by simp [Fixed]
theorem ev60 (fs : Option (List Fl)) (fx v : Int) (t : T) (n : Nat) (h : side 60 [.row [encF fs, .int fx], .int v, t.d]) : obsHold X (Pre n) ob60 [.row [encF fs, .int fx], .int v, t.d] ∧ de60.eval X [.row [encF fs, .int fx], .int v, t.d] = X 60 [.row [encF fs, .int fx], .int v, t.d] := by
  rw [side_60, decF_enc, int_i, int_i, toT_d] at h
  obtain ⟨hw, hl⟩ := h
  have e : de60.eval X [.row [encF fs, .int fx], .int v, t.d] = X 60 [.row [encF fs, .int fx], .int v, t.d] := by
    rw [X_60, decF_enc, int_i, int_i, toT_d]
    simp only [de60, evs_cons, evs_nil, ev_v, ev_f, ev_k, List.getD_cons_zero, List.getD_cons_succ, fe_ext, X_45, X_59, decF_enc, toT_d, int_i, fe_app, appd_N]
    rfl
  refine ⟨⟨?_, pre_other rfl ?_, pre_other rfl ?_, trivial⟩, e⟩
  · show (de60.eval X [.row [encF fs, .int fx], .int v, t.d]).len * 1 ≤ _ ∧ (de60.eval X [.row [encF fs, .int fx], .int v, t.d]).len ≤ _
    rw [e, X_60, len_encN, decF_enc, int_i, int_i, toT_d]
    refine room1 ?_
    rw [List.length_append, Fixed_len]; omega
  · simp only [evs_cons, evs_nil, ev_v, List.getD_cons_zero, List.getD_cons_succ]
    rw [side_59, decF_enc, int_i, int_i, toT_d]
    exact ⟨hw, by omega⟩
  · simp only [evs_cons, evs_nil, ev_v, ev_k, List.getD_cons_zero, List.getD_cons_succ]
    rw [side_45]; simp only [int_i]; omega
end Go.Mx

namespace Go.Mx
open Go Go.Dx

/-! ## The appenders of the library -/
theorem wrap_i16' (n : Int) : IntKind.i16.wrap n = (n + 32768) % 65536 - 32768 := by
  simp [IntKind.wrap, IntKind.bits, IntKind.signed]
  split <;> omega
theorem wrap_i8' (n : Int) : IntKind.i8.wrap n = (n + 128) % 256 - 128 := by
  simp [IntKind.wrap, IntKind.bits, IntKind.signed]
  split <;> omega
theorem Fixed2 (n : Int) : Fixed n 2 = [byteAt n 1, byteAt n 0] := rfl
theorem Fixed4 (n : Int) : Fixed n 4 = [byteAt n 3, byteAt n 2, byteAt n 1, byteAt n 0] := rfl
theorem Fixed8 (n : Int) : Fixed n 8 = [byteAt n 7, byteAt n 6, byteAt n 5, byteAt n 4, byteAt n 3, byteAt n 2, byteAt n 1, byteAt n 0] := rfl
theorem byteAt_0 (n : Int) : byteAt n 0 = UInt8.ofNat (IntKind.u8.wrap n).toNat := by
  simp only [byteAt, Nat.mul_zero, Int.pow_zero, Int.fdiv_one]
theorem shr_at (n : Int) (i : Nat) (b : Int) (k : IntKind) (hb : (min b.toNat k.bits) = 8 * i) : UInt8.ofNat (IntKind.u8.wrap (shrI n b k)).toNat = byteAt n i := by
  rw [shrI, byteAt, hb]
theorem byteAt_e (n : Int) (i : Nat) : byteAt n i = UInt8.ofNat (n / 2 ^ (8 * i) % 256).toNat := by
  rw [byteAt, IntKind.wrap_u8, Int.fdiv_eq_ediv_of_nonneg _ (by exact Int.le_of_lt (Int.pow_pos (by decide)))]
theorem fixed_mod (n m : Int) (s : Nat) (h : ∀ i, i < s → n / 2 ^ (8 * i) % 256 = m / 2 ^ (8 * i) % 256) : Fixed n s = Fixed m s := by
  rw [Fixed, Fixed]
  apply List.map_congr_left
  intro i hi
  rw [List.mem_reverse, List.mem_range] at hi
  rw [byteAt_e, byteAt_e, h i hi]
theorem fixed_u16 (n : Int) : Fixed (IntKind.u16.wrap n) 2 = Fixed n 2 := fixed_mod _ _ _ fun i hi => by
  rw [IntKind.wrap_u16]
  match i, hi with
  | 0, _ => simp only [Nat.mul_zero, Int.pow_zero, Int.ediv_one]; omega
  | 1, _ => simp only [Nat.mul_one, (by decide : (2 : Int) ^ 8 = 256)]; omega
theorem fixed_i16 (n : Int) : Fixed (IntKind.i16.wrap n) 2 = Fixed n 2 := fixed_mod _ _ _ fun i hi => by
  rw [wrap_i16']
  match i, hi with
  | 0, _ => simp only [Nat.mul_zero, Int.pow_zero, Int.ediv_one]; omega
  | 1, _ => simp only [Nat.mul_one, (by decide : (2 : Int) ^ 8 = 256)]; omega
theorem fixed_u32 (n : Int) : Fixed (IntKind.u32.wrap n) 4 = Fixed n 4 := fixed_mod _ _ _ fun i hi => by
  rw [IntKind.wrap_u32]
  match i, hi with
  | 0, _ => simp only [Nat.mul_zero, Int.pow_zero, Int.ediv_one]; omega
  | 1, _ => simp only [Nat.mul_one, (by decide : (2 : Int) ^ 8 = 256)]; omega
  | 2, _ => simp only [(by decide : (2 : Int) ^ (8 * 2) = 65536)]; omega
  | 3, _ => simp only [(by decide : (2 : Int) ^ (8 * 3) = 16777216)]; omega
theorem fixed_i32 (n : Int) : Fixed (IntKind.i32.wrap n) 4 = Fixed n 4 := fixed_mod _ _ _ fun i hi => by
  rw [IntKind.wrap_i32]
  match i, hi with
  | 0, _ => simp only [Nat.mul_zero, Int.pow_zero, Int.ediv_one]; omega
  | 1, _ => simp only [Nat.mul_one, (by decide : (2 : Int) ^ 8 = 256)]; omega
  | 2, _ => simp only [(by decide : (2 : Int) ^ (8 * 2) = 65536)]; omega
  | 3, _ => simp only [(by decide : (2 : Int) ^ (8 * 3) = 16777216)]; omega
theorem fixed_u64 (n : Int) : Fixed (IntKind.u64.wrap n) 8 = Fixed n 8 := fixed_mod _ _ _ fun i hi => by
  rw [IntKind.wrap_u64]
  match i, hi with
  | 0, _ => simp only [Nat.mul_zero, Int.pow_zero, Int.ediv_one]; omega
  | 1, _ => simp only [Nat.mul_one, (by decide : (2 : Int) ^ 8 = 256)]; omega
  | 2, _ => simp only [(by decide : (2 : Int) ^ (8 * 2) = 65536)]; omega
  | 3, _ => simp only [(by decide : (2 : Int) ^ (8 * 3) = 16777216)]; omega
  | 4, _ => simp only [(by decide : (2 : Int) ^ (8 * 4) = 4294967296)]; omega
  | 5, _ => simp only [(by decide : (2 : Int) ^ (8 * 5) = 1099511627776)]; omega
  | 6, _ => simp only [(by decide : (2 : Int) ^ (8 * 6) = 281474976710656)]; omega
  | 7, _ => simp only [(by decide : (2 : Int) ^ (8 * 7) = 72057594037927936)]; omega
theorem fixed_i8 (n : Int) : Fixed (IntKind.i8.wrap n) 1 = Fixed n 1 := fixed_mod _ _ _ fun i hi => by
  rw [wrap_i8']
  match i, hi with
  | 0, _ => simp only [Nat.mul_zero, Int.pow_zero, Int.ediv_one]; omega
theorem fixed_i64 (n : Int) : Fixed (IntKind.i64.wrap n) 8 = Fixed n 8 := by
  rw [← fixed_u64 (IntKind.i64.wrap n), ← fixed_u64 n]
  congr 1
  rw [IntKind.wrap_u64, IntKind.wrap_u64, IntKind.wrap_i64]; omega

theorem appd_B (o : Option (List UInt8)) (x : UInt8) (s : List UInt8) : (encB o).appd (.bytes (x :: s)) = app (encB o) (x :: s) := by cases o <;> simp [encB, app, D.appd, D.asStr]
theorem app_s (o : D) (s r : List UInt8) : (app o s).appd (.str r) = app o (s ++ r) := by simp [app, D.appd]
theorem app_b (o : D) (s : List UInt8) (r : Option (List UInt8)) : (app o s).appd (encB r) = app o (s ++ r.getD []) := by cases r <;> simp [app, D.appd, encB]
theorem len_app (o : D) (s : List UInt8) : (app o s).len = o.asStr.length + s.length := by simp [app, D.len]
theorem room_app {o : D} {s : List UInt8} (h : (app o s).len ≤ lim) : (app o s).len * 1 ≤ LIM ∧ (app o s).len ≤ maxLen := room1 h
theorem fe_mkbytes (l : List D) : Fn.eval X .mkbytes l = .bytes (l.map fun d => UInt8.ofNat d.asInt.toNat) := by cases l with | nil => rfl | cons a l => cases l with | nil => rfl | cons b l => cases l with | nil => rfl | cons c l => rfl

theorem ev2 (o : Option (List UInt8)) (b : Bool) (n : Nat) (h : side 2 [encB o, .bool b]) : obsHold X (Pre n) ob2 [encB o, .bool b] ∧ de2.eval X [encB o, .bool b] = X 2 [encB o, .bool b] := by
  have h : (X 2 [encB o, .bool b]).len ≤ lim := h
  rw [X_2, len_app] at h
  have hl : ∀ c : UInt8, (app (encB o) [c]).len ≤ lim := fun c => by
    rw [len_app]; simpa [bool_b] using (by cases b <;> simpa using h)
  constructor
  · refine ⟨fun _ => ⟨?_, trivial⟩, fun _ => ⟨?_, trivial⟩, trivial⟩ <;>
    · simp only [Ob.holds, ev_f, evs_cons, evs_nil, ev_v, ev_k, List.getD_cons_zero, fe_mkbytes, List.map_cons, List.map_nil, int_i, fe_app, appd_B]
      exact room_app (hl _)
  · simp only [de2, X_2, ev_f, evs_cons, evs_nil, ev_v, ev_k, List.getD_cons_zero, List.getD_cons_succ, fe_mkbytes, List.map_cons, List.map_nil, int_i, bool_b, fe_app, appd_B, fe_ite]
    cases b <;> rfl
theorem ev5 (o : Option (List UInt8)) (x : Int) (n : Nat) (h : side 5 [encB o, .int x]) : obsHold X (Pre n) ob5 [encB o, .int x] ∧ de5.eval X [encB o, .int x] = X 5 [encB o, .int x] := by
  have e : de5.eval X [encB o, .int x] = X 5 [encB o, .int x] := by
    simp only [de5, X_5, ev_f, evs_cons, evs_nil, ev_v, ev_k, List.getD_cons_zero, List.getD_cons_succ, fe_shr, fe_wrap, fe_mkbytes, List.map_cons, List.map_nil, int_i, fe_app, appd_B, Fixed2, byteAt_0]
    rw [shr_at x 1 8 .u16 (by decide)]
  refine ⟨⟨?_, trivial⟩, e⟩
  show (de5.eval X [encB o, .int x]).len * 1 ≤ _ ∧ (de5.eval X [encB o, .int x]).len ≤ _
  rw [e]; exact room1 h
theorem ev30 (o : Option (List UInt8)) (x : Int) (n : Nat) (h : side 30 [encB o, .int x]) : obsHold X (Pre n) ob30 [encB o, .int x] ∧ de30.eval X [encB o, .int x] = X 30 [encB o, .int x] := by
  have e : de30.eval X [encB o, .int x] = X 30 [encB o, .int x] := by
    simp only [de30, X_30, ev_f, evs_cons, evs_nil, ev_v, ev_k, List.getD_cons_zero, List.getD_cons_succ, fe_shr, fe_wrap, fe_mkbytes, List.map_cons, List.map_nil, int_i, fe_app, appd_B, Fixed4, byteAt_0]
    rw [shr_at x 1 8 .u32 (by decide), shr_at x 2 16 .u32 (by decide), shr_at x 3 24 .u32 (by decide)]
  refine ⟨⟨?_, trivial⟩, e⟩
  show (de30.eval X [encB o, .int x]).len * 1 ≤ _ ∧ (de30.eval X [encB o, .int x]).len ≤ _
  rw [e]; exact room1 h
theorem ev29 (o : Option (List UInt8)) (x : Int) (n : Nat) (h : side 29 [encB o, .int x]) : obsHold X (Pre n) ob29 [encB o, .int x] ∧ de29.eval X [encB o, .int x] = X 29 [encB o, .int x] := by
  have e : de29.eval X [encB o, .int x] = X 29 [encB o, .int x] := by
    simp only [de29, X_29, ev_f, evs_cons, evs_nil, ev_v, ev_k, List.getD_cons_zero, List.getD_cons_succ, fe_shr, fe_wrap, fe_mkbytes, List.map_cons, List.map_nil, int_i, fe_app, appd_B, Fixed8, byteAt_0]
    rw [shr_at x 1 8 .u64 (by decide), shr_at x 2 16 .u64 (by decide), shr_at x 3 24 .u64 (by decide), shr_at x 4 32 .u64 (by decide), shr_at x 5 40 .u64 (by decide), shr_at x 6 48 .u64 (by decide), shr_at x 7 56 .u64 (by decide)]
  refine ⟨⟨?_, trivial⟩, e⟩
  show (de29.eval X [encB o, .int x]).len * 1 ≤ _ ∧ (de29.eval X [encB o, .int x]).len ≤ _
  rw [e]; exact room1 h
theorem ev4 (o : Option (List UInt8)) (x : Int) (n : Nat) (h : side 4 [encB o, .int x]) : obsHold X (Pre n) ob4 [encB o, .int x] ∧ de4.eval X [encB o, .int x] = X 4 [encB o, .int x] := by
  have e : de4.eval X [encB o, .int x] = X 4 [encB o, .int x] := by
    simp only [de4, X_4, X_5, ev_f, evs_cons, evs_nil, ev_v, List.getD_cons_zero, List.getD_cons_succ, fe_wrap, fe_ext, int_i, fixed_u16]
  refine ⟨⟨pre_other rfl ?_, trivial⟩, e⟩
  show (de4.eval X [encB o, .int x]).len ≤ lim
  rw [e]; exact h
theorem ev6 (o : Option (List UInt8)) (x : Int) (n : Nat) (h : side 6 [encB o, .int x]) : obsHold X (Pre n) ob6 [encB o, .int x] ∧ de6.eval X [encB o, .int x] = X 6 [encB o, .int x] := by
  have e : de6.eval X [encB o, .int x] = X 6 [encB o, .int x] := by
    simp only [de6, X_6, X_30, ev_f, evs_cons, evs_nil, ev_v, List.getD_cons_zero, List.getD_cons_succ, fe_wrap, fe_ext, int_i, fixed_u32]
  refine ⟨⟨pre_other rfl ?_, trivial⟩, e⟩
  show (de6.eval X [encB o, .int x]).len ≤ lim
  rw [e]; exact h
theorem ev7 (o : Option (List UInt8)) (x : Int) (n : Nat) (h : side 7 [encB o, .int x]) : obsHold X (Pre n) ob7 [encB o, .int x] ∧ de7.eval X [encB o, .int x] = X 7 [encB o, .int x] := by
  have e : de7.eval X [encB o, .int x] = X 7 [encB o, .int x] := by
    simp only [de7, X_7, X_29, ev_f, evs_cons, evs_nil, ev_v, List.getD_cons_zero, List.getD_cons_succ, fe_wrap, fe_ext, int_i, fixed_u64]
  refine ⟨⟨pre_other rfl ?_, trivial⟩, e⟩
  show (de7.eval X [encB o, .int x]).len ≤ lim
  rw [e]; exact h
theorem asStr_str (s : List UInt8) : (D.str s).asStr = s := rfl
theorem len_str (s : List UInt8) : (D.str s).len = s.length := rfl
theorem ev11 (o : Option (List UInt8)) (s : List UInt8) (n : Nat) (h : side 11 [encB o, .str s]) : obsHold X (Pre n) ob11 [encB o, .str s] ∧ de11.eval X [encB o, .str s] = X 11 [encB o, .str s] := by
  have e : de11.eval X [encB o, .str s] = X 11 [encB o, .str s] := by
    simp only [de11, X_11, X_4, ev_f, evs_cons, evs_nil, ev_v, List.getD_cons_zero, List.getD_cons_succ, fe_len, fe_wrap, fe_ext, int_i, fixed_i16, fe_app, app_s, asStr_str, len_str]
  have h : (X 11 [encB o, .str s]).len ≤ lim := h
  refine ⟨⟨?_, pre_other rfl ?_, trivial⟩, e⟩
  · show (de11.eval X [encB o, .str s]).len * 1 ≤ _ ∧ (de11.eval X [encB o, .str s]).len ≤ _
    rw [e]; exact room1 h
  · simp only [ev_f, evs_cons, evs_nil, ev_v, List.getD_cons_zero, List.getD_cons_succ, fe_len, fe_wrap]
    show (X 4 _).len ≤ lim
    rw [X_11, len_app, List.length_append, Fixed_len] at h
    rw [X_4, len_app, Fixed_len]; omega
theorem ev15 (o s : Option (List UInt8)) (n : Nat) (h : side 15 [encB o, encB s]) : obsHold X (Pre n) ob15 [encB o, encB s] ∧ de15.eval X [encB o, encB s] = X 15 [encB o, encB s] := by
  have e : de15.eval X [encB o, encB s] = X 15 [encB o, encB s] := by
    simp only [de15, X_15, X_6, ev_f, evs_cons, evs_nil, ev_v, List.getD_cons_zero, List.getD_cons_succ, fe_len, fe_wrap, fe_ext, int_i, fixed_i32, fe_app, app_b, asStr_encB, len_encB]
  have h : (X 15 [encB o, encB s]).len ≤ lim := h
  refine ⟨⟨?_, pre_other rfl ?_, trivial⟩, e⟩
  · show (de15.eval X [encB o, encB s]).len * 1 ≤ _ ∧ (de15.eval X [encB o, encB s]).len ≤ _
    rw [e]; exact room1 h
  · simp only [ev_f, evs_cons, evs_nil, ev_v, List.getD_cons_zero, List.getD_cons_succ, fe_len, fe_wrap]
    show (X 6 _).len ≤ lim
    rw [X_15, len_app, List.length_append, Fixed_len] at h
    rw [X_6, len_app, Fixed_len]; omega
theorem isNil_encB (s : Option (List UInt8)) : (encB s).isNil = s.isNone := by cases s <;> rfl
theorem ev17 (o s : Option (List UInt8)) (n : Nat) (h : side 17 [encB o, encB s]) : obsHold X (Pre n) ob17 [encB o, encB s] ∧ de17.eval X [encB o, encB s] = X 17 [encB o, encB s] := by
  have h : (X 17 [encB o, encB s]).len ≤ lim := h
  rw [X_17, isNil_encB] at h
  constructor
  · refine ⟨fun hc => ⟨pre_other rfl ?_, trivial⟩, fun hc => ⟨pre_other rfl ?_, trivial⟩, trivial⟩ <;>
    simp only [ev_f, evs_cons, evs_nil, ev_v, ev_k, List.getD_cons_zero, List.getD_cons_succ, fe_isNil, isNil_encB, bool_b] at hc ⊢
    · rw [hc] at h; exact h
    · rw [hc] at h; exact h
  · simp only [de17, X_17, X_15, X_6, ev_f, evs_cons, evs_nil, ev_v, ev_k, List.getD_cons_zero, List.getD_cons_succ, fe_isNil, isNil_encB, fe_ext, int_i, fe_ite]
    cases s <;> rfl
theorem ev26 (t : T) (n : Nat) : obsHold X (Pre n) ob26 [t.d] ∧ de26.eval X [t.d] = X 26 [t.d] := by
  refine ⟨trivial, ?_⟩
  simp only [de26, X_26, toT_d, ev_f, evs_cons, evs_nil, ev_v, ev_k, List.getD_cons_zero, List.getD_cons_succ, fe_get, cells_T, fe_ite]
  cases t.null
  · show D.ptr (.str (encB t.s).asStr) = _
    rw [asStr_encB]; rfl
  · rfl
theorem ev27 (t : T) (n : Nat) (h : side 27 [t.d]) : obsHold X (Pre n) ob27 [t.d] ∧ de27.eval X [t.d] = X 27 [t.d] := by
  have h : (X 27 [t.d]).len ≤ lim := h
  rw [X_27, toT_d] at h
  have e : (D.bytes []).appd (encB t.s) = .bytes t.S := by
    cases hs : t.s <;> simp [D.appd, encB, T.S, hs]
  constructor
  · refine ⟨fun hc => ⟨?_, trivial⟩, trivial⟩
    simp only [Ob.holds, ev_f, evs_cons, evs_nil, ev_v, List.getD_cons_zero, List.getD_cons_succ, fe_get, cells_T, bool_b, fe_mkbytes, List.map_nil, fe_app, e] at hc ⊢
    rw [hc] at h
    exact room1 h
  · simp only [de27, X_27, toT_d, ev_f, evs_cons, evs_nil, ev_v, ev_k, List.getD_cons_zero, List.getD_cons_succ, fe_get, cells_T, fe_ite, fe_mkbytes, List.map_nil, fe_app, e]
end Go.Mx

namespace Go.Mx
open Go Go.Dx

theorem wrapu32 {x : Int} (h1 : 0 ≤ x) (h2 : x < 4294967296) : IntKind.u32.wrap x = x := by
  rw [IntKind.wrap_u32]; omega
theorem band127_32 (n : Nat) (h : n < 4294967296) : IntKind.u32.wrap ((BitVec.ofInt IntKind.u32.bits (n : Int) &&& BitVec.ofInt IntKind.u32.bits 127).toNat : Nat) = ((n % 128 : Nat) : Int) := by
  have e : (BitVec.ofInt IntKind.u32.bits (n : Int) &&& BitVec.ofInt IntKind.u32.bits 127).toNat = n % 128 := by
    rw [BitVec.toNat_and]
    have e1 : (BitVec.ofInt IntKind.u32.bits (n : Int)).toNat = n := by simp [IntKind.bits, BitVec.toNat_ofInt]; omega
    have e2 : (BitVec.ofInt IntKind.u32.bits 127).toNat = 2 ^ 7 - 1 := rfl
    rw [e1, e2, Nat.and_two_pow_sub_one_eq_mod]
  rw [e, wrapu32 (by omega) (by omega)]
theorem bor128_32 (n : Nat) (h : n < 128) : IntKind.u32.wrap ((BitVec.ofInt IntKind.u32.bits (n : Int) ||| BitVec.ofInt IntKind.u32.bits 128).toNat : Nat) = ((n + 128 : Nat) : Int) := by
  have : ∀ n : Fin 128, IntKind.u32.wrap ((BitVec.ofInt IntKind.u32.bits (n.1 : Int) ||| BitVec.ofInt IntKind.u32.bits 128).toNat : Nat) = ((n.1 + 128 : Nat) : Int) := by decide
  exact this ⟨n, h⟩
theorem fe_bor (a b : Int) (k : IntKind) : Fn.eval X (.bor k) [.int a, .int b] = .int (k.wrap (BitVec.ofInt k.bits a ||| BitVec.ofInt k.bits b).toNat) := rfl
/-- a group of seven bits, with others to come -/
theorem seven (n : Nat) (h : n < 4294967296) : UInt8.ofNat (IntKind.u8.wrap (IntKind.u32.wrap ((BitVec.ofInt IntKind.u32.bits (IntKind.u32.wrap ((BitVec.ofInt IntKind.u32.bits (n : Int) &&& BitVec.ofInt IntKind.u32.bits 127).toNat : Nat)) ||| BitVec.ofInt IntKind.u32.bits 128).toNat : Nat))).toNat = UInt8.ofNat (n % 128 + 128) := by
  rw [band127_32 n h, bor128_32 _ (by omega), wrapu8 (by omega) (by omega), Int.toNat_natCast]
theorem last7 (n : Nat) (h : n ≤ 127) : UInt8.ofNat (IntKind.u8.wrap (n : Int)).toNat = UInt8.ofNat n := by
  rw [wrapu8 (by omega) (by omega), Int.toNat_natCast]
theorem shr32 (n : Nat) (b : Int) (q : Nat) (hb : (2 : Int) ^ (min b.toNat IntKind.u32.bits) = (q : Nat)) (hq : 0 < q) : shrI (n : Int) b .u32 = ((n / q : Nat) : Int) := by
  rw [shrI, hb, Int.fdiv_eq_ediv_of_nonneg _ (by omega)]
  rfl
theorem uv_len (n : Nat) : (Uvarint n).length = uvN n + 1 := by
  rw [uv_eq]; simp [uvP]
theorem uvP0 (n : Nat) : uvP n 0 = [] := rfl

theorem ev10 (o : Option (List UInt8)) (x : Int) (n : Nat) (h0 : 0 ≤ x) (h1 : x < 4294967296) (h : side 10 [encB o, .int x]) : obsHold X (Pre n) ob10 [encB o, .int x] ∧ de10.eval X [encB o, .int x] = X 10 [encB o, .int x] := by
  obtain ⟨m, rfl⟩ := Int.eq_ofNat_of_zero_le h0
  have hm : m < 4294967296 := by omega
  have h : (X 10 [encB o, .int (m : Nat)]).len ≤ lim := h
  have hb : uvN m ≤ 4 := uvN_le 5 m (Nat.lt_of_lt_of_le hm (by decide))
  have hst := uvN_stop m
  have hd : ∀ q, m / q < 4294967296 := fun q => Nat.lt_of_le_of_lt (Nat.div_le_self _ _) hm
  have e31 : (DE.f (.ext 31) [.v 1]).eval X [encB o, .int (m : Nat)] = .int ((uvN m + 1 : Nat) : Int) := by
    simp only [ev_f, evs_cons, evs_nil, ev_v, List.getD_cons_zero, List.getD_cons_succ, fe_ext, X_31, int_i, Int.toNat_natCast, uv_len]
  have s7 : shrI (m : Int) 7 .u32 = ((m / 128 : Nat) : Int) := shr32 m 7 128 (by decide) (by decide)
  have s14 : shrI (m : Int) 14 .u32 = ((m / 16384 : Nat) : Int) := shr32 m 14 16384 (by decide) (by decide)
  have s21 : shrI (m : Int) 21 .u32 = ((m / 2097152 : Nat) : Int) := shr32 m 21 2097152 (by decide) (by decide)
  have s28 : shrI (m : Int) 28 .u32 = ((m / 268435456 : Nat) : Int) := shr32 m 28 268435456 (by decide) (by decide)
  have p1 : ∀ k, uvP m (k + 1) = uvP m k ++ [UInt8.ofNat (m / 128 ^ k % 128 + 128)] := uvP_succ m
  have q0 : m / 128 ^ 0 = m := by simp
  have q1 : m / 128 ^ 1 = m / 128 := rfl
  have q2 : m / 128 ^ 2 = m / 16384 := rfl
  have q3 : m / 128 ^ 3 = m / 2097152 := rfl
  have q4 : m / 128 ^ 4 = m / 268435456 := rfl
  have c5 : ∀ k : Nat, (DE.f .eqI [.f (.ext 31) [.v 1], .k (.int (k : Nat))]).eval X [encB o, .int (m : Nat)] = .bool (decide (uvN m + 1 = k)) := fun k => by
    rw [ev_f]
    simp only [evs_cons, evs_nil, e31, ev_k, fe_eqI, beq_dec, Int.ofNat_inj]
  have c5' : (DE.f .eqI [.f (.ext 31) [.v 1], .k (.int 5)]).eval X [encB o, .int (m : Nat)] = .bool (decide (uvN m + 1 = 5)) := c5 5
  have c4' : (DE.f .eqI [.f (.ext 31) [.v 1], .k (.int 4)]).eval X [encB o, .int (m : Nat)] = .bool (decide (uvN m + 1 = 4)) := c5 4
  have c3' : (DE.f .eqI [.f (.ext 31) [.v 1], .k (.int 3)]).eval X [encB o, .int (m : Nat)] = .bool (decide (uvN m + 1 = 3)) := c5 3
  have c2' : (DE.f .eqI [.f (.ext 31) [.v 1], .k (.int 2)]).eval X [encB o, .int (m : Nat)] = .bool (decide (uvN m + 1 = 2)) := c5 2
  have c1' : (DE.f .eqI [.f (.ext 31) [.v 1], .k (.int 1)]).eval X [encB o, .int (m : Nat)] = .bool (decide (uvN m + 1 = 1)) := c5 1
  have main : ∀ k, uvN m = k → X 10 [encB o, .int (m : Nat)] = app (encB o) (uvP m k ++ [UInt8.ofNat (m / 128 ^ k)]) := fun k hk => by
    rw [X_10, int_i, Int.toNat_natCast, uv_eq, hk]
  have t5 : uvN m = 4 → (DE.f .app [.v 0, .f .mkbytes [(.f (.wrap .u8) [(.f (.bor .u32) [(.f (.band .u32) [(.v 1), (.k (.int 127))]), (.k (.int 128))])]), (.f (.wrap .u8) [(.f (.bor .u32) [(.f (.band .u32) [(.f (.shr .u32) [(.v 1), (.k (.int 7))]), (.k (.int 127))]), (.k (.int 128))])]), (.f (.wrap .u8) [(.f (.bor .u32) [(.f (.band .u32) [(.f (.shr .u32) [(.v 1), (.k (.int 14))]), (.k (.int 127))]), (.k (.int 128))])]), (.f (.wrap .u8) [(.f (.bor .u32) [(.f (.band .u32) [(.f (.shr .u32) [(.v 1), (.k (.int 21))]), (.k (.int 127))]), (.k (.int 128))])]), (.f (.wrap .u8) [(.f (.shr .u32) [(.v 1), (.k (.int 28))])])]]).eval X [encB o, .int (m : Nat)] = X 10 [encB o, .int (m : Nat)] := fun hk => by
    rw [main 4 hk]
    rw [hk] at hst
    simp only [ev_f, evs_cons, evs_nil, ev_v, ev_k, List.getD_cons_zero, List.getD_cons_succ, fe_shr, fe_band, fe_bor, fe_wrap, fe_mkbytes, List.map_cons, List.map_nil, int_i, fe_app, s7, s14, s21, s28]
    rw [appd_B, seven m hm, seven _ (hd _), seven _ (hd _), seven _ (hd _), last7 _ (by rw [q4] at hst; omega), p1, p1, p1, p1, uvP0, q0, q1, q2, q3, q4]
    rfl
  have t4 : uvN m = 3 → (DE.f .app [.v 0, .f .mkbytes [(.f (.wrap .u8) [(.f (.bor .u32) [(.f (.band .u32) [(.v 1), (.k (.int 127))]), (.k (.int 128))])]), (.f (.wrap .u8) [(.f (.bor .u32) [(.f (.band .u32) [(.f (.shr .u32) [(.v 1), (.k (.int 7))]), (.k (.int 127))]), (.k (.int 128))])]), (.f (.wrap .u8) [(.f (.bor .u32) [(.f (.band .u32) [(.f (.shr .u32) [(.v 1), (.k (.int 14))]), (.k (.int 127))]), (.k (.int 128))])]), (.f (.wrap .u8) [(.f (.shr .u32) [(.v 1), (.k (.int 21))])])]]).eval X [encB o, .int (m : Nat)] = X 10 [encB o, .int (m : Nat)] := fun hk => by
    rw [main 3 hk]
    rw [hk] at hst
    simp only [ev_f, evs_cons, evs_nil, ev_v, ev_k, List.getD_cons_zero, List.getD_cons_succ, fe_shr, fe_band, fe_bor, fe_wrap, fe_mkbytes, List.map_cons, List.map_nil, int_i, fe_app, s7, s14, s21, s28]
    rw [appd_B, seven m hm, seven _ (hd _), seven _ (hd _), last7 _ (by rw [q3] at hst; omega), p1, p1, p1, uvP0, q0, q1, q2, q3]
    rfl
  have t3 : uvN m = 2 → (DE.f .app [.v 0, .f .mkbytes [(.f (.wrap .u8) [(.f (.bor .u32) [(.f (.band .u32) [(.v 1), (.k (.int 127))]), (.k (.int 128))])]), (.f (.wrap .u8) [(.f (.bor .u32) [(.f (.band .u32) [(.f (.shr .u32) [(.v 1), (.k (.int 7))]), (.k (.int 127))]), (.k (.int 128))])]), (.f (.wrap .u8) [(.f (.shr .u32) [(.v 1), (.k (.int 14))])])]]).eval X [encB o, .int (m : Nat)] = X 10 [encB o, .int (m : Nat)] := fun hk => by
    rw [main 2 hk]
    rw [hk] at hst
    simp only [ev_f, evs_cons, evs_nil, ev_v, ev_k, List.getD_cons_zero, List.getD_cons_succ, fe_shr, fe_band, fe_bor, fe_wrap, fe_mkbytes, List.map_cons, List.map_nil, int_i, fe_app, s7, s14, s21, s28]
    rw [appd_B, seven m hm, seven _ (hd _), last7 _ (by rw [q2] at hst; omega), p1, p1, uvP0, q0, q1, q2]
    rfl
  have t2 : uvN m = 1 → (DE.f .app [.v 0, .f .mkbytes [(.f (.wrap .u8) [(.f (.bor .u32) [(.f (.band .u32) [(.v 1), (.k (.int 127))]), (.k (.int 128))])]), (.f (.wrap .u8) [(.f (.shr .u32) [(.v 1), (.k (.int 7))])])]]).eval X [encB o, .int (m : Nat)] = X 10 [encB o, .int (m : Nat)] := fun hk => by
    rw [main 1 hk]
    rw [hk] at hst
    simp only [ev_f, evs_cons, evs_nil, ev_v, ev_k, List.getD_cons_zero, List.getD_cons_succ, fe_shr, fe_band, fe_bor, fe_wrap, fe_mkbytes, List.map_cons, List.map_nil, int_i, fe_app, s7, s14, s21, s28]
    rw [appd_B, seven m hm, last7 _ (by rw [q1] at hst; omega), p1, uvP0, q0, q1]
    rfl
  have t1 : uvN m = 0 → (DE.f .app [.v 0, .f .mkbytes [(.f (.wrap .u8) [(.v 1)])]]).eval X [encB o, .int (m : Nat)] = X 10 [encB o, .int (m : Nat)] := fun hk => by
    rw [main 0 hk]
    rw [hk, q0] at hst
    simp only [ev_f, evs_cons, evs_nil, ev_v, ev_k, List.getD_cons_zero, List.getD_cons_succ, fe_wrap, fe_mkbytes, List.map_cons, List.map_nil, int_i, fe_app]
    rw [appd_B, last7 _ (by omega), uvP0, q0]
    rfl
  constructor
  · refine ⟨fun c => ⟨?_, trivial⟩, fun _ => ⟨fun c => ⟨?_, trivial⟩, fun _ => ⟨fun c => ⟨?_, trivial⟩, fun _ => ⟨fun c => ⟨?_, trivial⟩, fun _ => ⟨fun c => ⟨?_, trivial⟩, trivial⟩, trivial⟩, trivial⟩, trivial⟩, pre_other rfl trivial, trivial⟩
    · rw [c5', bool_b, decide_eq_true_eq] at c
      simp only [Ob.holds]
      rw [t5 (by omega)]; exact room1 h
    · rw [c4', bool_b, decide_eq_true_eq] at c
      simp only [Ob.holds]
      rw [t4 (by omega)]; exact room1 h
    · rw [c3', bool_b, decide_eq_true_eq] at c
      simp only [Ob.holds]
      rw [t3 (by omega)]; exact room1 h
    · rw [c2', bool_b, decide_eq_true_eq] at c
      simp only [Ob.holds]
      rw [t2 (by omega)]; exact room1 h
    · rw [c1', bool_b, decide_eq_true_eq] at c
      simp only [Ob.holds]
      rw [t1 (by omega)]; exact room1 h
  · have step : ∀ (c a b : DE) (p : Bool), c.eval X [encB o, .int (m : Nat)] = .bool p → (DE.f .ite [c, a, b]).eval X [encB o, .int (m : Nat)] = if p then a.eval X [encB o, .int (m : Nat)] else b.eval X [encB o, .int (m : Nat)] := fun c a b p hp => by
      rw [ev_f]
      simp only [evs_cons, evs_nil, hp, fe_ite]
    rw [de10, step _ _ _ _ c5']
    by_cases d5 : uvN m + 1 = 5
    · rw [if_pos (decide_eq_true d5)]; exact t5 (by omega)
    · rw [if_neg (by simp only [d5, decide_false]; exact Bool.false_ne_true), step _ _ _ _ c4']
      by_cases d4 : uvN m + 1 = 4
      · rw [if_pos (decide_eq_true d4)]; exact t4 (by omega)
      · rw [if_neg (by simp only [d4, decide_false]; exact Bool.false_ne_true), step _ _ _ _ c3']
        by_cases d3 : uvN m + 1 = 3
        · rw [if_pos (decide_eq_true d3)]; exact t3 (by omega)
        · rw [if_neg (by simp only [d3, decide_false]; exact Bool.false_ne_true), step _ _ _ _ c2']
          by_cases d2 : uvN m + 1 = 2
          · rw [if_pos (decide_eq_true d2)]; exact t2 (by omega)
          · rw [if_neg (by simp only [d2, decide_false]; exact Bool.false_ne_true), step _ _ _ _ c1']
            rw [if_pos (decide_eq_true (by omega))]
            exact t1 (by omega)
theorem ev12 (o : Option (List UInt8)) (s : List UInt8) (n : Nat) (h : side 12 [encB o, .str s]) : obsHold X (Pre n) ob12 [encB o, .str s] ∧ de12.eval X [encB o, .str s] = X 12 [encB o, .str s] := by
  rw [side_12, len_str] at h
  obtain ⟨h1, h2⟩ := h
  have ew : IntKind.u32.wrap (1 + IntKind.u32.wrap (s.length : Nat)) = ((s.length + 1 : Nat) : Int) := by
    rw [wrapu32 (x := (s.length : Nat)) (by omega) (by omega), wrapu32 (by omega) (by omega)]; omega
  have e : de12.eval X [encB o, .str s] = X 12 [encB o, .str s] := by
    simp only [de12, X_12, X_10, ev_f, evs_cons, evs_nil, ev_v, ev_k, List.getD_cons_zero, List.getD_cons_succ, fe_len, len_str, fe_wrap, fe_add, ew, fe_ext, int_i, Int.toNat_natCast, fe_app, app_s, asStr_str]
  have hu : (Uvarint (s.length + 1)).length ≤ 5 := by
    rw [uv_len]
    have := uvN_le 5 (s.length + 1) (Nat.lt_of_lt_of_le (by omega) (by decide : 4294967296 ≤ 128 ^ 5))
    omega
  refine ⟨⟨?_, pre_other rfl ?_, trivial⟩, e⟩
  · show (de12.eval X [encB o, .str s]).len * 1 ≤ _ ∧ (de12.eval X [encB o, .str s]).len ≤ _
    rw [e, X_12, len_app, List.length_append, len_str, asStr_str]
    exact room1 (by omega)
  · simp only [ev_f, evs_cons, evs_nil, ev_v, ev_k, List.getD_cons_zero, List.getD_cons_succ, fe_len, len_str, fe_wrap, fe_add, ew]
    show (X 10 _).len ≤ lim
    rw [X_10, len_app, int_i, Int.toNat_natCast]; omega
end Go.Mx

namespace Go.Mx
open Go Go.Dx

/-! ## Types, as the rows know them -/
inductive K where
  | int (k : IntKind) | bool | str | byts | tree | trees | tag | tags | fl | fls | msg
deriving Repr, DecidableEq
def agg (P : Program) (t : TypeId) : Bool := match P.underlying t with | some d => isAggD d | none => false
def sl (P : Program) (t : TypeId) : Option TypeId := match P.underlying t with | some (.slice e) => some e | _ => none
def isI (P : Program) (k : IntKind) (t : TypeId) : Bool := match P.underlying t with | some (.int k') => decide (k' = k) | _ => false
def isBo (P : Program) (t : TypeId) : Bool := match P.underlying t with | some .bool => true | _ => false
def isSt (P : Program) (t : TypeId) : Bool := match P.underlying t with | some .string => true | _ => false
def isBy (P : Program) (t : TypeId) : Bool := match sl P t with | some e => isI P .u8 e | none => false
def isTag (P : Program) (t : TypeId) : Bool := agg P t && match tys P t with | [a, b] => isI P .u32 a && isBy P b | _ => false
def isTags (P : Program) (t : TypeId) : Bool := match sl P t with | some e => isTag P e | none => false
def isTree (P : Program) (t : TypeId) : Bool := agg P t && match tys P t with | [a, b, c, d, e] => isI P .i64 a && isBy P b && isBo P c && decide (sl P d = some t) && isTags P e | _ => false
def isTrees (P : Program) (t : TypeId) : Bool := match sl P t with | some e => isTree P e | none => false
def isFl (P : Program) (t : TypeId) : Bool := agg P t && match tys P t with | [a, b, c, d, e, f, g, h] => isI P .i64 a && isI P .i64 b && isI P .i64 c && isI P .i64 d && isI P .i64 e && isI P .i64 f && isI P .i64 g && decide (sl P h = some t) | _ => false
def isFls (P : Program) (t : TypeId) : Bool := match sl P t with | some e => isFl P e | none => false
def isMsg (P : Program) (t : TypeId) : Bool := agg P t && match tys P t with | [a, b] => isFls P a && isI P .i64 b | _ => false
def isK (P : Program) : K → TypeId → Bool
  | .int k => isI P k | .bool => isBo P | .str => isSt P | .byts => isBy P | .tree => isTree P | .trees => isTrees P | .tag => isTag P | .tags => isTags P | .fl => isFl P | .fls => isFls P | .msg => isMsg P
def KOk : K → D → Prop
  | .int k, d => ∃ n, d = .int n ∧ (Lit.int k n).wf = true
  | .bool, d => ∃ b, d = .bool b
  | .str, d => ∃ s, d = .str s
  | .byts, d => ∃ s, d = encB s
  | .tree, d => ∃ t : T, d = t.d
  | .trees, d => ∃ l, d = encT l
  | .tag, d => ∃ t : Tg, d = t.d
  | .tags, d => ∃ l, d = encU l
  | .fl, d => ∃ f : Fl, d = f.d
  | .fls, d => ∃ l, d = encF l
  | .msg, d => ∃ fs fx, d = .row [encF fs, .int fx]

section
variable {P : Program} {ok : Nat → Prop} {w : World}
theorem sl_eq {t e : TypeId} (h : sl P t = some e) : P.underlying t = some (.slice e) := by
  unfold sl at h; split at h
  · rename_i e' hu; cases h; exact hu
  · cases h
theorem isI_eq {t : TypeId} {k : IntKind} (h : isI P k t = true) : P.underlying t = some (.int k) := by
  unfold isI at h; split at h
  · rename_i k' hu; rw [of_decide_eq_true h] at hu; exact hu
  · cases h
theorem isBo_eq {t : TypeId} (h : isBo P t = true) : P.underlying t = some .bool := by
  unfold isBo at h; split at h
  · assumption
  · cases h
theorem isSt_eq {t : TypeId} (h : isSt P t = true) : P.underlying t = some .string := by
  unfold isSt at h; split at h
  · assumption
  · cases h
theorem agg_eq {t : TypeId} (h : agg P t = true) : ∃ d, P.underlying t = some d ∧ isAggD d = true := by
  unfold agg at h; split at h
  · rename_i d hu; exact ⟨d, hu, h⟩
  · cases h
theorem isBy_eq {t : TypeId} (h : isBy P t = true) : ∃ e, P.underlying t = some (.slice e) ∧ P.underlying e = some (.int .u8) := by
  unfold isBy at h; split at h
  · rename_i e he; exact ⟨e, sl_eq he, isI_eq h⟩
  · cases h
theorem rep_int {t : TypeId} {k : IntKind} {v : Value} {d : D} (h : isI P k t = true) (hr : Rep P ok w t v d) : KOk (.int k) d := by
  have hu := isI_eq h
  cases hr with
  | int hu' hw => rw [hu] at hu'; cases hu'; exact ⟨_, rfl, hw⟩
  | row hu' hd => rw [hu] at hu'; cases hu'; simp [isAggD] at hd
  | _ => simp_all
theorem rep_bool {t : TypeId} {v : Value} {d : D} (h : isBo P t = true) (hr : Rep P ok w t v d) : KOk .bool d := by
  have hu := isBo_eq h
  cases hr with
  | bool => exact ⟨_, rfl⟩
  | row hu' hd => rw [hu] at hu'; cases hu'; simp [isAggD] at hd
  | _ => simp_all
theorem rep_str {t : TypeId} {v : Value} {d : D} (h : isSt P t = true) (hr : Rep P ok w t v d) : KOk .str d := by
  have hu := isSt_eq h
  cases hr with
  | str => exact ⟨_, rfl⟩
  | row hu' hd => rw [hu] at hu'; cases hu'; simp [isAggD] at hd
  | _ => simp_all
theorem rep_byts {t : TypeId} {v : Value} {d : D} (h : isBy P t = true) (hr : Rep P ok w t v d) : KOk .byts d := by
  obtain ⟨e, hu, he⟩ := isBy_eq h
  cases hr with
  | snil => exact ⟨none, rfl⟩
  | bytes => exact ⟨some _, rfl⟩
  | list hu' he' => rw [hu] at hu'; cases hu'; exact absurd he he'
  | row hu' hd => rw [hu] at hu'; cases hu'; simp [isAggD] at hd
  | _ => simp_all
/-- a row's cells -/
theorem rep_row {t : TypeId} {v : Value} {d : D} (h : agg P t = true) (hr : Rep P ok w t v d) : ∃ ds, d = .row ds ∧ ds.length = (tys P t).length ∧ ∀ (j : Nat) (u : TypeId) (x : D), (tys P t)[j]? = some u → ds[j]? = some x → ∃ v', Rep P ok w u v' x := by
  obtain ⟨dd, hu, ha⟩ := agg_eq h
  cases hr with
  | row hu' hd hlen hlen' h1 hr =>
    rename_i vs ds
    refine ⟨ds, rfl, hlen', fun j u x hj hx => ?_⟩
    have hj2 : j < vs.length := by rw [hlen]; exact (List.getElem?_eq_some_iff.1 hj).1
    exact ⟨vs[j], hr j u _ x hj (List.getElem?_eq_getElem hj2) hx⟩
  | int hu' => rw [hu] at hu'; cases hu'; simp [isAggD] at ha
  | bool hu' => rw [hu] at hu'; cases hu'; simp [isAggD] at ha
  | str hu' => rw [hu] at hu'; cases hu'; simp [isAggD] at ha
  | flt hu' => rw [hu] at hu'; cases hu'; simp [isAggD] at ha
  | snil hu' => rw [hu] at hu'; cases hu'; simp [isAggD] at ha
  | bytes hu' => rw [hu] at hu'; cases hu'; simp [isAggD] at ha
  | list hu' => rw [hu] at hu'; cases hu'; simp [isAggD] at ha
  | pnil hu' => rw [hu] at hu'; cases hu'; simp [isAggD] at ha
  | ptr hu' => rw [hu] at hu'; cases hu'; simp [isAggD] at ha
  | mnil hu' => rw [hu] at hu'; cases hu'; simp [isAggD] at ha
  | map hu' => rw [hu] at hu'; cases hu'; simp [isAggD] at ha
/-- a slice of rows -/
theorem rep_list {t e : TypeId} {v : Value} {d : D} (h : sl P t = some e) (ha : agg P e = true) (hr : Rep P ok w t v d) : d = .nil ∨ ∃ ds, d = .list ds ∧ ∀ x ∈ ds, ∃ v', Rep P ok w e v' x := by
  have hu := sl_eq h
  obtain ⟨dd, hue, hae⟩ := agg_eq ha
  cases hr with
  | snil => exact .inl rfl
  | bytes hu' he => rw [hu] at hu'; cases hu'; rw [hue] at he; cases he; simp [isAggD] at hae
  | list hu' he hi hok hlen hcap hmax hsz hc hr =>
    rw [hu] at hu'; cases hu'
    rename_i vs ds
    refine .inr ⟨ds, rfl, fun x hx => ?_⟩
    obtain ⟨j, hj, hjx⟩ := List.mem_iff_getElem.1 hx
    have hj2 : j < vs.length := by omega
    exact ⟨vs[j], hr j _ x (List.getElem?_eq_getElem hj2) (by rw [List.getElem?_eq_getElem hj, hjx])⟩
  | row hu' hd => rw [hu] at hu'; cases hu'; simp [isAggD] at hd
  | _ => simp_all
theorem choose_map {A : Type} {f : A → D} : ∀ {ds : List D}, (∀ x ∈ ds, ∃ a, x = f a) → ∃ l : List A, ds = l.map f
  | [], _ => ⟨[], rfl⟩
  | d :: ds, h => by
    obtain ⟨a, ha⟩ := h d (by simp)
    obtain ⟨l, hl⟩ := choose_map (f := f) (ds := ds) (fun x hx => h x (by simp [hx]))
    exact ⟨a :: l, by simp [ha, hl]⟩
theorem rep_tag {t : TypeId} {v : Value} {d : D} (h : isTag P t = true) (hr : Rep P ok w t v d) : KOk .tag d := by
  unfold isTag at h
  simp only [Bool.and_eq_true] at h
  obtain ⟨ha, h⟩ := h
  obtain ⟨ds, rfl, hlen, hcell⟩ := rep_row ha hr
  split at h
  · rename_i a b hty
    simp only [Bool.and_eq_true] at h
    rw [hty] at hlen hcell
    match ds, hlen with
    | [x, y], _ =>
      obtain ⟨v1, r1⟩ := hcell 0 a x rfl rfl
      obtain ⟨v2, r2⟩ := hcell 1 b y rfl rfl
      obtain ⟨n, rfl, _⟩ := rep_int h.1 r1
      obtain ⟨s, rfl⟩ := rep_byts h.2 r2
      exact ⟨⟨n, s⟩, rfl⟩
  · cases h
theorem isTag_agg {t : TypeId} (h : isTag P t = true) : agg P t = true := by
  unfold isTag at h; simp only [Bool.and_eq_true] at h; exact h.1
theorem isTree_agg {t : TypeId} (h : isTree P t = true) : agg P t = true := by
  unfold isTree at h; simp only [Bool.and_eq_true] at h; exact h.1
theorem isFl_agg {t : TypeId} (h : isFl P t = true) : agg P t = true := by
  unfold isFl at h; simp only [Bool.and_eq_true] at h; exact h.1
theorem rep_tags {t : TypeId} {v : Value} {d : D} (h : isTags P t = true) (hr : Rep P ok w t v d) : KOk .tags d := by
  unfold isTags at h
  split at h
  · rename_i e he
    rcases rep_list he (isTag_agg h) hr with rfl | ⟨ds, rfl, hx⟩
    · exact ⟨none, rfl⟩
    · obtain ⟨l, rfl⟩ := choose_map (f := Tg.d) (fun x hx' => by obtain ⟨v', r⟩ := hx x hx'; exact rep_tag h r)
      exact ⟨some l, rfl⟩
  · cases h
theorem rep_tree0 {t : TypeId} {v : Value} {d : D} (hr : Rep P ok w t v d) : (isTree P t = true → KOk .tree d) ∧ ∀ e, sl P t = some e → isTree P e = true → KOk .trees d := by
  have noAgg : ∀ {t : TypeId} {d : TypeDesc}, P.underlying t = some d → isAggD d = false → ¬ isTree P t = true := fun hu hd h => by
    obtain ⟨d', hu', ha⟩ := agg_eq (isTree_agg h)
    rw [hu] at hu'; cases hu'; rw [hd] at ha; cases ha
  have noSl : ∀ {t e : TypeId} {d : TypeDesc}, P.underlying t = some d → sl P t = some e → d = .slice e := fun hu h => by
    have := sl_eq h
    rw [hu] at this; cases this; rfl
  induction hr with
  | int hu _ => exact ⟨fun h => absurd h (noAgg hu rfl), fun e he => absurd (noSl hu he) (by simp)⟩
  | bool hu => exact ⟨fun h => absurd h (noAgg hu rfl), fun e he => absurd (noSl hu he) (by simp)⟩
  | str hu _ => exact ⟨fun h => absurd h (noAgg hu rfl), fun e he => absurd (noSl hu he) (by simp)⟩
  | flt hu => exact ⟨fun h => absurd h (noAgg hu rfl), fun e he => absurd (noSl hu he) (by simp)⟩
  | snil hu => exact ⟨fun h => absurd h (noAgg hu rfl), fun e he ht => ⟨none, rfl⟩⟩
  | bytes hu he8 _ _ _ _ =>
    refine ⟨fun h => absurd h (noAgg hu rfl), fun e he ht => ?_⟩
    have := noSl hu he
    cases this
    exact absurd ht (noAgg he8 rfl)
  | list hu he8 hi hok hlen hcap hmax hsz hc hr ih =>
    rename_i t' e' cap ad i vs ds
    refine ⟨fun h => absurd h (noAgg hu rfl), fun e he ht => ?_⟩
    have := noSl hu he
    cases this
    obtain ⟨l, rfl⟩ := choose_map (f := T.d) (ds := ds) (fun x hx => by
      obtain ⟨j, hj, hjx⟩ := List.mem_iff_getElem.1 hx
      have hj2 : j < vs.length := by omega
      exact (ih j _ x (List.getElem?_eq_getElem hj2) (by rw [List.getElem?_eq_getElem hj, hjx])).1 ht)
    exact ⟨some l, by simp [encT, tds_map]⟩
  | row hu hd hlen hlen' h1 hr ih =>
    rename_i t' d' vs ds
    refine ⟨fun h => ?_, fun e he ht => ?_⟩
    rotate_left
    · have := noSl hu he
      subst this
      simp [isAggD] at hd
    have h0 := h
    unfold isTree at h
    simp only [Bool.and_eq_true] at h
    obtain ⟨ha, h⟩ := h
    split at h
    · rename_i a b c d'' e hty
      simp only [Bool.and_eq_true, decide_eq_true_eq] at h
      obtain ⟨⟨⟨⟨q1, q2⟩, q3⟩, q4⟩, q5⟩ := h
      have cell : ∀ (j : Nat) (u : TypeId) (x : D), (tys P t')[j]? = some u → ds[j]? = some x → ∃ v', vs[j]? = some v' := fun j u x hj hx => by
        have hj2 : j < vs.length := by rw [hlen]; exact (List.getElem?_eq_some_iff.1 hj).1
        exact ⟨vs[j], List.getElem?_eq_getElem hj2⟩
      rw [hty] at hlen' hr ih cell
      match ds, hlen' with
      | [x1, x2, x3, x4, x5], _ =>
        obtain ⟨v1, r1⟩ := cell 0 a x1 rfl rfl
        obtain ⟨v2, r2⟩ := cell 1 b x2 rfl rfl
        obtain ⟨v3, r3⟩ := cell 2 c x3 rfl rfl
        obtain ⟨v4, r4⟩ := cell 3 d'' x4 rfl rfl
        obtain ⟨v5, r5⟩ := cell 4 e x5 rfl rfl
        obtain ⟨n, rfl, _⟩ := rep_int q1 (hr 0 a v1 x1 rfl r1 rfl)
        obtain ⟨s, rfl⟩ := rep_byts q2 (hr 1 b v2 x2 rfl r2 rfl)
        obtain ⟨bb, rfl⟩ := rep_bool q3 (hr 2 c v3 x3 rfl r3 rfl)
        obtain ⟨l, rfl⟩ := (ih 3 d'' v4 x4 rfl r4 rfl).2 t' q4 h0
        obtain ⟨u, rfl⟩ := rep_tags q5 (hr 4 e v5 x5 rfl r5 rfl)
        exact ⟨.mk n s bb l u, by simp [T.d]⟩
    · cases h
  | pnil hu => exact ⟨fun h => absurd h (noAgg hu rfl), fun e he => absurd (noSl hu he) (by simp)⟩
  | ptr hu _ _ _ _ => exact ⟨fun h => absurd h (noAgg hu rfl), fun e he => absurd (noSl hu he) (by simp)⟩
  | mnil hu => exact ⟨fun h => absurd h (noAgg hu rfl), fun e he => absurd (noSl hu he) (by simp)⟩
  | map hu _ _ _ _ _ _ _ _ _ _ => exact ⟨fun h => absurd h (noAgg hu rfl), fun e he => absurd (noSl hu he) (by simp)⟩
theorem rep_fl0 {t : TypeId} {v : Value} {d : D} (hr : Rep P ok w t v d) : (isFl P t = true → KOk .fl d) ∧ ∀ e, sl P t = some e → isFl P e = true → KOk .fls d := by
  have noAgg : ∀ {t : TypeId} {d : TypeDesc}, P.underlying t = some d → isAggD d = false → ¬ isFl P t = true := fun hu hd h => by
    obtain ⟨d', hu', ha⟩ := agg_eq (isFl_agg h)
    rw [hu] at hu'; cases hu'; rw [hd] at ha; cases ha
  have noSl : ∀ {t e : TypeId} {d : TypeDesc}, P.underlying t = some d → sl P t = some e → d = .slice e := fun hu h => by
    have := sl_eq h
    rw [hu] at this; cases this; rfl
  induction hr with
  | int hu _ => exact ⟨fun h => absurd h (noAgg hu rfl), fun e he => absurd (noSl hu he) (by simp)⟩
  | bool hu => exact ⟨fun h => absurd h (noAgg hu rfl), fun e he => absurd (noSl hu he) (by simp)⟩
  | str hu _ => exact ⟨fun h => absurd h (noAgg hu rfl), fun e he => absurd (noSl hu he) (by simp)⟩
  | flt hu => exact ⟨fun h => absurd h (noAgg hu rfl), fun e he => absurd (noSl hu he) (by simp)⟩
  | snil hu => exact ⟨fun h => absurd h (noAgg hu rfl), fun e he ht => ⟨none, rfl⟩⟩
  | bytes hu he8 _ _ _ _ =>
    refine ⟨fun h => absurd h (noAgg hu rfl), fun e he ht => ?_⟩
    have := noSl hu he
    cases this
    exact absurd ht (noAgg he8 rfl)
  | list hu he8 hi hok hlen hcap hmax hsz hc hr ih =>
    rename_i t' e' cap ad i vs ds
    refine ⟨fun h => absurd h (noAgg hu rfl), fun e he ht => ?_⟩
    have := noSl hu he
    cases this
    obtain ⟨l, rfl⟩ := choose_map (f := Fl.d) (ds := ds) (fun x hx => by
      obtain ⟨j, hj, hjx⟩ := List.mem_iff_getElem.1 hx
      have hj2 : j < vs.length := by omega
      exact (ih j _ x (List.getElem?_eq_getElem hj2) (by rw [List.getElem?_eq_getElem hj, hjx])).1 ht)
    exact ⟨some l, by simp [encF, fds_map]⟩
  | row hu hd hlen hlen' h1 hr ih =>
    rename_i t' d' vs ds
    refine ⟨fun h => ?_, fun e he ht => ?_⟩
    rotate_left
    · have := noSl hu he
      subst this
      simp [isAggD] at hd
    have h0 := h
    unfold isFl at h
    simp only [Bool.and_eq_true] at h
    obtain ⟨ha, h⟩ := h
    split at h
    · rename_i a b c d'' e f g hh hty
      simp only [Bool.and_eq_true, decide_eq_true_eq] at h
      obtain ⟨⟨⟨⟨⟨⟨⟨q1, q2⟩, q3⟩, q4⟩, q5⟩, q6⟩, q7⟩, q8⟩ := h
      have cell : ∀ (j : Nat) (u : TypeId) (x : D), (tys P t')[j]? = some u → ds[j]? = some x → ∃ v', vs[j]? = some v' := fun j u x hj hx => by
        have hj2 : j < vs.length := by rw [hlen]; exact (List.getElem?_eq_some_iff.1 hj).1
        exact ⟨vs[j], List.getElem?_eq_getElem hj2⟩
      rw [hty] at hlen' hr ih cell
      match ds, hlen' with
      | [x1, x2, x3, x4, x5, x6, x7, x8], _ =>
        obtain ⟨v1, r1⟩ := cell 0 a x1 rfl rfl
        obtain ⟨v2, r2⟩ := cell 1 b x2 rfl rfl
        obtain ⟨v3, r3⟩ := cell 2 c x3 rfl rfl
        obtain ⟨v4, r4⟩ := cell 3 d'' x4 rfl rfl
        obtain ⟨v5, r5⟩ := cell 4 e x5 rfl rfl
        obtain ⟨v6, r6⟩ := cell 5 f x6 rfl rfl
        obtain ⟨v7, r7⟩ := cell 6 g x7 rfl rfl
        obtain ⟨v8, r8⟩ := cell 7 hh x8 rfl rfl
        obtain ⟨n1, rfl, _⟩ := rep_int q1 (hr 0 a v1 x1 rfl r1 rfl)
        obtain ⟨n2, rfl, _⟩ := rep_int q2 (hr 1 b v2 x2 rfl r2 rfl)
        obtain ⟨n3, rfl, _⟩ := rep_int q3 (hr 2 c v3 x3 rfl r3 rfl)
        obtain ⟨n4, rfl, _⟩ := rep_int q4 (hr 3 d'' v4 x4 rfl r4 rfl)
        obtain ⟨n5, rfl, _⟩ := rep_int q5 (hr 4 e v5 x5 rfl r5 rfl)
        obtain ⟨n6, rfl, _⟩ := rep_int q6 (hr 5 f v6 x6 rfl r6 rfl)
        obtain ⟨n7, rfl, _⟩ := rep_int q7 (hr 6 g v7 x7 rfl r7 rfl)
        obtain ⟨l, rfl⟩ := (ih 7 hh v8 x8 rfl r8 rfl).2 t' q8 h0
        exact ⟨.mk n1 n2 n3 n4 n5 n6 n7 l, by simp [Fl.d]⟩
    · cases h
  | pnil hu => exact ⟨fun h => absurd h (noAgg hu rfl), fun e he => absurd (noSl hu he) (by simp)⟩
  | ptr hu _ _ _ _ => exact ⟨fun h => absurd h (noAgg hu rfl), fun e he => absurd (noSl hu he) (by simp)⟩
  | mnil hu => exact ⟨fun h => absurd h (noAgg hu rfl), fun e he => absurd (noSl hu he) (by simp)⟩
  | map hu _ _ _ _ _ _ _ _ _ _ => exact ⟨fun h => absurd h (noAgg hu rfl), fun e he => absurd (noSl hu he) (by simp)⟩
theorem isK_ok {k : K} {t : TypeId} {v : Value} {d : D} (h : isK P k t = true) (hr : Rep P ok w t v d) : KOk k d := by
  cases k with
  | int k => exact rep_int h hr
  | bool => exact rep_bool h hr
  | str => exact rep_str h hr
  | byts => exact rep_byts h hr
  | tree => exact (rep_tree0 hr).1 h
  | trees =>
    simp only [isK, isTrees] at h
    split at h
    · rename_i e he; exact (rep_tree0 hr).2 e he h
    · cases h
  | tag => exact rep_tag h hr
  | tags => exact rep_tags h hr
  | fl => exact (rep_fl0 hr).1 h
  | fls =>
    simp only [isK, isFls] at h
    split at h
    · rename_i e he; exact (rep_fl0 hr).2 e he h
    · cases h
  | msg =>
    simp only [isK, isMsg, Bool.and_eq_true] at h
    obtain ⟨ha, h⟩ := h
    obtain ⟨ds, rfl, hlen, hcell⟩ := rep_row ha hr
    split at h
    · rename_i a b hty
      simp only [Bool.and_eq_true] at h
      rw [hty] at hlen hcell
      match ds, hlen with
      | [x, y], _ =>
        obtain ⟨v1, r1⟩ := hcell 0 a x rfl rfl
        obtain ⟨v2, r2⟩ := hcell 1 b y rfl rfl
        obtain ⟨n, rfl, _⟩ := rep_int h.2 r2
        have h1 := h.1
        unfold isFls at h1
        split at h1
        · rename_i e he
          obtain ⟨s, rfl⟩ := (rep_fl0 r1).2 e he h1
          exact ⟨s, n, rfl⟩
        · cases h1
    · cases h
end

/-! ## Arguments -/
def isA (P : Program) : K → AK → Bool
  | k, .val t => isK P k t
  | .byts, .own t => isBy P t
  | _, _ => false
def areA (P : Program) : List K → List AK → Bool
  | [], [] => true
  | k :: ks, a :: as => isA P k a && areA P ks as
  | _, _ => false
inductive KsOk : List K → List D → Prop where
  | nil : KsOk [] []
  | cons {k d ks ds} (h : KOk k d) (hs : KsOk ks ds) : KsOk (k :: ks) (d :: ds)
theorem own_byts {P : Program} {ok : Nat → Prop} {w : World} {t : TypeId} {v : Value} {d : D} (h : isBy P t = true) (hr : OwnAt P ok w t v d) : KOk .byts d := by
  obtain ⟨e, hu, he⟩ := isBy_eq h
  obtain ⟨e', i, n, xs, hu', hi, hown, hD⟩ := hr
  rw [hu] at hu'; cases hu'
  cases hD with
  | nil => exact ⟨none, rfl⟩
  | bytes => exact ⟨some _, rfl⟩
  | list _ he' => exact absurd he he'
theorem areA_ok {P : Program} {ok : Nat → Prop} {w : World} : ∀ {ks : List K} {as : List AK} {vs : List Value} {ds : List D}, areA P ks as = true → ArgsOk P ok w as vs ds → KsOk ks ds
  | [], [], _, _, _, h => by cases h; exact .nil
  | k :: ks, a :: as, _, _, h, .cons hr hs => by
    simp only [areA, Bool.and_eq_true] at h
    refine .cons ?_ (areA_ok h.2 hs)
    have h1 := h.1
    cases hr with
    | val hr => exact isK_ok h1 hr
    | own hr =>
      cases k <;> simp only [isA, Bool.false_eq_true] at h1
      exact own_byts h1 hr
    | mcell => cases k <;> simp [isA] at h1
    | wcell => cases k <;> simp [isA] at h1
  | [], _ :: _, _, _, h, _ => by simp [areA] at h
  | _ :: _, [], _, _, h, _ => by simp [areA] at h
end Go.Mx

namespace Go.Mx
open Go Go.Dx

/-! ## What is read of a value represents it -/
def fldOk (P : Program) (good : List TypeId) (i : Nat) (f : Field) : Bool := decide (f.offset = i) && decide (P.cellsOf f.type = 1) && good.elem f.type && !agg P f.type
def fldsOk (P : Program) (good : List TypeId) : Nat → List Field → Bool
  | _, [] => true
  | i, f :: r => fldOk P good i f && fldsOk P good (i + 1) r
/-- a type whose parts are of these types too, each in one cell -/
def okT (P : Program) (good : List TypeId) (t : TypeId) : Bool :=
  match P.underlying t with
  | some .bool => true
  | some (.int _) => true
  | some .string => true
  | some (.slice e) => (P.info? e).isSome && decide (0 < P.cellsOf e) && good.elem e && (!isI P .u8 e || decide (P.cellsOf e = 1))
  | some (.struct fs) => decide (P.cellsOf t = fs.size) && decide (tys P t = fs.toList.map (·.type)) && fldsOk P good 0 fs.toList
  | _ => false

section
variable {H : Type} {enc : TypeId × Value → H} {P : Program} {w : World} {sp : Nat → Bool} {held : Bool} {good : List TypeId}
theorem fldsOk_get : ∀ {l : List Field} {i j : Nat} {f : Field}, fldsOk P good i l = true → l[j]? = some f → fldOk P good (i + j) f = true
  | g :: r, i, 0, f, h, hj => by
    simp only [List.getElem?_cons_zero, Option.some.injEq] at hj; subst hj
    simp only [fldsOk, Bool.and_eq_true] at h; exact h.1
  | g :: r, i, j + 1, f, h, hj => by
    simp only [List.getElem?_cons_succ] at hj
    simp only [fldsOk, Bool.and_eq_true] at h
    have := fldsOk_get h.2 hj
    rwa [show i + 1 + j = i + (j + 1) by omega] at this
theorem cell_lt {a : Addr} {v : Value} (h : w.cell? a = some v) : a.spot = none ∧ a.block < w.heap.size := by
  unfold World.cell? at h
  split at h
  · rename_i c t fr hb
    split at h
    · cases h
    · rename_i hs
      exact ⟨by simpa using hs, (Array.getElem?_eq_some_iff.1 hb).1⟩
  · cases h
theorem size_of {e : TypeId} {i : TypeInfo} (h : P.info? e = some i) : P.cellsOf e = i.size := by simp [Program.cellsOf, h]
theorem elem_good {t : TypeId} (h : good.elem t = true) : t ∈ good := by simpa using h

theorem rep_trod (hg : ∀ t ∈ good, okT P good t = true) (hsp : ∀ b, sp b = true) : ∀ (fuel : Nat) (t : TypeId) (cs : List Value) (x : DataW H × List MemPlace), t ∈ good → DataW.trod enc P w 0 sp held fuel t cs = some x →
    ∃ v d, v.cells.toList = cs ∧ Rep P (fun b => b < w.heap.size) w t v d ∧ (agg P t = false → cs = [v]) := by
  intro fuel
  induction fuel using Nat.strongRecOn with
  | _ fuel ih =>
    intro t cs x ht h
    have hok := hg t ht
    unfold okT at hok
    split at hok
    · rename_i hu
      obtain ⟨b, rfl, _⟩ := DataW.trod_bool hu h
      exact ⟨.bool b, _, rfl, .bool hu, fun _ => rfl⟩
    · rename_i k hu
      obtain ⟨n, rfl, _, hw⟩ := DataW.trod_int hu h
      exact ⟨.int k n, _, rfl, .int hu hw, fun _ => rfl⟩
    · rename_i hu
      obtain ⟨s, rfl, _, hs⟩ := DataW.trod_string hu h
      exact ⟨.string s, _, rfl, .str hu hs, fun _ => rfl⟩
    · rename_i e hu
      simp only [Bool.and_eq_true, decide_eq_true_eq] at hok
      obtain ⟨⟨⟨hinf, hpos⟩, hge⟩, hu8⟩ := hok
      obtain ⟨i, hi⟩ := Option.isSome_iff_exists.1 hinf
      have hsz := size_of hi
      rcases DataW.trod_slice hu h with ⟨rfl, _⟩ | ⟨a, len, cap, elems, rest, n, rfl, rfl, _, hb, hlc, hcm, hlen, hel, hrest, _⟩
      · exact ⟨.slice none 0 0, _, rfl, .snil hu, fun _ => rfl⟩
      · refine ⟨.slice (some a) len cap, ?_⟩
        have hel' : ∀ j, j < len → ∃ cj yj, w.cells? 0 (a.add (j * P.cellsOf e)) (P.cellsOf e) = some cj ∧ DataW.trod enc P w 0 sp held n e cj = some yj := fun j hj => by
          have := hel j hj
          rw [List.getElem?_eq_getElem (by omega)] at this
          obtain ⟨cj, h1, h2⟩ := Option.bind_eq_some_iff.1 this
          exact ⟨cj, _, h1, h2⟩
        have hspot : 0 < cap → a.spot = none ∧ a.block < w.heap.size := fun h0 => by
          have hread : ∃ cj, w.cells? 0 a (P.cellsOf e) = some cj := by
            by_cases hl0 : 0 < len
            · obtain ⟨cj, _, h1, _⟩ := hel' 0 hl0
              exact ⟨cj, by simpa [Addr.add] using h1⟩
            · have hl : len = 0 := by omega
              obtain ⟨hr1, hr2⟩ := hrest (hsp _)
              have := hr2 0 (by omega)
              rw [List.getElem?_eq_getElem (by omega)] at this
              obtain ⟨cj, h1, _⟩ := Option.bind_eq_some_iff.1 this
              exact ⟨cj, by simpa [Addr.add, hl] using h1⟩
          obtain ⟨cj, hcj⟩ := hread
          obtain ⟨_, hlj, hcell⟩ := World.cells?_some hcj
          have h1 := hcell 0 hpos
          rw [List.getElem?_eq_getElem (by omega)] at h1
          have h2 := cell_lt h1
          simpa [Addr.add] using h2
        have hch : ∀ j : Nat, ∃ q : Value × D, j < len → (∀ i, i < P.cellsOf e → w.cell? ((a.add (j * P.cellsOf e)).add i) = q.1.cells.toList[i]?) ∧ q.1.cells.size = P.cellsOf e ∧ Rep P (fun b => b < w.heap.size) w e q.1 q.2 ∧ (agg P e = false → q.1.cells = #[q.1]) := fun j => by
          by_cases hj : j < len
          · obtain ⟨cj, yj, h1, h2⟩ := hel' j hj
            obtain ⟨_, hlj, hcell⟩ := World.cells?_some h1
            obtain ⟨v, d, k1, k2, k3⟩ := ih n (by omega) e cj yj (elem_good hge) h2
            refine ⟨(v, d), fun _ => ⟨fun i hi => by rw [hcell i hi, ← k1], by rw [← Array.length_toList, k1, hlj], k2, fun ha => ?_⟩⟩
            have := k3 ha
            rw [← k1] at this
            exact Array.toList_inj.1 (by rw [this])
          · exact ⟨(undef, .nil), fun h => absurd h hj⟩
        obtain ⟨q, hq⟩ := Classical.axiomOfChoice hch
        cases h8 : isI P .u8 e with
        | true =>
          have hue := isI_eq h8
          rw [h8] at hu8
          have hs1 : P.cellsOf e = 1 := by simpa using hu8
          have hag : agg P e = false := by simp [agg, hue, isAggD]
          have hb8 : ∀ j, j < len → ∃ x : UInt8, (q j).1 = .int .u8 x.toNat := fun j hj => by
            obtain ⟨_, _, hr, _⟩ := hq j hj
            generalize (q j).1 = v at hr
            generalize (q j).2 = d at hr
            obtain ⟨m, rfl, hw⟩ := rep_int h8 hr
            cases hr with
            | int hu' hw' =>
              rw [hue] at hu'; cases hu'
              have hb : 0 ≤ m ∧ m < 256 := by
                simp [Lit.wf, IntKind.min, IntKind.max, IntKind.signed, IntKind.bits] at hw; omega
              refine ⟨UInt8.ofNat m.toNat, ?_⟩
              have : (UInt8.ofNat m.toNat).toNat = m.toNat := by simp [UInt8.toNat_ofNat']; omega
              rw [this]; congr 1; omega
          obtain ⟨y, hy⟩ := Classical.axiomOfChoice (r := fun (j : Nat) (x : UInt8) => j < len → (q j).1 = .int .u8 x.toNat) (fun j => by
            by_cases hj : j < len
            · obtain ⟨x, hx⟩ := hb8 j hj; exact ⟨x, fun _ => hx⟩
            · exact ⟨0, fun h => absurd h hj⟩)
          have hl : ((List.range len).map y).length = len := by simp
          have := Rep.bytes (ok := fun b => b < w.heap.size) (w := w) (s := (List.range len).map y) (ad := a) (cap := cap) hu hue hspot (by rw [hl]; exact hlc) hcm (fun j v hj => by
            rw [List.getElem?_map, List.getElem?_map] at hj
            have hjl : j < len := by
              by_cases hh : j < len
              · exact hh
              · rw [List.getElem?_eq_none (by simp; omega)] at hj; cases hj
            rw [List.getElem?_range hjl] at hj
            simp only [Option.map_some, Option.some.injEq] at hj
            subst hj
            obtain ⟨h1, h2, _, h3⟩ := hq j hjl
            have h4 := h1 0 (by omega)
            rw [h3 hag, hs1, Nat.mul_one] at h4
            have hcap : 0 < cap := by omega
            rw [at_add (hspot hcap).1, addr_add, Nat.add_zero] at h4
            rw [h4, hy j hjl]; rfl)
          rw [hl] at this
          exact ⟨_, rfl, this, fun _ => rfl⟩
        | false =>
          have hne : P.underlying e ≠ some (.int .u8) := fun hh => by simp [isI, hh] at h8
          have hl : ((List.range len).map fun j => (q j).2).length = len := by simp
          have hget : ∀ {A : Type} (f : Nat → A) (j : Nat) (v : A), ((List.range len).map f)[j]? = some v → j < len ∧ v = f j := fun f j v hj => by
            rw [List.getElem?_map] at hj
            have hjl : j < len := by
              by_cases hh : j < len
              · exact hh
              · rw [List.getElem?_eq_none (by simp; omega)] at hj; cases hj
            rw [List.getElem?_range hjl] at hj
            simp only [Option.map_some, Option.some.injEq] at hj
            exact ⟨hjl, hj.symm⟩
          have := Rep.list (ok := fun b => b < w.heap.size) (w := w) (vs := (List.range len).map fun j => (q j).1) (ds := (List.range len).map fun j => (q j).2) (ad := a) (cap := cap) hu hne hi hspot (by simp) (by rw [hl]; exact hlc) hcm
            (fun v hv => by
              obtain ⟨j, hj, rfl⟩ := List.mem_map.1 hv
              rw [(hq j (List.mem_range.1 hj)).2.1, hsz])
            (fun j v hj i u hi' => by
              obtain ⟨hjl, rfl⟩ := hget _ j v hj
              obtain ⟨h1, h2, _, _⟩ := hq j hjl
              have hil : i < P.cellsOf e := by
                rw [← h2]
                have := (List.getElem?_eq_some_iff.1 hi').1
                simpa using this
              have h4 := h1 i hil
              have hcap : 0 < cap := by omega
              rw [at_add (hspot hcap).1, addr_add, hsz] at h4
              rw [h4]; exact hi')
            (fun j v d h1 h2 => by
              obtain ⟨hjl, rfl⟩ := hget _ j v h1
              obtain ⟨_, rfl⟩ := hget _ j d h2
              exact (hq j hjl).2.2.1)
          rw [hl] at this
          exact ⟨_, rfl, this, fun _ => rfl⟩
    · rename_i fs hu
      simp only [Bool.and_eq_true, decide_eq_true_eq] at hok
      obtain ⟨⟨hcs, hty⟩, hfl⟩ := hok
      obtain ⟨xs, n, rfl, _, hlen, hxl, hel⟩ := DataW.trod_struct hu h
      have hag : agg P t = true := by simp [agg, hu, isAggD]
      have hl1 : cs.length = fs.size := by rw [hlen, hcs]
      have hch : ∀ j : Nat, ∃ d : D, ∀ (f : Field) (v : Value), fs[j]? = some f → cs[j]? = some v → Rep P (fun b => b < w.heap.size) w f.type v d ∧ v.cells = #[v] := fun j => by
        by_cases hj : j < fs.size
        · have hfj : fs[j]? = some fs[j] := Array.getElem?_eq_getElem hj
          have hfo := fldsOk_get (i := 0) hfl (by rw [Array.getElem?_toList]; exact hfj)
          unfold fldOk at hfo
          simp only [Bool.and_eq_true, decide_eq_true_eq, Nat.zero_add, Bool.not_eq_true'] at hfo
          obtain ⟨⟨⟨o1, o2⟩, o3⟩, o4⟩ := hfo
          have h1 := hel j _ hfj
          rw [o1, o2, List.getElem?_eq_getElem (by omega)] at h1
          obtain ⟨v, d, k1, k2, k3⟩ := ih n (by omega) _ _ _ (elem_good o3) h1
          have k4 := k3 o4
          refine ⟨d, fun f u hf hu' => ?_⟩
          rw [hfj] at hf; cases hf
          have : (cs.drop j).take 1 = [u] := by
            rw [List.drop_eq_getElem_cons (by omega)]
            have := (List.getElem?_eq_some_iff.1 hu').2
            simp [this]
          rw [this] at k4 k1
          cases k4
          exact ⟨k2, Array.toList_inj.1 (by rw [k1])⟩
        · exact ⟨.nil, fun f v hf => by rw [Array.getElem?_eq_none (by omega)] at hf; cases hf⟩
      obtain ⟨q, hq⟩ := Classical.axiomOfChoice hch
      have htl : (tys P t).length = fs.size := by rw [hty]; simp
      refine ⟨.agg cs.toArray, .row ((List.range fs.size).map q), rfl, ?_, fun h => by rw [hag] at h; cases h⟩
      refine .row hu rfl (by rw [htl, hl1]) (by simp [htl]) (fun v hv => ?_) (fun j u v d hj hv hd => ?_)
      · obtain ⟨j, hj, rfl⟩ := List.mem_iff_getElem.1 hv
        have hjf : j < fs.size := by omega
        exact (hq j fs[j] _ (Array.getElem?_eq_getElem hjf) (List.getElem?_eq_getElem hj)).2
      · rw [hty, List.getElem?_map, Array.getElem?_toList] at hj
        obtain ⟨f, hf, rfl⟩ := Option.map_eq_some_iff.1 hj
        rw [List.getElem?_map] at hd
        have hjf := (Array.getElem?_eq_some_iff.1 hf).1
        rw [List.getElem?_range hjf] at hd
        simp only [Option.map_some, Option.some.injEq] at hd
        subst hd
        exact (hq j f v hf hv).1
    · cases hok
end
end Go.Mx

namespace Go.Mx
open Go Go.Dx

/-! ## What each function gives back, what it asks; its arguments' kinds -/
def deK : Nat → DE
  | 1 => de1
  | 2 => de2
  | 4 => de4
  | 5 => de5
  | 6 => de6
  | 7 => de7
  | 10 => de10
  | 11 => de11
  | 12 => de12
  | 15 => de15
  | 17 => de17
  | 26 => de26
  | 27 => de27
  | 29 => de29
  | 30 => de30
  | 40 => de40
  | 41 => de41
  | 42 => de42
  | 43 => de43
  | 44 => de44
  | 45 => de45
  | 46 => de46
  | 47 => de47
  | 48 => de48
  | 49 => de49
  | 50 => de50
  | 51 => de51
  | 52 => de52
  | 53 => de53
  | 54 => de54
  | 55 => de55
  | 56 => de56
  | 57 => de57
  | 58 => de58
  | 59 => de59
  | 60 => de60
  | _ => .k .nil
def obK : Nat → List Ob
  | 1 => ob1
  | 2 => ob2
  | 4 => ob4
  | 5 => ob5
  | 6 => ob6
  | 7 => ob7
  | 10 => ob10
  | 11 => ob11
  | 12 => ob12
  | 15 => ob15
  | 17 => ob17
  | 26 => ob26
  | 27 => ob27
  | 29 => ob29
  | 30 => ob30
  | 40 => ob40
  | 41 => ob41
  | 42 => ob42
  | 43 => ob43
  | 44 => ob44
  | 45 => ob45
  | 46 => ob46
  | 47 => ob47
  | 48 => ob48
  | 49 => ob49
  | 50 => ob50
  | 51 => ob51
  | 52 => ob52
  | 53 => ob53
  | 54 => ob54
  | 55 => ob55
  | 56 => ob56
  | 57 => ob57
  | 58 => ob58
  | 59 => ob59
  | 60 => ob60
  | _ => []
def sig : Nat → List K
  | 1 => [.tree, .int .i64]
  | 2 => [.byts, .bool]
  | 4 => [.byts, .int .i16]
  | 5 => [.byts, .int .u16]
  | 6 => [.byts, .int .i32]
  | 7 => [.byts, .int .i64]
  | 10 => [.byts, .int .u32]
  | 11 => [.byts, .str]
  | 12 => [.byts, .str]
  | 15 => [.byts, .byts]
  | 17 => [.byts, .byts]
  | 26 => [.tree]
  | 27 => [.tree]
  | 29 => [.byts, .int .u64]
  | 30 => [.byts, .int .u32]
  | 40 => [.tree, .int .i64]
  | 41 => [.fls, .tags]
  | 42 => [.fl, .int .i64, .tree]
  | 43 => [.fls, .int .i64, .tree]
  | 44 => [.tree]
  | 45 => [.int .i64, .int .i64]
  | 46 => [.int .u64]
  | 47 => [.fls, .int .i64, .bool, .tree]
  | 48 => [.int .i64, .fls, .bool, .int .i64, .bool, .tree]
  | 49 => [.fl, .int .i64, .bool, .tree]
  | 50 => [.fl, .tree]
  | 51 => [.fls]
  | 52 => [.byts, .byts]
  | 53 => [.bool, .bool, .int .i64, .int .i64]
  | 54 => [.tree]
  | 55 => [.int .i64]
  | 56 => [.fl, .int .i64, .tree]
  | 57 => [.fl, .int .i64]
  | 58 => [.int .u8, .int .i64]
  | 59 => [.msg, .int .i64, .tree]
  | 60 => [.msg, .int .i64, .tree]
  | _ => []
def rank : Nat → Nat
  | 4 => 1
  | 6 => 1
  | 7 => 1
  | 10 => 1
  | 11 => 2
  | 12 => 2
  | 15 => 2
  | 17 => 3
  | 41 => 1
  | 42 => 5
  | 43 => 5
  | 44 => 5
  | 47 => 5
  | 48 => 5
  | 49 => 5
  | 50 => 5
  | 53 => 1
  | 59 => 6
  | 60 => 7
  | _ => 0
def known? : Nat → Bool
  | 1 => true
  | 2 => true
  | 4 => true
  | 5 => true
  | 6 => true
  | 7 => true
  | 10 => true
  | 11 => true
  | 12 => true
  | 15 => true
  | 17 => true
  | 26 => true
  | 27 => true
  | 29 => true
  | 30 => true
  | 40 => true
  | 41 => true
  | 42 => true
  | 43 => true
  | 44 => true
  | 45 => true
  | 46 => true
  | 47 => true
  | 48 => true
  | 49 => true
  | 50 => true
  | 51 => true
  | 52 => true
  | 53 => true
  | 54 => true
  | 55 => true
  | 56 => true
  | 57 => true
  | 58 => true
  | 59 => true
  | 60 => true
  | _ => false

theorem wf_u8 {n : Int} (h : (Lit.int .u8 n).wf = true) : 0 ≤ n ∧ n < 256 := by
  simp [Lit.wf, IntKind.min, IntKind.max, IntKind.signed, IntKind.bits] at h; omega
theorem wf_u32 {n : Int} (h : (Lit.int .u32 n).wf = true) : 0 ≤ n ∧ n < 4294967296 := by
  simp [Lit.wf, IntKind.min, IntKind.max, IntKind.signed, IntKind.bits] at h; omega
theorem wf_u64 {n : Int} (h : (Lit.int .u64 n).wf = true) : 0 ≤ n ∧ n < 18446744073709551616 := by
  simp [Lit.wf, IntKind.min, IntKind.max, IntKind.signed, IntKind.bits] at h; omega

mutual
theorem Ob.mono {Y : Nat → List D → D} {P Q : Nat → List D → Prop} (h : ∀ k ds, P k ds → Q k ds) : ∀ (o : Ob) (δ : List D), o.holds Y P δ → o.holds Y Q δ
  | .room _ _, _, ho => ho
  | .cap _ _, _, ho => ho
  | .nz _, _, ho => ho
  | .ge0 _, _, ho => ho
  | .term _ _ _ _, _, ho => ho
  | .idx _ _ _, _, ho => ho
  | .pre _ _, _, ho => h _ _ ho
  | .all _ _ _ os, _, ho => fun k hk => Obs.mono h os _ (ho k hk)
  | .when _ _ os, _, ho => fun hc => Obs.mono h os _ (ho hc)
theorem Obs.mono {Y : Nat → List D → D} {P Q : Nat → List D → Prop} (h : ∀ k ds, P k ds → Q k ds) : ∀ (os : List Ob) (δ : List D), obsHold Y P os δ → obsHold Y Q os δ
  | [], _, _ => trivial
  | o :: os, _, ho => ⟨Ob.mono h o _ ho.1, Obs.mono h os _ ho.2⟩
end
theorem pre_side {n k : Nat} {ds : List D} (h : Pre n k ds) : side k ds := h.2
theorem ctr_mono {P : Program} {Y : Nat → List D → D} {A B : Nat → List D → Prop} {f : FuncId} {c : Ctr} (h : ∀ ds, B c.fn ds → A c.fn ds) (hc : CtrOk P Y A f c) : CtrOk P Y B f c :=
  ⟨hc.1, fun ok w vs ds h1 h2 h3 h4 => hc.2 ok w vs ds h1 h2 h3 (fun hp => h ds (h4 hp))⟩

theorem evA1 : ∀ (ds : List D), KsOk (sig 1) ds → side 1 ds → obsHold X side (obK 1) ds ∧ (deK 1).eval X ds = X 1 ds := fun ds hk h => by
  obtain @⟨⟩ | @⟨_, d1, _, _, k1, hk⟩ := hk
  obtain @⟨⟩ | @⟨_, d2, _, _, k2, hk⟩ := hk
  cases hk
  obtain ⟨x1, rfl⟩ := k1
  obtain ⟨x2, rfl, w2⟩ := k2
  have e := ev1 x1 x2 h 0
  exact ⟨Obs.mono (fun _ _ h => pre_side h) _ _ e.1, e.2⟩

theorem evA2 : ∀ (ds : List D), KsOk (sig 2) ds → side 2 ds → obsHold X side (obK 2) ds ∧ (deK 2).eval X ds = X 2 ds := fun ds hk h => by
  obtain @⟨⟩ | @⟨_, d1, _, _, k1, hk⟩ := hk
  obtain @⟨⟩ | @⟨_, d2, _, _, k2, hk⟩ := hk
  cases hk
  obtain ⟨x1, rfl⟩ := k1
  obtain ⟨x2, rfl⟩ := k2
  have e := ev2 x1 x2 0 h
  exact ⟨Obs.mono (fun _ _ h => pre_side h) _ _ e.1, e.2⟩

theorem evA4 : ∀ (ds : List D), KsOk (sig 4) ds → side 4 ds → obsHold X side (obK 4) ds ∧ (deK 4).eval X ds = X 4 ds := fun ds hk h => by
  obtain @⟨⟩ | @⟨_, d1, _, _, k1, hk⟩ := hk
  obtain @⟨⟩ | @⟨_, d2, _, _, k2, hk⟩ := hk
  cases hk
  obtain ⟨x1, rfl⟩ := k1
  obtain ⟨x2, rfl, w2⟩ := k2
  have e := ev4 x1 x2 0 h
  exact ⟨Obs.mono (fun _ _ h => pre_side h) _ _ e.1, e.2⟩

theorem evA5 : ∀ (ds : List D), KsOk (sig 5) ds → side 5 ds → obsHold X side (obK 5) ds ∧ (deK 5).eval X ds = X 5 ds := fun ds hk h => by
  obtain @⟨⟩ | @⟨_, d1, _, _, k1, hk⟩ := hk
  obtain @⟨⟩ | @⟨_, d2, _, _, k2, hk⟩ := hk
  cases hk
  obtain ⟨x1, rfl⟩ := k1
  obtain ⟨x2, rfl, w2⟩ := k2
  have e := ev5 x1 x2 0 h
  exact ⟨Obs.mono (fun _ _ h => pre_side h) _ _ e.1, e.2⟩

theorem evA6 : ∀ (ds : List D), KsOk (sig 6) ds → side 6 ds → obsHold X side (obK 6) ds ∧ (deK 6).eval X ds = X 6 ds := fun ds hk h => by
  obtain @⟨⟩ | @⟨_, d1, _, _, k1, hk⟩ := hk
  obtain @⟨⟩ | @⟨_, d2, _, _, k2, hk⟩ := hk
  cases hk
  obtain ⟨x1, rfl⟩ := k1
  obtain ⟨x2, rfl, w2⟩ := k2
  have e := ev6 x1 x2 0 h
  exact ⟨Obs.mono (fun _ _ h => pre_side h) _ _ e.1, e.2⟩

theorem evA7 : ∀ (ds : List D), KsOk (sig 7) ds → side 7 ds → obsHold X side (obK 7) ds ∧ (deK 7).eval X ds = X 7 ds := fun ds hk h => by
  obtain @⟨⟩ | @⟨_, d1, _, _, k1, hk⟩ := hk
  obtain @⟨⟩ | @⟨_, d2, _, _, k2, hk⟩ := hk
  cases hk
  obtain ⟨x1, rfl⟩ := k1
  obtain ⟨x2, rfl, w2⟩ := k2
  have e := ev7 x1 x2 0 h
  exact ⟨Obs.mono (fun _ _ h => pre_side h) _ _ e.1, e.2⟩

theorem evA10 : ∀ (ds : List D), KsOk (sig 10) ds → side 10 ds → obsHold X side (obK 10) ds ∧ (deK 10).eval X ds = X 10 ds := fun ds hk h => by
  obtain @⟨⟩ | @⟨_, d1, _, _, k1, hk⟩ := hk
  obtain @⟨⟩ | @⟨_, d2, _, _, k2, hk⟩ := hk
  cases hk
  obtain ⟨x1, rfl⟩ := k1
  obtain ⟨x2, rfl, w2⟩ := k2
  have e := ev10 x1 x2 0 (wf_u32 w2).1 (wf_u32 w2).2 h
  exact ⟨Obs.mono (fun _ _ h => pre_side h) _ _ e.1, e.2⟩

theorem evA11 : ∀ (ds : List D), KsOk (sig 11) ds → side 11 ds → obsHold X side (obK 11) ds ∧ (deK 11).eval X ds = X 11 ds := fun ds hk h => by
  obtain @⟨⟩ | @⟨_, d1, _, _, k1, hk⟩ := hk
  obtain @⟨⟩ | @⟨_, d2, _, _, k2, hk⟩ := hk
  cases hk
  obtain ⟨x1, rfl⟩ := k1
  obtain ⟨x2, rfl⟩ := k2
  have e := ev11 x1 x2 0 h
  exact ⟨Obs.mono (fun _ _ h => pre_side h) _ _ e.1, e.2⟩

theorem evA12 : ∀ (ds : List D), KsOk (sig 12) ds → side 12 ds → obsHold X side (obK 12) ds ∧ (deK 12).eval X ds = X 12 ds := fun ds hk h => by
  obtain @⟨⟩ | @⟨_, d1, _, _, k1, hk⟩ := hk
  obtain @⟨⟩ | @⟨_, d2, _, _, k2, hk⟩ := hk
  cases hk
  obtain ⟨x1, rfl⟩ := k1
  obtain ⟨x2, rfl⟩ := k2
  have e := ev12 x1 x2 0 h
  exact ⟨Obs.mono (fun _ _ h => pre_side h) _ _ e.1, e.2⟩

theorem evA15 : ∀ (ds : List D), KsOk (sig 15) ds → side 15 ds → obsHold X side (obK 15) ds ∧ (deK 15).eval X ds = X 15 ds := fun ds hk h => by
  obtain @⟨⟩ | @⟨_, d1, _, _, k1, hk⟩ := hk
  obtain @⟨⟩ | @⟨_, d2, _, _, k2, hk⟩ := hk
  cases hk
  obtain ⟨x1, rfl⟩ := k1
  obtain ⟨x2, rfl⟩ := k2
  have e := ev15 x1 x2 0 h
  exact ⟨Obs.mono (fun _ _ h => pre_side h) _ _ e.1, e.2⟩

theorem evA17 : ∀ (ds : List D), KsOk (sig 17) ds → side 17 ds → obsHold X side (obK 17) ds ∧ (deK 17).eval X ds = X 17 ds := fun ds hk h => by
  obtain @⟨⟩ | @⟨_, d1, _, _, k1, hk⟩ := hk
  obtain @⟨⟩ | @⟨_, d2, _, _, k2, hk⟩ := hk
  cases hk
  obtain ⟨x1, rfl⟩ := k1
  obtain ⟨x2, rfl⟩ := k2
  have e := ev17 x1 x2 0 h
  exact ⟨Obs.mono (fun _ _ h => pre_side h) _ _ e.1, e.2⟩

theorem evA26 : ∀ (ds : List D), KsOk (sig 26) ds → side 26 ds → obsHold X side (obK 26) ds ∧ (deK 26).eval X ds = X 26 ds := fun ds hk h => by
  obtain @⟨⟩ | @⟨_, d1, _, _, k1, hk⟩ := hk
  cases hk
  obtain ⟨x1, rfl⟩ := k1
  have e := ev26 x1 0
  exact ⟨Obs.mono (fun _ _ h => pre_side h) _ _ e.1, e.2⟩

theorem evA27 : ∀ (ds : List D), KsOk (sig 27) ds → side 27 ds → obsHold X side (obK 27) ds ∧ (deK 27).eval X ds = X 27 ds := fun ds hk h => by
  obtain @⟨⟩ | @⟨_, d1, _, _, k1, hk⟩ := hk
  cases hk
  obtain ⟨x1, rfl⟩ := k1
  have e := ev27 x1 0 h
  exact ⟨Obs.mono (fun _ _ h => pre_side h) _ _ e.1, e.2⟩

theorem evA29 : ∀ (ds : List D), KsOk (sig 29) ds → side 29 ds → obsHold X side (obK 29) ds ∧ (deK 29).eval X ds = X 29 ds := fun ds hk h => by
  obtain @⟨⟩ | @⟨_, d1, _, _, k1, hk⟩ := hk
  obtain @⟨⟩ | @⟨_, d2, _, _, k2, hk⟩ := hk
  cases hk
  obtain ⟨x1, rfl⟩ := k1
  obtain ⟨x2, rfl, w2⟩ := k2
  have e := ev29 x1 x2 0 h
  exact ⟨Obs.mono (fun _ _ h => pre_side h) _ _ e.1, e.2⟩

theorem evA30 : ∀ (ds : List D), KsOk (sig 30) ds → side 30 ds → obsHold X side (obK 30) ds ∧ (deK 30).eval X ds = X 30 ds := fun ds hk h => by
  obtain @⟨⟩ | @⟨_, d1, _, _, k1, hk⟩ := hk
  obtain @⟨⟩ | @⟨_, d2, _, _, k2, hk⟩ := hk
  cases hk
  obtain ⟨x1, rfl⟩ := k1
  obtain ⟨x2, rfl, w2⟩ := k2
  have e := ev30 x1 x2 0 h
  exact ⟨Obs.mono (fun _ _ h => pre_side h) _ _ e.1, e.2⟩

theorem evA40 : ∀ (ds : List D), KsOk (sig 40) ds → side 40 ds → obsHold X side (obK 40) ds ∧ (deK 40).eval X ds = X 40 ds := fun ds hk h => by
  obtain @⟨⟩ | @⟨_, d1, _, _, k1, hk⟩ := hk
  obtain @⟨⟩ | @⟨_, d2, _, _, k2, hk⟩ := hk
  cases hk
  obtain ⟨x1, rfl⟩ := k1
  obtain ⟨x2, rfl, w2⟩ := k2
  have e := ev40 x1 x2 h 0
  exact ⟨Obs.mono (fun _ _ h => pre_side h) _ _ e.1, e.2⟩

theorem evA41 : ∀ (ds : List D), KsOk (sig 41) ds → side 41 ds → obsHold X side (obK 41) ds ∧ (deK 41).eval X ds = X 41 ds := fun ds hk h => by
  obtain @⟨⟩ | @⟨_, d1, _, _, k1, hk⟩ := hk
  obtain @⟨⟩ | @⟨_, d2, _, _, k2, hk⟩ := hk
  cases hk
  obtain ⟨x1, rfl⟩ := k1
  obtain ⟨x2, rfl⟩ := k2
  have e := ev41 x1 x2 0 (by rw [side_41, decF_enc] at h; exact h)
  exact ⟨Obs.mono (fun _ _ h => pre_side h) _ _ e.1, e.2⟩

theorem evR42 (n : Nat) : ∀ (ds : List D), KsOk (sig 42) ds → Pre (n + 1) 42 ds → obsHold X (Pre n) (obK 42) ds ∧ (deK 42).eval X ds = X 42 ds := fun ds hk h => by
  obtain @⟨⟩ | @⟨_, d1, _, _, k1, hk⟩ := hk
  obtain @⟨⟩ | @⟨_, d2, _, _, k2, hk⟩ := hk
  obtain @⟨⟩ | @⟨_, d3, _, _, k3, hk⟩ := hk
  cases hk
  obtain ⟨x1, rfl⟩ := k1
  obtain ⟨x2, rfl, w2⟩ := k2
  obtain ⟨x3, rfl⟩ := k3
  exact ev42 x1 x2 x3 n h

theorem evR43 (n : Nat) : ∀ (ds : List D), KsOk (sig 43) ds → Pre (n + 1) 43 ds → obsHold X (Pre n) (obK 43) ds ∧ (deK 43).eval X ds = X 43 ds := fun ds hk h => by
  obtain @⟨⟩ | @⟨_, d1, _, _, k1, hk⟩ := hk
  obtain @⟨⟩ | @⟨_, d2, _, _, k2, hk⟩ := hk
  obtain @⟨⟩ | @⟨_, d3, _, _, k3, hk⟩ := hk
  cases hk
  obtain ⟨x1, rfl⟩ := k1
  obtain ⟨x2, rfl, w2⟩ := k2
  obtain ⟨x3, rfl⟩ := k3
  exact ev43 x1 x2 x3 n h

theorem evR44 (n : Nat) : ∀ (ds : List D), KsOk (sig 44) ds → Pre (n + 1) 44 ds → obsHold X (Pre n) (obK 44) ds ∧ (deK 44).eval X ds = X 44 ds := fun ds hk h => by
  obtain @⟨⟩ | @⟨_, d1, _, _, k1, hk⟩ := hk
  cases hk
  obtain ⟨x1, rfl⟩ := k1
  exact ev44 x1 n h

theorem evA45 : ∀ (ds : List D), KsOk (sig 45) ds → side 45 ds → obsHold X side (obK 45) ds ∧ (deK 45).eval X ds = X 45 ds := fun ds hk h => by
  obtain @⟨⟩ | @⟨_, d1, _, _, k1, hk⟩ := hk
  obtain @⟨⟩ | @⟨_, d2, _, _, k2, hk⟩ := hk
  cases hk
  obtain ⟨x1, rfl, w1⟩ := k1
  obtain ⟨x2, rfl, w2⟩ := k2
  have e := ev45 x1 x2 0 (by rw [side_45] at h; exact h.1) (by rw [side_45] at h; exact h.2)
  exact ⟨Obs.mono (fun _ _ h => pre_side h) _ _ e.1, e.2⟩

theorem evA46 : ∀ (ds : List D), KsOk (sig 46) ds → side 46 ds → obsHold X side (obK 46) ds ∧ (deK 46).eval X ds = X 46 ds := fun ds hk h => by
  obtain @⟨⟩ | @⟨_, d1, _, _, k1, hk⟩ := hk
  cases hk
  obtain ⟨x1, rfl, w1⟩ := k1
  have e := ev46 x1 (wf_u64 w1).1 (wf_u64 w1).2 0
  exact ⟨Obs.mono (fun _ _ h => pre_side h) _ _ e.1, e.2⟩

theorem evR47 (n : Nat) : ∀ (ds : List D), KsOk (sig 47) ds → Pre (n + 1) 47 ds → obsHold X (Pre n) (obK 47) ds ∧ (deK 47).eval X ds = X 47 ds := fun ds hk h => by
  obtain @⟨⟩ | @⟨_, d1, _, _, k1, hk⟩ := hk
  obtain @⟨⟩ | @⟨_, d2, _, _, k2, hk⟩ := hk
  obtain @⟨⟩ | @⟨_, d3, _, _, k3, hk⟩ := hk
  obtain @⟨⟩ | @⟨_, d4, _, _, k4, hk⟩ := hk
  cases hk
  obtain ⟨x1, rfl⟩ := k1
  obtain ⟨x2, rfl, w2⟩ := k2
  obtain ⟨x3, rfl⟩ := k3
  obtain ⟨x4, rfl⟩ := k4
  exact ev47 (fs := x1) (v := x2) (x := x3) (t := x4) n h

theorem evR48 (n : Nat) : ∀ (ds : List D), KsOk (sig 48) ds → Pre (n + 1) 48 ds → obsHold X (Pre n) (obK 48) ds ∧ (deK 48).eval X ds = X 48 ds := fun ds hk h => by
  obtain @⟨⟩ | @⟨_, d1, _, _, k1, hk⟩ := hk
  obtain @⟨⟩ | @⟨_, d2, _, _, k2, hk⟩ := hk
  obtain @⟨⟩ | @⟨_, d3, _, _, k3, hk⟩ := hk
  obtain @⟨⟩ | @⟨_, d4, _, _, k4, hk⟩ := hk
  obtain @⟨⟩ | @⟨_, d5, _, _, k5, hk⟩ := hk
  obtain @⟨⟩ | @⟨_, d6, _, _, k6, hk⟩ := hk
  cases hk
  obtain ⟨x1, rfl, w1⟩ := k1
  obtain ⟨x2, rfl⟩ := k2
  obtain ⟨x3, rfl⟩ := k3
  obtain ⟨x4, rfl, w4⟩ := k4
  obtain ⟨x5, rfl⟩ := k5
  obtain ⟨x6, rfl⟩ := k6
  exact ev48 x1 x2 x3 x4 x5 x6 n h

theorem evR49 (n : Nat) : ∀ (ds : List D), KsOk (sig 49) ds → Pre (n + 1) 49 ds → obsHold X (Pre n) (obK 49) ds ∧ (deK 49).eval X ds = X 49 ds := fun ds hk h => by
  obtain @⟨⟩ | @⟨_, d1, _, _, k1, hk⟩ := hk
  obtain @⟨⟩ | @⟨_, d2, _, _, k2, hk⟩ := hk
  obtain @⟨⟩ | @⟨_, d3, _, _, k3, hk⟩ := hk
  obtain @⟨⟩ | @⟨_, d4, _, _, k4, hk⟩ := hk
  cases hk
  obtain ⟨x1, rfl⟩ := k1
  obtain ⟨x2, rfl, w2⟩ := k2
  obtain ⟨x3, rfl⟩ := k3
  obtain ⟨x4, rfl⟩ := k4
  exact ev49 x1 x2 x3 x4 n h

theorem evR50 (n : Nat) : ∀ (ds : List D), KsOk (sig 50) ds → Pre (n + 1) 50 ds → obsHold X (Pre n) (obK 50) ds ∧ (deK 50).eval X ds = X 50 ds := fun ds hk h => by
  obtain @⟨⟩ | @⟨_, d1, _, _, k1, hk⟩ := hk
  obtain @⟨⟩ | @⟨_, d2, _, _, k2, hk⟩ := hk
  cases hk
  obtain ⟨x1, rfl⟩ := k1
  obtain ⟨x2, rfl⟩ := k2
  exact ev50 x1 x2 n h

theorem evA51 : ∀ (ds : List D), KsOk (sig 51) ds → side 51 ds → obsHold X side (obK 51) ds ∧ (deK 51).eval X ds = X 51 ds := fun ds hk h => by
  obtain @⟨⟩ | @⟨_, d1, _, _, k1, hk⟩ := hk
  cases hk
  obtain ⟨x1, rfl⟩ := k1
  have e := ev51 x1 (by rw [side_51, decF_enc] at h; exact h) 0
  exact ⟨Obs.mono (fun _ _ h => pre_side h) _ _ e.1, e.2⟩

theorem evA52 : ∀ (ds : List D), KsOk (sig 52) ds → side 52 ds → obsHold X side (obK 52) ds ∧ (deK 52).eval X ds = X 52 ds := fun ds hk h => by
  obtain @⟨⟩ | @⟨_, d1, _, _, k1, hk⟩ := hk
  obtain @⟨⟩ | @⟨_, d2, _, _, k2, hk⟩ := hk
  cases hk
  obtain ⟨x1, rfl⟩ := k1
  obtain ⟨x2, rfl⟩ := k2
  have e := ev52 x1 x2 0
  exact ⟨Obs.mono (fun _ _ h => pre_side h) _ _ e.1, e.2⟩

theorem evA53 : ∀ (ds : List D), KsOk (sig 53) ds → side 53 ds → obsHold X side (obK 53) ds ∧ (deK 53).eval X ds = X 53 ds := fun ds hk h => by
  obtain @⟨⟩ | @⟨_, d1, _, _, k1, hk⟩ := hk
  obtain @⟨⟩ | @⟨_, d2, _, _, k2, hk⟩ := hk
  obtain @⟨⟩ | @⟨_, d3, _, _, k3, hk⟩ := hk
  obtain @⟨⟩ | @⟨_, d4, _, _, k4, hk⟩ := hk
  cases hk
  obtain ⟨x1, rfl⟩ := k1
  obtain ⟨x2, rfl⟩ := k2
  obtain ⟨x3, rfl, w3⟩ := k3
  obtain ⟨x4, rfl, w4⟩ := k4
  have e := ev53 x1 x2 x3 x4 0 (by rw [side_53] at h; exact h.1) (by rw [side_53] at h; exact h.2.1) (by rw [side_53] at h; exact h.2.2)
  exact ⟨Obs.mono (fun _ _ h => pre_side h) _ _ e.1, e.2⟩

theorem evA54 : ∀ (ds : List D), KsOk (sig 54) ds → side 54 ds → obsHold X side (obK 54) ds ∧ (deK 54).eval X ds = X 54 ds := fun ds hk h => by
  obtain @⟨⟩ | @⟨_, d1, _, _, k1, hk⟩ := hk
  cases hk
  obtain ⟨x1, rfl⟩ := k1
  have e := ev54 x1 0
  exact ⟨Obs.mono (fun _ _ h => pre_side h) _ _ e.1, e.2⟩

theorem evA55 : ∀ (ds : List D), KsOk (sig 55) ds → side 55 ds → obsHold X side (obK 55) ds ∧ (deK 55).eval X ds = X 55 ds := fun ds hk h => by
  obtain @⟨⟩ | @⟨_, d1, _, _, k1, hk⟩ := hk
  cases hk
  obtain ⟨x1, rfl, w1⟩ := k1
  exact ⟨trivial, ev55 x1⟩

theorem evA56 : ∀ (ds : List D), KsOk (sig 56) ds → side 56 ds → obsHold X side (obK 56) ds ∧ (deK 56).eval X ds = X 56 ds := fun ds hk h => by
  obtain @⟨⟩ | @⟨_, d1, _, _, k1, hk⟩ := hk
  obtain @⟨⟩ | @⟨_, d2, _, _, k2, hk⟩ := hk
  obtain @⟨⟩ | @⟨_, d3, _, _, k3, hk⟩ := hk
  cases hk
  obtain ⟨x1, rfl⟩ := k1
  obtain ⟨x2, rfl, w2⟩ := k2
  obtain ⟨x3, rfl⟩ := k3
  exact ⟨trivial, ev56 x1 x2 x3⟩

theorem evA57 : ∀ (ds : List D), KsOk (sig 57) ds → side 57 ds → obsHold X side (obK 57) ds ∧ (deK 57).eval X ds = X 57 ds := fun ds hk h => by
  obtain @⟨⟩ | @⟨_, d1, _, _, k1, hk⟩ := hk
  obtain @⟨⟩ | @⟨_, d2, _, _, k2, hk⟩ := hk
  cases hk
  obtain ⟨x1, rfl⟩ := k1
  obtain ⟨x2, rfl, w2⟩ := k2
  exact ⟨trivial, ev57 x1 x2⟩

theorem evA58 : ∀ (ds : List D), KsOk (sig 58) ds → side 58 ds → obsHold X side (obK 58) ds ∧ (deK 58).eval X ds = X 58 ds := fun ds hk h => by
  obtain @⟨⟩ | @⟨_, d1, _, _, k1, hk⟩ := hk
  obtain @⟨⟩ | @⟨_, d2, _, _, k2, hk⟩ := hk
  cases hk
  obtain ⟨x1, rfl, w1⟩ := k1
  obtain ⟨x2, rfl, w2⟩ := k2
  have e := ev58 x1 x2 0 (wf_u8 w1).1 (wf_u8 w1).2 (by rw [side_58] at h; exact h.2.1) (by rw [side_58] at h; exact h.2.2)
  exact ⟨Obs.mono (fun _ _ h => pre_side h) _ _ e.1, e.2⟩

theorem evA59 : ∀ (ds : List D), KsOk (sig 59) ds → side 59 ds → obsHold X side (obK 59) ds ∧ (deK 59).eval X ds = X 59 ds := fun ds hk h => by
  obtain @⟨⟩ | @⟨_, d1, _, _, k1, hk⟩ := hk
  obtain @⟨⟩ | @⟨_, d2, _, _, k2, hk⟩ := hk
  obtain @⟨⟩ | @⟨_, d3, _, _, k3, hk⟩ := hk
  cases hk
  obtain ⟨x1, y1, rfl⟩ := k1
  obtain ⟨x2, rfl, w2⟩ := k2
  obtain ⟨x3, rfl⟩ := k3
  have e := ev59 x1 y1 x2 x3 (3 * wFs x1 + 1) h (by omega)
  exact ⟨Obs.mono (fun _ _ h => pre_side h) _ _ e.1, e.2⟩

theorem evA60 : ∀ (ds : List D), KsOk (sig 60) ds → side 60 ds → obsHold X side (obK 60) ds ∧ (deK 60).eval X ds = X 60 ds := fun ds hk h => by
  obtain @⟨⟩ | @⟨_, d1, _, _, k1, hk⟩ := hk
  obtain @⟨⟩ | @⟨_, d2, _, _, k2, hk⟩ := hk
  obtain @⟨⟩ | @⟨_, d3, _, _, k3, hk⟩ := hk
  cases hk
  obtain ⟨x1, y1, rfl⟩ := k1
  obtain ⟨x2, rfl, w2⟩ := k2
  obtain ⟨x3, rfl⟩ := k3
  have e := ev60 x1 y1 x2 x3 0 h
  exact ⟨Obs.mono (fun _ _ h => pre_side h) _ _ e.1, e.2⟩

theorem evA (k : Nat) (hk : known? k = true) (hr : recur k = false) : ∀ (ds : List D), KsOk (sig k) ds → side k ds → obsHold X side (obK k) ds ∧ (deK k).eval X ds = X k ds := by
  unfold known? at hk
  split at hk
  · exact evA1
  · exact evA2
  · exact evA4
  · exact evA5
  · exact evA6
  · exact evA7
  · exact evA10
  · exact evA11
  · exact evA12
  · exact evA15
  · exact evA17
  · exact evA26
  · exact evA27
  · exact evA29
  · exact evA30
  · exact evA40
  · exact evA41
  · simp [recur] at hr
  · simp [recur] at hr
  · simp [recur] at hr
  · exact evA45
  · exact evA46
  · simp [recur] at hr
  · simp [recur] at hr
  · simp [recur] at hr
  · simp [recur] at hr
  · exact evA51
  · exact evA52
  · exact evA53
  · exact evA54
  · exact evA55
  · exact evA56
  · exact evA57
  · exact evA58
  · exact evA59
  · exact evA60
  · cases hk
theorem evR (k : Nat) (hk : known? k = true) (hr : recur k = true) (n : Nat) : ∀ (ds : List D), KsOk (sig k) ds → Pre (n + 1) k ds → obsHold X (Pre n) (obK k) ds ∧ (deK k).eval X ds = X k ds := by
  unfold known? at hk
  split at hk
  · simp [recur] at hr
  · simp [recur] at hr
  · simp [recur] at hr
  · simp [recur] at hr
  · simp [recur] at hr
  · simp [recur] at hr
  · simp [recur] at hr
  · simp [recur] at hr
  · simp [recur] at hr
  · simp [recur] at hr
  · simp [recur] at hr
  · simp [recur] at hr
  · simp [recur] at hr
  · simp [recur] at hr
  · simp [recur] at hr
  · simp [recur] at hr
  · simp [recur] at hr
  · exact evR42 n
  · exact evR43 n
  · exact evR44 n
  · simp [recur] at hr
  · simp [recur] at hr
  · exact evR47 n
  · exact evR48 n
  · exact evR49 n
  · exact evR50 n
  · simp [recur] at hr
  · simp [recur] at hr
  · simp [recur] at hr
  · simp [recur] at hr
  · simp [recur] at hr
  · simp [recur] at hr
  · simp [recur] at hr
  · simp [recur] at hr
  · simp [recur] at hr
  · simp [recur] at hr
  · cases hk

/-! ## The functions of a program -/
def ctrs (tab : List (Nat × Ctr)) (r : Nat) (f : FuncId) : Option Ctr :=
  match lk f tab with
  | some c => if rank c.fn < r || (r == 5 && recur c.fn) then some c else none
  | none => none
def runOk (P : Program) (tab : List (Nat × Ctr)) (f : FuncId) (c : Ctr) : Bool :=
  match P.funcs[f]? with
  | some fn =>
    match runF ⟨P, ctrs tab (rank c.fn)⟩ 100000 8 c fn with
    | some (d, os) => d.beq (deK c.fn) && obbeqs os (obK c.fn)
    | none => false
  | none => false
def ctrOk? (P : Program) (tab : List (Nat × Ctr)) (f : FuncId) (c : Ctr) : Bool :=
  known? c.fn && areA P (sig c.fn) c.args && c.pre && runOk P tab f c
theorem rank5 {k : Nat} (hk : known? k = true) : rank k = 5 ↔ recur k = true := by
  unfold known? at hk
  split at hk
  all_goals first | cases hk; done | decide

theorem ctrs_some {tab : List (Nat × Ctr)} {r : Nat} {f : FuncId} {c : Ctr} (h : ctrs tab r f = some c) : lk f tab = some c ∧ (rank c.fn < r ∨ (r = 5 ∧ recur c.fn = true)) := by
  unfold ctrs at h
  split at h
  · rename_i c' hc
    split at h
    · rename_i hb
      cases h
      simp only [Bool.or_eq_true, decide_eq_true_eq, Bool.and_eq_true, beq_iff_eq] at hb
      exact ⟨hc, hb⟩
    · cases h
  · cases h
theorem one_ok {P : Program} {A B : Nat → List D → Prop} {tab : List (Nat × Ctr)} (hnm : NamesOk P) (hord : P.follows .mixedOrders = true) {f : FuncId} {c : Ctr} (hrun : runOk P tab f c = true) (hsig : areA P (sig c.fn) c.args = true) (hpre : c.pre = true)
    (hc : ∀ g d, ctrs tab (rank c.fn) g = some d → CtrOk P X A g d) (hX : ∀ ds, KsOk (sig c.fn) ds → B c.fn ds → obsHold X A (obK c.fn) ds ∧ (deK c.fn).eval X ds = X c.fn ds) : CtrOk P X B f c := by
  unfold runOk at hrun
  split at hrun
  rotate_left
  · cases hrun
  rename_i fn hf
  split at hrun
  rotate_left
  · cases hrun
  rename_i d os hr
  simp only [Bool.and_eq_true] at hrun
  have e1 := DE.beq_eq hrun.1
  have e2 := obbeqs_eq hrun.2
  subst e1; subst e2
  exact ctrOk_of_run (C := ⟨P, ctrs tab (rank c.fn)⟩) hnm hord hc hf hr (fun ok w vs ds hA hp => hX ds (areA_ok hsig hA) (hp hpre))
theorem tab_ok {P : Program} {tab : List (Nat × Ctr)} {hand : Nat → Bool} (hnm : NamesOk P) (hord : P.follows .mixedOrders = true)
    (hh : ∀ f c, lk f tab = some c → hand c.fn = true → CtrOk P X side f c) (hchk : ∀ f c, lk f tab = some c → hand c.fn = false → ctrOk? P tab f c = true) (hhr : ∀ k, hand k = true → recur k = false) : ∀ r f c, lk f tab = some c → rank c.fn = r → CtrOk P X side f c := by
  intro r
  induction r using Nat.strongRecOn with
  | ind r ih =>
    intro f c hl hr
    cases hx : hand c.fn with
    | true => exact hh f c hl hx
    | false =>
      have h := hchk f c hl hx
      unfold ctrOk? at h
      simp only [Bool.and_eq_true] at h
      obtain ⟨⟨⟨hk, hsig⟩, hpre⟩, hrun⟩ := h
      cases hrec : recur c.fn with
      | false =>
        refine one_ok hnm hord hrun hsig hpre (A := side) (fun g d hg => ?_) (evA c.fn hk hrec)
        obtain ⟨h1, h2⟩ := ctrs_some hg
        rcases h2 with h2 | ⟨h2, _⟩
        · exact ih _ (by omega) g d h1 rfl
        · have := (rank5 hk).1 h2
          rw [hrec] at this; cases this
      | true =>
        have h5 : r = 5 := by rw [← hr]; exact (rank5 hk).2 hrec
        have main : ∀ n f c, lk f tab = some c → known? c.fn = true → recur c.fn = true → areA P (sig c.fn) c.args = true → c.pre = true → runOk P tab f c = true → CtrOk P X (Pre n) f c := by
          intro n
          induction n with
          | zero =>
            intro f c hl hk hrec hsig hpre hrun
            refine one_ok hnm hord hrun hsig hpre (A := fun _ _ => False) (fun g d hg => ?_) (fun ds _ hB => ?_)
            · have hg' := ctrs_some hg
              have hdx : hand d.fn = false ∨ hand d.fn = true := by cases hand d.fn <;> simp
              have hex : ∃ fn b, P.funcs[g]? = some fn ∧ fn.body = some b ∧ d.pre = true ∨ CtrOk P X side g d := by
                rcases hdx with hdx | hdx
                · have h := hchk g d hg'.1 hdx
                  unfold ctrOk? at h
                  simp only [Bool.and_eq_true] at h
                  obtain ⟨⟨⟨_, _⟩, hp⟩, hr⟩ := h
                  unfold runOk at hr
                  split at hr
                  · rename_i fn hf
                    split at hr
                    · rename_i d' os hr'
                      unfold runF at hr'
                      split at hr'
                      · rename_i body q hb _
                        exact ⟨fn, body, .inl ⟨hf, hb, hp⟩⟩
                      · cases hr'
                    · cases hr
                  · cases hr
                · have := hh g d hg'.1 hdx
                  obtain ⟨fn, b, _, _⟩ := this.1
                  exact ⟨fn, b, .inr this⟩
              obtain ⟨fn, b, h | h⟩ := hex
              · exact ⟨⟨fn, b, h.1, h.2.1⟩, fun ok w vs ds _ _ _ h4 => (h4 h.2.2).elim⟩
              · exact ctr_mono (fun _ h => h.elim) h
            · exact absurd (hB.1 hrec) (by omega)
          | succ n ihn =>
            intro f c hl hk hrec hsig hpre hrun
            refine one_ok hnm hord hrun hsig hpre (A := Pre n) (fun g d hg => ?_) (evR c.fn hk hrec n)
            obtain ⟨h1, h2⟩ := ctrs_some hg
            have hr5 := (rank5 hk).2 hrec
            by_cases hd : rank d.fn < 5
            · exact ctr_mono (fun _ h => h.2) (ih (rank d.fn) (by omega) g d h1 rfl)
            · have hdr : recur d.fn = true := by
                rcases h2 with h2 | h2
                · omega
                · exact h2.2
              cases hdx : hand d.fn with
              | true => exact ctr_mono (fun _ h => h.2) (hh g d h1 hdx)
              | false =>
                have h := hchk g d h1 hdx
                unfold ctrOk? at h
                simp only [Bool.and_eq_true] at h
                obtain ⟨⟨⟨q1, q2⟩, q3⟩, q4⟩ := h
                exact ihn g d h1 q1 hdr q2 q3 q4
        have hfin := fun n => main n f c hl hk hrec hsig hpre hrun
        refine ⟨(hfin 0).1, fun ok w vs ds h1 h2 h3 h4 => ?_⟩
        exact (hfin (meas c.fn ds + 1)).2 ok w vs ds h1 h2 h3 (fun hp => ⟨fun _ => by omega, h4 hp⟩)
theorem all_ok {P : Program} {tab : List (Nat × Ctr)} {hand : Nat → Bool} (hnm : NamesOk P) (hord : P.follows .mixedOrders = true)
    (hh : ∀ f c, lk f tab = some c → hand c.fn = true → CtrOk P X side f c) (hchk : ∀ f c, lk f tab = some c → hand c.fn = false → ctrOk? P tab f c = true) (hhr : ∀ k, hand k = true → recur k = false) : ∀ f c, lk f tab = some c → CtrOk P X side f c :=
  fun f c h => tab_ok hnm hord hh hchk hhr _ f c h rfl
end Go.Mx

namespace Go.Mx
open Go Go.Dx

/-! ## What is fitted has no long lists -/
theorem smTl_all : ∀ {l : List T}, (∀ x ∈ l, smT x = true) → smTl l = true
  | [], _ => rfl
  | x :: l, h => by
    simp only [smTl, Bool.and_eq_true]
    exact ⟨h x (by simp), smTl_all (fun y hy => h y (by simp [hy]))⟩
theorem smTo_nz {l : List T} (h : l.length ≤ 40000) (hl : smTl l = true) : smTo (nz l) = true := by
  cases l with
  | nil => rfl
  | cons x l => simp only [nz, smTo, Bool.and_eq_true, decide_eq_true_eq]; exact ⟨h, hl⟩
theorem fitL_len (v : Int) (t : T) : ∀ (l : List Fl) (i : Nat), (fitL l i v t).length = l.length
  | [], _ => rfl
  | f :: r, i => by simp [fitL, fitL_len v t r]
theorem smB {kind : Int} {b : Bool} {t ft : T} (h : smT ft = true) : smT (fittedB kind b t ft) = true := by
  unfold fittedB
  split
  · simp [smT, smTo]
  · split
    · cases ft; exact h
    · simp [smT, smTo]
theorem unk_small (l : List Fl) (u : Option (List Tg)) : ((nz ((unknown l u).map fun x => (⟨x.key, whole x.val⟩ : Tg))).getD []).length ≤ 40000 := by
  have := unknown_len l u
  rw [nz_getD, List.length_map]; omega
mutual
theorem smF : ∀ (f : Fl) (v : Int) (t : T), wfF f = true → smT (fitted f v t) = true
  | .mk k fr to nl tg df of sub, v, t, h => by
    have hs : wfFs sub = true := by simp only [wfF, Bool.and_eq_true] at h; exact h.2
    simp only [fitted]
    split
    · simp only [smT, Bool.and_eq_true]
      refine ⟨smTo_nz (by simp [Most]; omega) (smTl_all fun x hx => ?_), by simp⟩
      obtain ⟨y, _, rfl⟩ := List.mem_map.1 hx
      exact smB (smS sub v y hs)
    · exact smB (smS sub v t hs)
theorem smS : ∀ (fs : Option (List Fl)) (v : Int) (t : T), wfFs fs = true → smT (FitS fs v t) = true
  | none, v, t, _ => by
    simp only [FitS, smT, Bool.and_eq_true, decide_eq_true_eq]
    exact ⟨rfl, unk_small _ _⟩
  | some l, v, t, h => by
    simp only [wfFs, Bool.and_eq_true, decide_eq_true_eq] at h
    simp only [FitS, smT, Bool.and_eq_true, decide_eq_true_eq]
    exact ⟨smTo_nz (by rw [fitL_len]; omega) (smL l 0 v t h.2), unk_small _ _⟩
theorem smL : ∀ (l : List Fl) (i : Nat) (v : Int) (t : T), wfFl l = true → smTl (fitL l i v t) = true
  | [], _, _, _, _ => rfl
  | f :: r, i, v, t, h => by
    simp only [wfFl, Bool.and_eq_true] at h
    simp only [fitL, smTl, Bool.and_eq_true]
    exact ⟨smF f v _ h.1, smL r (i + 1) v t h.2⟩
end

/-! ## A schema, as it is built -/
mutual
def flE : Fl → DE
  | .mk k f t n g d o s => .f .mkrow [.k (.int k), .k (.int f), .k (.int t), .k (.int n), .k (.int g), .k (.int d), .k (.int o), scE s]
def scE : Option (List Fl) → DE
  | none => .k .nil
  | some l => .f .mklist (flEs l)
def flEs : List Fl → List DE
  | [] => []
  | f :: r => flE f :: flEs r
end
mutual
theorem flE_eval (δ : List D) : ∀ f : Fl, (flE f).eval X δ = f.d
  | .mk k f t n g d o s => by
    simp only [flE, ev_f, evs_cons, evs_nil, ev_k, fe_mkrow, scE_eval δ s, Fl.d]
theorem scE_eval (δ : List D) : ∀ s : Option (List Fl), (scE s).eval X δ = encF s
  | none => rfl
  | some l => by simp only [scE, ev_f, fe_mklist, flEs_eval δ l, encF]
theorem flEs_eval (δ : List D) : ∀ l : List Fl, evals X (flEs l) δ = fds l
  | [] => rfl
  | f :: r => by simp only [flEs, evs_cons, flE_eval δ f, flEs_eval δ r, fds]
end

/-! ## A law about what is made -/
def verE (most : Int) : DE := .f (.ext 58) [.v 0, .k (.int most)]
def fitE (fs : Option (List Fl)) (most : Int) : DE := .f (.ext 43) [scE fs, verE most, .v 1]
def makeE (m : Nat) (fs : Option (List Fl)) (most : Int) : DE := .f (.ext m) [verE most, .f (.ext 44) [fitE fs most]]
def writeE (fs : Option (List Fl)) (fx most : Int) : DE := .f (.ext 59) [.f .mkrow [scE fs, .k (.int fx)], verE most, .v 1]
def lawE (m : Nat) (fs : Option (List Fl)) (fx most : Int) : DE := .f .ite [.f .not [.f (.ext 54) [.v 1]], .k (.bool true), .f (.ext 52) [makeE m fs most, writeE fs fx most]]
def lawO (m : Nat) (fs : Option (List Fl)) (fx most : Int) : List Ob := [.when (.f .not [.f (.ext 54) [.v 1]]) false [.pre 52 [makeE m fs most, writeE fs fx most], .pre 59 [.f .mkrow [scE fs, .k (.int fx)], verE most, .v 1], .pre m [verE most, .f (.ext 44) [fitE fs most]], .pre 44 [fitE fs most], .pre 43 [scE fs, verE most, .v 1], .pre 58 [.v 0, .k (.int most)]], .pre 54 [.v 1]]
/-- what a message's octets are to be, and no more than so many -/
structure Made (m : Nat) (fs : Option (List Fl)) (fx most : Int) : Prop where
  wf : wfFs fs = true
  most0 : 0 ≤ most
  most1 : most ≤ 1000
  made : ∀ (v : Int) (t : T), 0 ≤ v → v ≤ most → fitsTo t = true → (partS fs v (Flexible fx v) t).length ≤ lim → (X m [.int v, (given (FitS fs v t)).d]).asStr = partS fs v (Flexible fx v) t ∧ side m [.int v, (given (FitS fs v t)).d]
theorem law_ok {m : Nat} {fs : Option (List Fl)} {fx most : Int} (h : Made m fs fx most) (n : Int) (t : T) (hn : 0 ≤ n) (hl : fitsTo t = true → ∀ v, 0 ≤ v → v ≤ most → (partS fs v (Flexible fx v) t).length ≤ lim) : obsHold X side (lawO m fs fx most) [.int n, t.d] ∧ (lawE m fs fx most).eval X [.int n, t.d] = .bool true := by
  have hv0 : 0 ≤ n % (most + 1) := Int.emod_nonneg _ (by have := h.most0; omega)
  have hv1 : n % (most + 1) ≤ most := by have := Int.emod_lt_of_pos n (b := most + 1) (by have := h.most0; omega); omega
  have eV : (verE most).eval X [.int n, t.d] = .int (n % (most + 1)) := by
    simp only [verE, ev_f, evs_cons, evs_nil, ev_v, ev_k, List.getD_cons_zero, fe_ext, X_58, int_i]
  generalize n % (most + 1) = v at hv0 hv1 eV
  have e54 : (DE.f .not [.f (.ext 54) [.v 1]]).eval X [.int n, t.d] = .bool (!fitsTo t) := by
    simp only [ev_f, evs_cons, evs_nil, ev_v, List.getD_cons_zero, List.getD_cons_succ, fe_ext, X_54, toT_d, fe_not]
  have eF : (fitE fs most).eval X [.int n, t.d] = (FitS fs v t).d := by
    rw [fitE, ev_f]
    simp only [evs_cons, evs_nil, eV, scE_eval, ev_v, List.getD_cons_zero, List.getD_cons_succ, fe_ext, X_43, decF_enc, toT_d, int_i]
  have eG : (DE.f (.ext 44) [fitE fs most]).eval X [.int n, t.d] = (given (FitS fs v t)).d := by
    rw [ev_f]
    simp only [evs_cons, evs_nil, eF, fe_ext, X_44, toT_d]
  have eM : (makeE m fs most).eval X [.int n, t.d] = X m [.int v, (given (FitS fs v t)).d] := by
    rw [makeE, ev_f]
    simp only [evs_cons, evs_nil, eV, eG, fe_ext]
  have eK : (DE.f .mkrow [scE fs, .k (.int fx)]).eval X [.int n, t.d] = .row [encF fs, .int fx] := by
    rw [ev_f]
    simp only [evs_cons, evs_nil, scE_eval, ev_k, fe_mkrow]
  have eW : (writeE fs fx most).eval X [.int n, t.d] = encN (partS fs v (Flexible fx v) t) := by
    rw [writeE, ev_f]
    simp only [evs_cons, evs_nil, eK, eV, ev_v, List.getD_cons_zero, List.getD_cons_succ, fe_ext, X_59, decF_enc, toT_d, int_i]
  constructor
  · refine ⟨fun hc => ?_, trivial, trivial⟩
    rw [e54, bool_b] at hc
    have hf : fitsTo t = true := by simpa using hc
    have hlen := hl hf v hv0 hv1
    obtain ⟨m1, m2⟩ := h.made v t hv0 hv1 hf hlen
    refine ⟨trivial, ?_, ?_, ?_, ?_, ?_, trivial⟩
    · simp only [Ob.holds, evs_cons, evs_nil, eK, eV, ev_v, List.getD_cons_zero, List.getD_cons_succ]
      rw [side_59, decF_enc, int_i, int_i, toT_d]
      exact ⟨h.wf, hlen⟩
    · simp only [Ob.holds, evs_cons, evs_nil, eV, eG]
      exact m2
    · simp only [Ob.holds, evs_cons, evs_nil, eF]
      rw [side_44, toT_d]
      exact smS fs v t h.wf
    · simp only [Ob.holds, evs_cons, evs_nil, scE_eval, eV]
      rw [side_43, decF_enc]; exact h.wf
    · simp only [Ob.holds, evs_cons, evs_nil, ev_v, ev_k, List.getD_cons_zero]
      rw [side_58]
      exact ⟨hn, h.most0, h.most1⟩
  · rw [lawE, ev_f]
    simp only [evs_cons, evs_nil]
    rw [e54, ev_k, fe_ite]
    cases hf : fitsTo t with
    | false => rfl
    | true =>
      simp only [Bool.not_true, Bool.false_eq_true, if_false]
      rw [ev_f]
      simp only [evs_cons, evs_nil]
      obtain ⟨m1, _⟩ := h.made v t hv0 hv1 hf (hl hf v hv0 hv1)
      rw [eM, eW, fe_ext, X_52, m1, asStr_encN]
      simp
end Go.Mx

namespace Go.Mx
open Go Go.Dx

/-! ## SASLHandshakeRequest -/
def fl100 : Fl := .mk 8 0 (-1) (-1) (-1) 0 0 none
def sc100 : Option (List Fl) := some [fl100]
def de100 : DE := (.f (.ext 11) [(.k .nil), (.f .toStr [(.f (.get 1) [(.f (.ext 1) [(.v 1), (.k (.int 0))])])])])
def ob100 : List Ob := [(.pre 11 [(.k .nil), (.f .toStr [(.f (.get 1) [(.f (.ext 1) [(.v 1), (.k (.int 0))])])])]), (.pre 1 [(.v 1), (.k (.int 0))])]
theorem ev100 (v : Int) (t : T) (h : side 100 [.int v, t.d]) : obsHold X side ob100 [.int v, t.d] ∧ de100.eval X [.int v, t.d] = X 100 [.int v, t.d] := by
  rw [side_100] at h
  have e : de100.eval X [.int v, t.d] = X 100 [.int v, t.d] := by
    simp only [de100, ev_f, evs_cons, evs_nil, ev_v, ev_k, List.getD_cons_zero, List.getD_cons_succ, fe_ext, X_1, X_11, X_100, toT_d, int_i, fe_get, cells_T]
    have e1 : Fn.eval X .toStr [encB (at' t 0).s] = .str (at' t 0).S := by
      show D.str (encB (at' t 0).s).asStr = _
      rw [asStr_encB]; rfl
    rw [e1]; rfl
  refine ⟨⟨?_, ?_, trivial⟩, e⟩
  · show (de100.eval X [.int v, t.d]).len ≤ lim
    rw [e]; exact h.2
  · simp only [Ob.holds, evs_cons, evs_nil, ev_v, ev_k, List.getD_cons_succ, List.getD_cons_zero]
    rw [side_1]; simp only [int_i]; omega
theorem at_given (l : List T) (s : Option (List UInt8)) (n : Int) (b : Bool) (u : Option (List Tg)) (i : Nat) (x : T) (h : l[i]? = some x) : at' (given (.mk n s b (nz l) u)) i = given x := by
  have hl : 0 < l.length := Nat.lt_of_le_of_lt (Nat.zero_le _) (List.getElem?_eq_some_iff.1 h).1
  have hlt := (List.getElem?_eq_some_iff.1 h).1
  have e1 : nz l = some l := by cases l with | nil => simp at hl | cons a l => rfl
  have e2 : nz (l.map given) = some (l.map given) := by cases l with | nil => simp at hl | cons a l => rfl
  have e3 : (given (.mk n s b (nz l) u)).L = l.map given := by rw [e1]; simp only [given, givenO, givenL_map, e2]; rfl
  unfold at'
  rw [e3, if_pos (by simp; omega), Int.toNat_natCast, List.getD_eq_getElem?_getD, List.getElem?_map, h]; rfl
theorem made100 : Made 100 sc100 (-1) 1 := by
  refine ⟨by decide, by omega, by omega, fun v t h0 h1 hf hl => ?_⟩
  have hflex : Flexible (-1) v = false := rfl
  rw [hflex] at hl ⊢
  have e0 : at' (given (FitS sc100 v t)) 0 = given (fitted fl100 v (at' t 0)) := at_given [fitted fl100 v (at' t 0)] none 0 false _ 0 _ rfl
  have e1 : fitted fl100 v (at' t 0) = .mk 0 (whole (at' t 0).s) (Mx.null fl100 v (at' t 0)) none none := rfl
  have e2 : (at' (given (FitS sc100 v t)) 0).S = (at' t 0).S.take Most := by
    rw [e0, e1]
    show (whole (at' t 0).s).getD [] = _
    exact whole_getD _
  have hnull : Mx.null fl100 v (at' t 0) = false := by simp [Mx.null, fl100, Fl.null]
  have e3 : partS sc100 v false t = Fixed ((at' t 0).S.take Most).length 2 ++ (at' t 0).S.take Most := by
    rw [partS_false]
    show cellO v (rowP v false t 0 fl100) ++ [] = _
    have h4 : cellO v (rowP v false t 0 fl100) = field fl100 v false (at' t 0) := by
      rw [cellO, if_pos ⟨by show (-1 : Int) < 0; omega, by show has fl100 v = true; simp [has, fl100, Fl.frm, Fl.to, h0]⟩]; rfl
    rw [h4, field_eq, hnull, List.append_nil]
    rfl
  have hx : X 100 [.int v, (given (FitS sc100 v t)).d] = app .nil (partS sc100 v false t) := by
    rw [X_100, toT_d, e2, e3]
  refine ⟨by rw [hx]; rfl, ?_⟩
  rw [side_100, hx, len_app]
  refine ⟨⟨h0, h1⟩, ?_⟩
  show 0 + _ ≤ _
  omega
/-- A message's making, by its versions -/
theorem make_ok {P : Program} {C : Cfg} (hP : C.P = P) (hnm : NamesOk P) (hord : P.follows .mixedOrders = true) (hall : ∀ f c, C.ctr f = some c → CtrOk P X side f c) {f : FuncId} {c : Ctr} {fn : Func} (hf : P.funcs[f]? = some fn) (hb : fn.body.isSome = true)
    (hpre : c.pre = true) (hsig : areA P [.int .i64, .tree] c.args = true) {ver : Int → Prop} (hver : ∀ v t, side c.fn [.int v, T.d t] → ver v)
    (hrun : ∀ v, ver v → ∃ de os, runFK C 100000 8 c fn [(0, v)] = some (de, os) ∧ ∀ t : T, side c.fn [.int v, t.d] → obsHold X side os [.int v, t.d] ∧ de.eval X [.int v, t.d] = X c.fn [.int v, t.d]) : CtrOk P X side f c := by
  subst hP
  obtain ⟨b, hb⟩ := Option.isSome_iff_exists.1 hb
  refine ⟨⟨fn, b, hf, hb⟩, fun ok w vs ds hA hok hRd hp => ?_⟩
  have hk := areA_ok hsig hA
  have hs := hp hpre
  obtain @⟨⟩ | @⟨_, d1, _, _, k1, hk⟩ := hk
  obtain @⟨⟩ | @⟨_, d2, _, _, k2, hk⟩ := hk
  cases hk
  obtain ⟨v, rfl, _⟩ := k1
  obtain ⟨t, rfl⟩ := k2
  obtain ⟨de, os, hr, he⟩ := hrun v (hver v t hs)
  obtain ⟨h1, h2⟩ := he t hs
  refine callK hnm hord hall hf hr hA hok (fun j k hjk => ?_) h1 h2
  simp only [lk] at hjk
  split at hjk
  · rename_i hj; cases hjk; rw [beq_iff_eq] at hj; subst hj; rfl
  · cases hjk
end Go.Mx
