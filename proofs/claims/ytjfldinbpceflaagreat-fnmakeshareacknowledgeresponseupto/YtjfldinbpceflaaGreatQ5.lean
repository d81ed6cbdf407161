/- Part of a verified symbolic run of the program's code (no condition of its own). -/
import Derived.Test.YtjfldinbpceflaaGreatQ4
import Derived.ChangeArms
import Derived.ChangeShapes
import Derived.Maps.RangeWalk
import Derived.Maps.OwnSet
import Derived.WalkKit
set_option linter.unusedVariables false
set_option linter.unusedSimpArgs false
namespace Go.Mx
open Go Go.Dx

/-! ## More of the library's functions -/
def de22 : DE := (.f .ite [(.v 2), (.f (.ext 10) [(.v 0), (.k (.int 0))]), (.f (.ext 10) [(.v 0), (.f (.add .u32) [(.k (.int 1)), (.f (.wrap .u32) [(.v 1)])])])])
def ob22 : List Ob := [(.when (.v 2) true [(.pre 10 [(.v 0), (.k (.int 0))])]), (.when (.v 2) false [(.pre 10 [(.v 0), (.f (.add .u32) [(.k (.int 1)), (.f (.wrap .u32) [(.v 1)])])])])]
def de21 : DE := (.f .ite [(.v 2), (.f (.ext 6) [(.v 0), (.k (.int (-1)))]), (.f (.ext 6) [(.v 0), (.f (.wrap .i32) [(.v 1)])])])
def ob21 : List Ob := [(.when (.v 2) true [(.pre 6 [(.v 0), (.k (.int (-1)))])]), (.when (.v 2) false [(.pre 6 [(.v 0), (.f (.wrap .i32) [(.v 1)])])])]
def de20 : DE := (.f (.ext 10) [(.v 0), (.f (.add .u32) [(.k (.int 1)), (.f (.wrap .u32) [(.v 1)])])])
def ob20 : List Ob := [(.pre 10 [(.v 0), (.f (.add .u32) [(.k (.int 1)), (.f (.wrap .u32) [(.v 1)])])])]
def de19 : DE := (.f (.ext 6) [(.v 0), (.f (.wrap .i32) [(.v 1)])])
def ob19 : List Ob := [(.pre 6 [(.v 0), (.f (.wrap .i32) [(.v 1)])])]
def de14 : DE := (.f .ite [(.f .isNil [(.v 1)]), (.f (.ext 10) [(.v 0), (.k (.int 0))]), (.f (.ext 12) [(.v 0), (.f (.get 0) [(.f .deref [(.v 1)])])])])
def ob14 : List Ob := [(.when (.f .isNil [(.v 1)]) true [(.pre 10 [(.v 0), (.k (.int 0))])]), (.when (.f .isNil [(.v 1)]) false [(.pre 12 [(.v 0), (.f (.get 0) [(.f .deref [(.v 1)])])]), (.when (.f .isNil [(.v 1)]) true [(.nz (.k (.int 0)))])])]
def de13 : DE := (.f .ite [(.f .isNil [(.v 1)]), (.f (.ext 4) [(.v 0), (.k (.int (-1)))]), (.f (.ext 11) [(.v 0), (.f (.get 0) [(.f .deref [(.v 1)])])])])
def ob13 : List Ob := [(.when (.f .isNil [(.v 1)]) true [(.pre 4 [(.v 0), (.k (.int (-1)))])]), (.when (.f .isNil [(.v 1)]) false [(.pre 11 [(.v 0), (.f (.get 0) [(.f .deref [(.v 1)])])]), (.when (.f .isNil [(.v 1)]) true [(.nz (.k (.int 0)))])])]
def de3 : DE := (.f .app [(.v 0), (.f .mkbytes [(.f (.wrap .u8) [(.v 1)])])])
def ob3 : List Ob := [(.room (.f .app [(.v 0), (.f .mkbytes [(.f (.wrap .u8) [(.v 1)])])]) 1)]
theorem ev3 (o : Option (List UInt8)) (x : Int) (n : Nat) (h : side 3 [encB o, .int x]) : obsHold X (Pre n) ob3 [encB o, .int x] ∧ de3.eval X [encB o, .int x] = X 3 [encB o, .int x] := by
  have e : de3.eval X [encB o, .int x] = X 3 [encB o, .int x] := by
    simp only [de3, X_3, ev_f, evs_cons, evs_nil, ev_v, List.getD_cons_zero, List.getD_cons_succ, fe_wrap, fe_app, int_i]
    rw [show Fixed x 1 = [UInt8.ofNat (IntKind.u8.wrap x).toNat] by simp [Fixed, byteAt_0]]
    show (encB o).appd (.bytes [UInt8.ofNat (IntKind.u8.wrap x).toNat]) = _
    cases o <;> simp [encB, D.appd, app, D.asStr]
  have h : (X 3 [encB o, .int x]).len ≤ lim := h
  refine ⟨⟨?_, trivial⟩, e⟩
  show (de3.eval X [encB o, .int x]).len * 1 ≤ _ ∧ (de3.eval X [encB o, .int x]).len ≤ _
  rw [e]; exact room1 h
theorem ev19 (o : Option (List UInt8)) (x : Int) (n : Nat) (h : side 19 [encB o, .int x]) : obsHold X (Pre n) ob19 [encB o, .int x] ∧ de19.eval X [encB o, .int x] = X 19 [encB o, .int x] := by
  have h : (X 19 [encB o, .int x]).len ≤ lim := h
  rw [X_19, len_app, Fixed_len] at h
  refine ⟨⟨pre_other rfl ?_, trivial⟩, ?_⟩
  · simp only [ev_f, evs_cons, evs_nil, ev_v, List.getD_cons_zero, List.getD_cons_succ, fe_wrap]
    show (X 6 _).len ≤ lim
    rw [X_6, len_app, Fixed_len]; exact h
  · simp only [de19, X_19, X_6, ev_f, evs_cons, evs_nil, ev_v, List.getD_cons_zero, List.getD_cons_succ, fe_wrap, fe_ext, int_i, fixed_i32]
theorem addone {x : Int} (h0 : 0 ≤ x) (h1 : x < 2147483648) : IntKind.u32.wrap (1 + IntKind.u32.wrap x) = 1 + x := by
  rw [wrapu32 h0 (by omega), wrapu32 (by omega) (by omega)]
theorem Uv5 {m : Nat} (h : m < 4294967296) : (Uvarint m).length ≤ 5 := by
  have := uvN_le 5 m (Nat.lt_of_lt_of_le h (by decide))
  rw [uv_len]; omega
theorem ev20 (o : Option (List UInt8)) (x : Int) (n : Nat) (h : side 20 [encB o, .int x]) : obsHold X (Pre n) ob20 [encB o, .int x] ∧ de20.eval X [encB o, .int x] = X 20 [encB o, .int x] := by
  rw [side_20] at h
  simp only [int_i] at h
  obtain ⟨h0, h1, h2⟩ := h
  have e : (DE.f (.add .u32) [(.k (.int 1)), (.f (.wrap .u32) [(.v 1)])]).eval X [encB o, .int x] = .int (1 + x) := by
    simp only [ev_f, evs_cons, evs_nil, ev_v, ev_k, List.getD_cons_zero, List.getD_cons_succ, fe_wrap, fe_add, addone h0 h1]
  refine ⟨⟨pre_other rfl ?_, trivial⟩, ?_⟩
  · rw [evs_cons, evs_cons, evs_nil, e]
    show (X 10 _).len ≤ lim
    rw [X_10, len_app, int_i]
    have := Uv5 (m := (1 + x).toNat) (by omega)
    show (encB o).asStr.length + _ ≤ _
    omega
  · rw [de20, ev_f, evs_cons, evs_cons, evs_nil, e, fe_ext, X_10, X_20, int_i, int_i, show (1 + x).toNat = x.toNat + 1 by omega]; rfl
theorem ev21 (o : Option (List UInt8)) (x : Int) (b : Bool) (n : Nat) (h : side 21 [encB o, .int x, .bool b]) : obsHold X (Pre n) ob21 [encB o, .int x, .bool b] ∧ de21.eval X [encB o, .int x, .bool b] = X 21 [encB o, .int x, .bool b] := by
  have h : (X 21 [encB o, .int x, .bool b]).len ≤ lim := h
  rw [X_21, len_app] at h
  have hv : (DE.v 2).eval X [encB o, .int x, .bool b] = .bool b := rfl
  refine ⟨⟨fun hb => ⟨pre_other rfl ?_, trivial⟩, fun hb => ⟨pre_other rfl ?_, trivial⟩, trivial⟩, ?_⟩
  · simp only [evs_cons, evs_nil, ev_v, ev_k, List.getD_cons_zero]
    show (X 6 _).len ≤ lim
    rw [X_6, len_app, Fixed_len]
    rw [show (if (D.bool b).asBool then Fixed (-1) 4 else Fixed (D.int x).asInt 4).length = 4 by split <;> rw [Fixed_len]] at h
    exact h
  · simp only [ev_f, evs_cons, evs_nil, ev_v, List.getD_cons_zero, List.getD_cons_succ, fe_wrap]
    show (X 6 _).len ≤ lim
    rw [X_6, len_app, Fixed_len]
    rw [show (if (D.bool b).asBool then Fixed (-1) 4 else Fixed (D.int x).asInt 4).length = 4 by split <;> rw [Fixed_len]] at h
    exact h
  · simp only [de21, X_21, X_6, ev_f, evs_cons, evs_nil, ev_v, ev_k, List.getD_cons_zero, List.getD_cons_succ, fe_wrap, fe_ext, fe_ite, int_i, fixed_i32, bool_b]
    cases b <;> rfl
theorem ev22 (o : Option (List UInt8)) (x : Int) (b : Bool) (n : Nat) (h : side 22 [encB o, .int x, .bool b]) : obsHold X (Pre n) ob22 [encB o, .int x, .bool b] ∧ de22.eval X [encB o, .int x, .bool b] = X 22 [encB o, .int x, .bool b] := by
  rw [side_22] at h
  simp only [int_i] at h
  obtain ⟨h0, h1, h2⟩ := h
  have e : (DE.f (.add .u32) [(.k (.int 1)), (.f (.wrap .u32) [(.v 1)])]).eval X [encB o, .int x, .bool b] = .int (1 + x) := by
    simp only [ev_f, evs_cons, evs_nil, ev_v, ev_k, List.getD_cons_zero, List.getD_cons_succ, fe_wrap, fe_add, addone h0 h1]
  refine ⟨⟨fun hb => ⟨pre_other rfl ?_, trivial⟩, fun hb => ⟨pre_other rfl ?_, trivial⟩, trivial⟩, ?_⟩
  · simp only [evs_cons, evs_nil, ev_v, ev_k, List.getD_cons_zero]
    show (X 10 _).len ≤ lim
    rw [X_10, len_app, int_i]
    have := Uv5 (m := (0 : Int).toNat) (by omega)
    show (encB o).asStr.length + _ ≤ _
    omega
  · rw [evs_cons, evs_cons, evs_nil, e]
    show (X 10 _).len ≤ lim
    rw [X_10, len_app, int_i]
    have := Uv5 (m := (1 + x).toNat) (by omega)
    show (encB o).asStr.length + _ ≤ _
    omega
  · rw [de22, ev_f, evs_cons, evs_cons, evs_cons, evs_nil]
    rw [ev_f, evs_cons, evs_cons, evs_nil, ev_f, evs_cons, evs_cons, evs_nil, e, ev_k, fe_ext, fe_ext, X_10, X_10, X_22, int_i, int_i, int_i]
    show Fn.eval X .ite [.bool b, _, _] = _
    rw [fe_ite, bool_b, show (1 + x).toNat = x.toNat + 1 by omega]
    cases b <;> rfl
/-- a text that may be null -/
def encP (s : Option (List UInt8)) : D := match s with | none => .nil | some s => .ptr (.str s)
theorem ev13 (o s : Option (List UInt8)) (n : Nat) (h : side 13 [encB o, encP s]) : obsHold X (Pre n) ob13 [encB o, encP s] ∧ de13.eval X [encB o, encP s] = X 13 [encB o, encP s] := by
  have h : (X 13 [encB o, encP s]).len ≤ lim := h
  rw [X_13, len_app] at h
  have eN : (DE.f .isNil [.v 1]).eval X [encB o, encP s] = .bool s.isNone := by
    rw [ev_f, evs_cons, evs_nil, fe_isNil]; cases s <;> rfl
  have eD : ∀ t, s = some t → (DE.f (.get 0) [.f .deref [.v 1]]).eval X [encB o, encP s] = .str t := fun t e => by subst e; rfl
  refine ⟨⟨fun hb => ⟨pre_other rfl ?_, trivial⟩, fun hb => ⟨pre_other rfl ?_, fun hc => ?_, trivial⟩, trivial⟩, ?_⟩
  · rw [eN] at hb
    simp only [evs_cons, evs_nil, ev_v, ev_k, List.getD_cons_zero]
    show (X 4 _).len ≤ lim
    cases s with
    | some t => simp [D.asBool] at hb
    | none =>
      rw [X_4, len_app, Fixed_len]
      change (encB o).asStr.length + (Fixed (-1) 2).length ≤ lim at h
      rw [Fixed_len] at h
      exact h
  · rw [eN] at hb
    cases s with
    | none => simp [D.asBool] at hb
    | some t =>
      rw [evs_cons, evs_cons, evs_nil, eD t rfl]
      show (X 11 _).len ≤ lim
      rw [X_11, len_app]
      exact h
  · rw [hc] at hb; cases hb
  · rw [de13, ev_f, evs_cons, evs_cons, evs_cons, evs_nil, eN, fe_ite]
    cases s with
    | none => rfl
    | some t =>
      simp only [Option.isNone_some, Bool.false_eq_true, if_false]
      rw [ev_f, evs_cons, evs_cons, evs_nil, eD t rfl, fe_ext, X_11, X_13]; rfl
theorem ev14 (o s : Option (List UInt8)) (n : Nat) (h : side 14 [encB o, encP s]) : obsHold X (Pre n) ob14 [encB o, encP s] ∧ de14.eval X [encB o, encP s] = X 14 [encB o, encP s] := by
  rw [side_14] at h
  have eN : (DE.f .isNil [.v 1]).eval X [encB o, encP s] = .bool s.isNone := by
    rw [ev_f, evs_cons, evs_nil, fe_isNil]; cases s <;> rfl
  have eD : ∀ t, s = some t → (DE.f (.get 0) [.f .deref [.v 1]]).eval X [encB o, encP s] = .str t := fun t e => by subst e; rfl
  refine ⟨⟨fun hb => ⟨pre_other rfl ?_, trivial⟩, fun hb => ⟨pre_other rfl ?_, fun hc => ?_, trivial⟩, trivial⟩, ?_⟩
  · rw [eN] at hb
    simp only [evs_cons, evs_nil, ev_v, ev_k, List.getD_cons_zero]
    show (X 10 _).len ≤ lim
    rw [X_10, len_app, int_i]
    have := Uv5 (m := (0 : Int).toNat) (by omega)
    show (encB o).asStr.length + _ ≤ _
    omega
  · rw [eN] at hb
    cases s with
    | none => simp [D.asBool] at hb
    | some t =>
      rw [evs_cons, evs_cons, evs_nil, eD t rfl]
      show side 12 _
      rw [ev_v, List.getD_cons_zero, side_12]
      exact h
  · rw [hc] at hb; cases hb
  · rw [de14, ev_f, evs_cons, evs_cons, evs_cons, evs_nil, eN, fe_ite]
    cases s with
    | none => rfl
    | some t =>
      simp only [Option.isNone_some, Bool.false_eq_true, if_false]
      rw [ev_f, evs_cons, evs_cons, evs_nil, eD t rfl, fe_ext, X_12, X_14]; rfl
/-! ### how long a number is -/
def uvT : List UInt8 := [1, 1, 1, 1, 1, 1, 1, 1, 2, 2, 2, 2, 2, 2, 2, 3, 3, 3, 3, 3, 3, 3, 4, 4, 4, 4, 4, 4, 4, 5, 5, 5, 5, 5, 5, 5, 6, 6, 6, 6, 6, 6, 6, 7, 7, 7, 7, 7, 7, 7, 8, 8, 8, 8, 8, 8, 8, 9, 9, 9, 9, 9, 9, 9, 10, 0, 0, 0, 0, 0, 0, 0, 0, 0, 0, 0, 0, 0, 0, 0, 0, 0, 0, 0, 0, 0, 0, 0, 0, 0, 0, 0, 0, 0, 0, 0, 0, 0, 0, 0, 0, 0, 0, 0, 0, 0, 0, 0, 0, 0, 0, 0, 0, 0, 0, 0, 0, 0, 0, 0, 0, 0, 0, 0, 0, 0, 0, 0, 0, 0, 0, 0, 0, 0, 0, 0, 0, 0, 0, 0, 0, 0, 0, 0, 0, 0, 0, 0, 0, 0, 0, 0, 0, 0, 0, 0, 0, 0, 0, 0, 0, 0, 0, 0, 0, 0, 0, 0, 0, 0, 0, 0, 0, 0, 0, 0, 0, 0, 0, 0, 0, 0, 0, 0, 0, 0, 0, 0, 0, 0, 0, 0, 0, 0, 0, 0, 0, 0, 0, 0, 0, 0, 0, 0, 0, 0, 0, 0, 0, 0, 0, 0, 0, 0, 0, 0, 0, 0, 0, 0, 0, 0, 0, 0, 0, 0, 0, 0, 0, 0, 0, 0, 0, 0, 0, 0, 0, 0, 0, 0, 0, 0, 0, 0, 0, 0, 0, 0, 0, 0, 0, 0, 0, 0, 0, 0]
def l8T : List UInt8 := [0, 1, 2, 2, 3, 3, 3, 3, 4, 4, 4, 4, 4, 4, 4, 4, 5, 5, 5, 5, 5, 5, 5, 5, 5, 5, 5, 5, 5, 5, 5, 5, 6, 6, 6, 6, 6, 6, 6, 6, 6, 6, 6, 6, 6, 6, 6, 6, 6, 6, 6, 6, 6, 6, 6, 6, 6, 6, 6, 6, 6, 6, 6, 6, 7, 7, 7, 7, 7, 7, 7, 7, 7, 7, 7, 7, 7, 7, 7, 7, 7, 7, 7, 7, 7, 7, 7, 7, 7, 7, 7, 7, 7, 7, 7, 7, 7, 7, 7, 7, 7, 7, 7, 7, 7, 7, 7, 7, 7, 7, 7, 7, 7, 7, 7, 7, 7, 7, 7, 7, 7, 7, 7, 7, 7, 7, 7, 7, 8, 8, 8, 8, 8, 8, 8, 8, 8, 8, 8, 8, 8, 8, 8, 8, 8, 8, 8, 8, 8, 8, 8, 8, 8, 8, 8, 8, 8, 8, 8, 8, 8, 8, 8, 8, 8, 8, 8, 8, 8, 8, 8, 8, 8, 8, 8, 8, 8, 8, 8, 8, 8, 8, 8, 8, 8, 8, 8, 8, 8, 8, 8, 8, 8, 8, 8, 8, 8, 8, 8, 8, 8, 8, 8, 8, 8, 8, 8, 8, 8, 8, 8, 8, 8, 8, 8, 8, 8, 8, 8, 8, 8, 8, 8, 8, 8, 8, 8, 8, 8, 8, 8, 8, 8, 8, 8, 8, 8, 8, 8, 8, 8, 8, 8, 8, 8, 8, 8, 8, 8, 8, 8, 8, 8, 8, 8, 8]
namespace U31
def A : DE := .f .ite [.f .leI [.k (.int 65536), .v 0], .f (.shr .u32) [.v 0, .k (.int 16)], .v 0]
def B : DE := .f .ite [.f .leI [.k (.int 65536), .v 0], .k (.int 16), .k (.int 0)]
def C : DE := .f .leI [.k (.int 256), A]
def M : DE := .f .ite [C, .f (.shr .u32) [A, .k (.int 8)], A]
def N : DE := .f .ite [C, .f (.add .i64) [B, .k (.int 8)], B]
def W : DE := .f (.wrap .u8) [M]
def L : DE := .f (.wrap .i64) [.f .at [.k (.bytes l8T), W]]
def I : DE := .f (.wrap .u8) [.f (.add .i64) [N, L]]
end U31
def de31 : DE := .f (.wrap .i64) [.f .at [.k (.bytes uvT), U31.I]]
def ob31 : List Ob := [.idx U31.I (.k (.bytes uvT)) true, .idx U31.W (.k (.bytes l8T)) true]
theorem uvT_len : uvT.length = 256 := by decide +kernel
theorem l8T_len : l8T.length = 256 := by decide +kernel
theorem l8_le : ∀ m : Fin 256, (l8T.getD m.1 0).toNat ≤ 8 := by decide +kernel
theorem tab0 : ∀ m : Fin 256, (uvT.getD (0 + (l8T.getD m.1 0).toNat) 0).toNat = if m.1 < 128 then 1 else 2 := by decide +kernel
theorem tab8 : ∀ m : Fin 256, 1 ≤ m.1 → (uvT.getD (8 + (l8T.getD m.1 0).toNat) 0).toNat = if m.1 < 64 then 2 else 3 := by decide +kernel
theorem tab16 : ∀ m : Fin 256, 1 ≤ m.1 → (uvT.getD (16 + (l8T.getD m.1 0).toNat) 0).toNat = if m.1 < 32 then 3 else 4 := by decide +kernel
theorem tab24 : ∀ m : Fin 256, 1 ≤ m.1 → (uvT.getD (24 + (l8T.getD m.1 0).toNat) 0).toNat = if m.1 < 16 then 4 else 5 := by decide +kernel
theorem uvlen_step (n : Nat) : (Uvarint n).length = if 127 < n then 1 + (Uvarint (n / 128)).length else 1 := by
  rw [Uvarint]
  split
  · rw [List.length_cons]; omega
  · rfl
theorem uvlen (n : Nat) (h : n < 4294967296) : (Uvarint n).length = if n < 128 then 1 else if n < 16384 then 2 else if n < 2097152 then 3 else if n < 268435456 then 4 else 5 := by
  have e1 := uvlen_step n
  have e2 := uvlen_step (n / 128)
  have e3 := uvlen_step (n / 128 / 128)
  have e4 := uvlen_step (n / 128 / 128 / 128)
  have e5 := uvlen_step (n / 128 / 128 / 128 / 128)
  repeat (first | omega | split at *)
theorem at_bytes (l : List UInt8) (i : Nat) (h : i < l.length) : Fn.eval X .at [.bytes l, .int (i : Nat)] = .int (l.getD i 0).toNat := by
  rw [fe_at, Int.toNat_natCast]
  show (l.map fun x => D.int x.toNat).getD i .nil = _
  rw [List.getD_eq_getElem?_getD, List.getElem?_map, List.getD_eq_getElem?_getD, List.getElem?_eq_getElem h]; rfl
theorem ev31 (x : Int) (n : Nat) (h0 : 0 ≤ x) (h1 : x < 4294967296) : obsHold X (Pre n) ob31 [.int x] ∧ de31.eval X [.int x] = X 31 [.int x] := by
  obtain ⟨k, rfl⟩ := Int.eq_ofNat_of_zero_le h0
  have hk : k < 4294967296 := by omega
  have s16 : shrI (k : Int) 16 .u32 = ((k / 65536 : Nat) : Int) := shr32 k 16 65536 (by decide) (by decide)
  have eA : U31.A.eval X [.int (k : Nat)] = .int ((if 65536 ≤ k then k / 65536 else k : Nat) : Int) := by
    simp only [U31.A, ev_f, evs_cons, evs_nil, ev_v, ev_k, List.getD_cons_zero, fe_leI, fe_shr, fe_ite, s16]
    by_cases c : 65536 ≤ k
    · rw [if_pos c, if_pos (by simpa using (by omega : (65536 : Int) ≤ (k : Int)))]
    · rw [if_neg c, if_neg (by simpa using (by omega : ¬ (65536 : Int) ≤ (k : Int)))]
  have eB : U31.B.eval X [.int (k : Nat)] = .int ((if 65536 ≤ k then 16 else 0 : Nat) : Int) := by
    simp only [U31.B, ev_f, evs_cons, evs_nil, ev_v, ev_k, List.getD_cons_zero, fe_leI, fe_ite]
    by_cases c : 65536 ≤ k
    · rw [if_pos c, if_pos (by simpa using (by omega : (65536 : Int) ≤ (k : Int)))]; rfl
    · rw [if_neg c, if_neg (by simpa using (by omega : ¬ (65536 : Int) ≤ (k : Int)))]; rfl
  generalize ha : (if 65536 ≤ k then k / 65536 else k) = a at eA
  generalize hb : (if 65536 ≤ k then 16 else 0) = b at eB
  have ha2 : a < 65536 := by rw [← ha]; split <;> omega
  have hb2 : b ≤ 16 := by rw [← hb]; split <;> omega
  have s8 : shrI (a : Int) 8 .u32 = ((a / 256 : Nat) : Int) := shr32 a 8 256 (by decide) (by decide)
  have eC : U31.C.eval X [.int (k : Nat)] = .bool (decide (256 ≤ a)) := by
    simp only [U31.C, ev_f, evs_cons, evs_nil, ev_k, eA, fe_leI]
    congr 1
    by_cases c : 256 ≤ a
    · rw [decide_eq_true c, decide_eq_true (by omega : (256 : Int) ≤ (a : Int))]
    · rw [decide_eq_false c, decide_eq_false (by omega : ¬ (256 : Int) ≤ (a : Int))]
  have eM : U31.M.eval X [.int (k : Nat)] = .int ((if 256 ≤ a then a / 256 else a : Nat) : Int) := by
    simp only [U31.M, ev_f, evs_cons, evs_nil, ev_k, eA, eC, fe_shr, fe_ite, s8]
    by_cases c : 256 ≤ a
    · rw [if_pos c, if_pos (by simpa using c)]
    · rw [if_neg c, if_neg (by simpa using c)]
  have eN : U31.N.eval X [.int (k : Nat)] = .int ((if 256 ≤ a then b + 8 else b : Nat) : Int) := by
    simp only [U31.N, ev_f, evs_cons, evs_nil, ev_k, eB, eC, fe_add, fe_ite]
    by_cases c : 256 ≤ a
    · rw [if_pos c, if_pos (by simpa using c), wrapl (by omega) (by omega)]; rfl
    · rw [if_neg c, if_neg (by simpa using c)]
  generalize hm : (if 256 ≤ a then a / 256 else a) = m at eM
  generalize hn : (if 256 ≤ a then b + 8 else b) = q at eN
  have hm2 : m < 256 := by rw [← hm]; split <;> omega
  have hq2 : q ≤ 24 := by rw [← hn]; split <;> omega
  have eW : U31.W.eval X [.int (k : Nat)] = .int (m : Nat) := by
    rw [U31.W, ev_f, evs_cons, evs_nil, eM, fe_wrap, wrapu8 (by omega) (by omega)]
  have hl := l8_le ⟨m, hm2⟩
  simp only at hl
  have eL : U31.L.eval X [.int (k : Nat)] = .int ((l8T.getD m 0).toNat : Nat) := by
    rw [U31.L, ev_f, evs_cons, evs_nil, ev_f, evs_cons, evs_cons, evs_nil, eW, ev_k, at_bytes _ _ (by rw [l8T_len]; exact hm2), fe_wrap, wrapl (by omega) (by omega)]
  have eI : U31.I.eval X [.int (k : Nat)] = .int ((q + (l8T.getD m 0).toNat : Nat) : Int) := by
    rw [U31.I, ev_f, evs_cons, evs_nil, ev_f, evs_cons, evs_cons, evs_nil, eN, eL, fe_add, fe_wrap, wrapl (by omega) (by omega), wrapu8 (by omega) (by omega)]
    rfl
  have hu : ((uvT.getD (q + (l8T.getD m 0).toNat) 0).toNat : Nat) = (Uvarint k).length := by
    rw [uvlen k hk]
    have t0 := tab0 ⟨m, hm2⟩
    have t8 := tab8 ⟨m, hm2⟩
    have t16 := tab16 ⟨m, hm2⟩
    have t24 := tab24 ⟨m, hm2⟩
    simp only at t0 t8 t16 t24
    by_cases c1 : 65536 ≤ k
    · rw [if_pos c1] at ha hb
      by_cases c2 : 256 ≤ a
      · rw [if_pos c2] at hm hn
        have hq : q = 24 := by omega
        rw [hq, t24 (by omega)]
        repeat (first | omega | split)
      · rw [if_neg c2] at hm hn
        have hq : q = 16 := by omega
        rw [hq, t16 (by omega)]
        repeat (first | omega | split)
    · rw [if_neg c1] at ha hb
      by_cases c2 : 256 ≤ a
      · rw [if_pos c2] at hm hn
        have hq : q = 8 := by omega
        rw [hq, t8 (by omega)]
        repeat (first | omega | split)
      · rw [if_neg c2] at hm hn
        have hq : q = 0 := by omega
        rw [hq, t0]
        repeat (first | omega | split)
  refine ⟨⟨?_, ?_, trivial⟩, ?_⟩
  · simp only [Ob.holds, eI, int_i, if_true, ev_k, Int.toNat_natCast]
    refine ⟨Int.natCast_nonneg _, ?_⟩
    show _ < uvT.length
    rw [uvT_len]; omega
  · simp only [Ob.holds, eW, int_i, if_true, ev_k, Int.toNat_natCast]
    refine ⟨Int.natCast_nonneg _, ?_⟩
    show _ < l8T.length
    rw [l8T_len]; omega
  · rw [de31, ev_f, evs_cons, evs_nil, ev_f, evs_cons, evs_cons, evs_nil, eI, ev_k, at_bytes _ _ (by rw [uvT_len]; omega), hu, fe_wrap, X_31, int_i, Int.toNat_natCast]
    have := Uv5 hk
    rw [wrapl (by omega) (by omega)]
end Go.Mx

namespace Go.Mx
open Go Go.Dx

/-! ## Types, as the rows know them -/
inductive K where
  | int (k : IntKind) | bool | str | pstr | byts | tree | trees | tag | tags | fl | fls | msg
deriving Repr, DecidableEq
def agg (P : Program) (t : TypeId) : Bool := match P.underlying t with | some d => isAggD d | none => false
def sl (P : Program) (t : TypeId) : Option TypeId := match P.underlying t with | some (.slice e) => some e | _ => none
def isI (P : Program) (k : IntKind) (t : TypeId) : Bool := match P.underlying t with | some (.int k') => decide (k' = k) | _ => false
def isBo (P : Program) (t : TypeId) : Bool := match P.underlying t with | some .bool => true | _ => false
def isSt (P : Program) (t : TypeId) : Bool := match P.underlying t with | some .string => true | _ => false
def isPs (P : Program) (t : TypeId) : Bool := match P.underlying t with | some (.pointer e) => isSt P e | _ => false
def isBy (P : Program) (t : TypeId) : Bool := match sl P t with | some e => isI P .u8 e | none => false
def isTag (P : Program) (t : TypeId) : Bool := agg P t && match tys P t with | [a, b] => isI P .u32 a && isBy P b | _ => false
def isTags (P : Program) (t : TypeId) : Bool := match sl P t with | some e => isTag P e | none => false
def isTree (P : Program) (t : TypeId) : Bool := agg P t && match tys P t with | [a, b, c, d, e] => isI P .i64 a && isBy P b && isBo P c && decide (sl P d = some t) && isTags P e | _ => false
def isTrees (P : Program) (t : TypeId) : Bool := match sl P t with | some e => isTree P e | none => false
def isFl (P : Program) (t : TypeId) : Bool := agg P t && match tys P t with | [a, b, c, d, e, f, g, h] => isI P .i64 a && isI P .i64 b && isI P .i64 c && isI P .i64 d && isI P .i64 e && isI P .i64 f && isI P .i64 g && decide (sl P h = some t) | _ => false
def isFls (P : Program) (t : TypeId) : Bool := match sl P t with | some e => isFl P e | none => false
def isMsg (P : Program) (t : TypeId) : Bool := agg P t && match tys P t with | [a, b] => isFls P a && isI P .i64 b | _ => false
def isK (P : Program) : K → TypeId → Bool
  | .int k => isI P k | .bool => isBo P | .str => isSt P | .pstr => isPs P | .byts => isBy P | .tree => isTree P | .trees => isTrees P | .tag => isTag P | .tags => isTags P | .fl => isFl P | .fls => isFls P | .msg => isMsg P
def KOk : K → D → Prop
  | .int k, d => ∃ n, d = .int n ∧ (Lit.int k n).wf = true
  | .bool, d => ∃ b, d = .bool b
  | .str, d => ∃ s, d = .str s
  | .pstr, d => ∃ s, d = encP s
  | .byts, d => ∃ s, d = encB s
  | .tree, d => ∃ t : T, d = t.d
  | .trees, d => ∃ l, d = encT l
  | .tag, d => ∃ t : Tg, d = t.d
  | .tags, d => ∃ l, d = encU l
  | .fl, d => ∃ f : Fl, d = f.d
  | .fls, d => ∃ l, d = encF l
  | .msg, d => ∃ fs fx, d = .row [encF fs, .int fx]

section
variable {P : Program} {ok : Nat → Prop} {w : World}
theorem sl_eq {t e : TypeId} (h : sl P t = some e) : P.underlying t = some (.slice e) := by
  unfold sl at h; split at h
  · rename_i e' hu; cases h; exact hu
  · cases h
theorem isI_eq {t : TypeId} {k : IntKind} (h : isI P k t = true) : P.underlying t = some (.int k) := by
  unfold isI at h; split at h
  · rename_i k' hu; rw [of_decide_eq_true h] at hu; exact hu
  · cases h
theorem isBo_eq {t : TypeId} (h : isBo P t = true) : P.underlying t = some .bool := by
  unfold isBo at h; split at h
  · assumption
  · cases h
theorem isSt_eq {t : TypeId} (h : isSt P t = true) : P.underlying t = some .string := by
  unfold isSt at h; split at h
  · assumption
  · cases h
theorem agg_eq {t : TypeId} (h : agg P t = true) : ∃ d, P.underlying t = some d ∧ isAggD d = true := by
  unfold agg at h; split at h
  · rename_i d hu; exact ⟨d, hu, h⟩
  · cases h
theorem isBy_eq {t : TypeId} (h : isBy P t = true) : ∃ e, P.underlying t = some (.slice e) ∧ P.underlying e = some (.int .u8) := by
  unfold isBy at h; split at h
  · rename_i e he; exact ⟨e, sl_eq he, isI_eq h⟩
  · cases h
theorem rep_int {t : TypeId} {k : IntKind} {v : Value} {d : D} (h : isI P k t = true) (hr : Rep P ok w t v d) : KOk (.int k) d := by
  have hu := isI_eq h
  cases hr with
  | int hu' hw => rw [hu] at hu'; cases hu'; exact ⟨_, rfl, hw⟩
  | row hu' hd => rw [hu] at hu'; cases hu'; simp [isAggD] at hd
  | _ => simp_all
theorem rep_bool {t : TypeId} {v : Value} {d : D} (h : isBo P t = true) (hr : Rep P ok w t v d) : KOk .bool d := by
  have hu := isBo_eq h
  cases hr with
  | bool => exact ⟨_, rfl⟩
  | row hu' hd => rw [hu] at hu'; cases hu'; simp [isAggD] at hd
  | _ => simp_all
theorem rep_str {t : TypeId} {v : Value} {d : D} (h : isSt P t = true) (hr : Rep P ok w t v d) : KOk .str d := by
  have hu := isSt_eq h
  cases hr with
  | str => exact ⟨_, rfl⟩
  | row hu' hd => rw [hu] at hu'; cases hu'; simp [isAggD] at hd
  | _ => simp_all
theorem rep_pstr {t : TypeId} {v : Value} {d : D} (h : isPs P t = true) (hr : Rep P ok w t v d) : KOk .pstr d := by
  unfold isPs at h
  split at h
  · rename_i e hu
    cases hr with
    | pnil => exact ⟨none, rfl⟩
    | ptr hu' _ _ hr' =>
      rw [hu] at hu'; cases hu'
      obtain ⟨s, rfl⟩ := rep_str h hr'
      exact ⟨some s, rfl⟩
    | row hu' hd => rw [hu] at hu'; cases hu'; simp [isAggD] at hd
    | _ => simp_all
  · cases h
theorem rep_byts {t : TypeId} {v : Value} {d : D} (h : isBy P t = true) (hr : Rep P ok w t v d) : KOk .byts d := by
  obtain ⟨e, hu, he⟩ := isBy_eq h
  cases hr with
  | snil => exact ⟨none, rfl⟩
  | bytes => exact ⟨some _, rfl⟩
  | list hu' he' => rw [hu] at hu'; cases hu'; exact absurd he he'
  | row hu' hd => rw [hu] at hu'; cases hu'; simp [isAggD] at hd
  | _ => simp_all
/-- a row's cells -/
theorem rep_row {t : TypeId} {v : Value} {d : D} (h : agg P t = true) (hr : Rep P ok w t v d) : ∃ ds, d = .row ds ∧ ds.length = (tys P t).length ∧ ∀ (j : Nat) (u : TypeId) (x : D), (tys P t)[j]? = some u → ds[j]? = some x → ∃ v', Rep P ok w u v' x := by
  obtain ⟨dd, hu, ha⟩ := agg_eq h
  cases hr with
  | row hu' hd hlen hlen' h1 hr =>
    rename_i vs ds
    refine ⟨ds, rfl, hlen', fun j u x hj hx => ?_⟩
    have hj2 : j < vs.length := by rw [hlen]; exact (List.getElem?_eq_some_iff.1 hj).1
    exact ⟨vs[j], hr j u _ x hj (List.getElem?_eq_getElem hj2) hx⟩
  | int hu' => rw [hu] at hu'; cases hu'; simp [isAggD] at ha
  | bool hu' => rw [hu] at hu'; cases hu'; simp [isAggD] at ha
  | str hu' => rw [hu] at hu'; cases hu'; simp [isAggD] at ha
  | flt hu' => rw [hu] at hu'; cases hu'; simp [isAggD] at ha
  | snil hu' => rw [hu] at hu'; cases hu'; simp [isAggD] at ha
  | bytes hu' => rw [hu] at hu'; cases hu'; simp [isAggD] at ha
  | list hu' => rw [hu] at hu'; cases hu'; simp [isAggD] at ha
  | pnil hu' => rw [hu] at hu'; cases hu'; simp [isAggD] at ha
  | ptr hu' => rw [hu] at hu'; cases hu'; simp [isAggD] at ha
  | mnil hu' => rw [hu] at hu'; cases hu'; simp [isAggD] at ha
  | map hu' => rw [hu] at hu'; cases hu'; simp [isAggD] at ha
/-- a slice of rows -/
theorem rep_list {t e : TypeId} {v : Value} {d : D} (h : sl P t = some e) (ha : agg P e = true) (hr : Rep P ok w t v d) : d = .nil ∨ ∃ ds, d = .list ds ∧ ∀ x ∈ ds, ∃ v', Rep P ok w e v' x := by
  have hu := sl_eq h
  obtain ⟨dd, hue, hae⟩ := agg_eq ha
  cases hr with
  | snil => exact .inl rfl
  | bytes hu' he => rw [hu] at hu'; cases hu'; rw [hue] at he; cases he; simp [isAggD] at hae
  | list hu' he hi hok hlen hcap hmax hsz hc hr =>
    rw [hu] at hu'; cases hu'
    rename_i vs ds
    refine .inr ⟨ds, rfl, fun x hx => ?_⟩
    obtain ⟨j, hj, hjx⟩ := List.mem_iff_getElem.1 hx
    have hj2 : j < vs.length := by omega
    exact ⟨vs[j], hr j _ x (List.getElem?_eq_getElem hj2) (by rw [List.getElem?_eq_getElem hj, hjx])⟩
  | row hu' hd => rw [hu] at hu'; cases hu'; simp [isAggD] at hd
  | _ => simp_all
theorem choose_map {A : Type} {f : A → D} : ∀ {ds : List D}, (∀ x ∈ ds, ∃ a, x = f a) → ∃ l : List A, ds = l.map f
  | [], _ => ⟨[], rfl⟩
  | d :: ds, h => by
    obtain ⟨a, ha⟩ := h d (by simp)
    obtain ⟨l, hl⟩ := choose_map (f := f) (ds := ds) (fun x hx => h x (by simp [hx]))
    exact ⟨a :: l, by simp [ha, hl]⟩
theorem rep_tag {t : TypeId} {v : Value} {d : D} (h : isTag P t = true) (hr : Rep P ok w t v d) : KOk .tag d := by
  unfold isTag at h
  simp only [Bool.and_eq_true] at h
  obtain ⟨ha, h⟩ := h
  obtain ⟨ds, rfl, hlen, hcell⟩ := rep_row ha hr
  split at h
  · rename_i a b hty
    simp only [Bool.and_eq_true] at h
    rw [hty] at hlen hcell
    match ds, hlen with
    | [x, y], _ =>
      obtain ⟨v1, r1⟩ := hcell 0 a x rfl rfl
      obtain ⟨v2, r2⟩ := hcell 1 b y rfl rfl
      obtain ⟨n, rfl, _⟩ := rep_int h.1 r1
      obtain ⟨s, rfl⟩ := rep_byts h.2 r2
      exact ⟨⟨n, s⟩, rfl⟩
  · cases h
theorem isTag_agg {t : TypeId} (h : isTag P t = true) : agg P t = true := by
  unfold isTag at h; simp only [Bool.and_eq_true] at h; exact h.1
theorem isTree_agg {t : TypeId} (h : isTree P t = true) : agg P t = true := by
  unfold isTree at h; simp only [Bool.and_eq_true] at h; exact h.1
theorem isFl_agg {t : TypeId} (h : isFl P t = true) : agg P t = true := by
  unfold isFl at h; simp only [Bool.and_eq_true] at h; exact h.1
theorem rep_tags {t : TypeId} {v : Value} {d : D} (h : isTags P t = true) (hr : Rep P ok w t v d) : KOk .tags d := by
  unfold isTags at h
  split at h
  · rename_i e he
    rcases rep_list he (isTag_agg h) hr with rfl | ⟨ds, rfl, hx⟩
    · exact ⟨none, rfl⟩
    · obtain ⟨l, rfl⟩ := choose_map (f := Tg.d) (fun x hx' => by obtain ⟨v', r⟩ := hx x hx'; exact rep_tag h r)
      exact ⟨some l, rfl⟩
  · cases h
theorem rep_tree0 {t : TypeId} {v : Value} {d : D} (hr : Rep P ok w t v d) : (isTree P t = true → KOk .tree d) ∧ ∀ e, sl P t = some e → isTree P e = true → KOk .trees d := by
  have noAgg : ∀ {t : TypeId} {d : TypeDesc}, P.underlying t = some d → isAggD d = false → ¬ isTree P t = true := fun hu hd h => by
    obtain ⟨d', hu', ha⟩ := agg_eq (isTree_agg h)
    rw [hu] at hu'; cases hu'; rw [hd] at ha; cases ha
  have noSl : ∀ {t e : TypeId} {d : TypeDesc}, P.underlying t = some d → sl P t = some e → d = .slice e := fun hu h => by
    have := sl_eq h
    rw [hu] at this; cases this; rfl
  induction hr with
  | int hu _ => exact ⟨fun h => absurd h (noAgg hu rfl), fun e he => absurd (noSl hu he) (by simp)⟩
  | bool hu => exact ⟨fun h => absurd h (noAgg hu rfl), fun e he => absurd (noSl hu he) (by simp)⟩
  | str hu _ => exact ⟨fun h => absurd h (noAgg hu rfl), fun e he => absurd (noSl hu he) (by simp)⟩
  | flt hu => exact ⟨fun h => absurd h (noAgg hu rfl), fun e he => absurd (noSl hu he) (by simp)⟩
  | snil hu => exact ⟨fun h => absurd h (noAgg hu rfl), fun e he ht => ⟨none, rfl⟩⟩
  | bytes hu he8 _ _ _ _ =>
    refine ⟨fun h => absurd h (noAgg hu rfl), fun e he ht => ?_⟩
    have := noSl hu he
    cases this
    exact absurd ht (noAgg he8 rfl)
  | list hu he8 hi hok hlen hcap hmax hsz hc hr ih =>
    rename_i t' e' cap ad i vs ds
    refine ⟨fun h => absurd h (noAgg hu rfl), fun e he ht => ?_⟩
    have := noSl hu he
    cases this
    obtain ⟨l, rfl⟩ := choose_map (f := T.d) (ds := ds) (fun x hx => by
      obtain ⟨j, hj, hjx⟩ := List.mem_iff_getElem.1 hx
      have hj2 : j < vs.length := by omega
      exact (ih j _ x (List.getElem?_eq_getElem hj2) (by rw [List.getElem?_eq_getElem hj, hjx])).1 ht)
    exact ⟨some l, by simp [encT, tds_map]⟩
  | row hu hd hlen hlen' h1 hr ih =>
    rename_i t' d' vs ds
    refine ⟨fun h => ?_, fun e he ht => ?_⟩
    rotate_left
    · have := noSl hu he
      subst this
      simp [isAggD] at hd
    have h0 := h
    unfold isTree at h
    simp only [Bool.and_eq_true] at h
    obtain ⟨ha, h⟩ := h
    split at h
    · rename_i a b c d'' e hty
      simp only [Bool.and_eq_true, decide_eq_true_eq] at h
      obtain ⟨⟨⟨⟨q1, q2⟩, q3⟩, q4⟩, q5⟩ := h
      have cell : ∀ (j : Nat) (u : TypeId) (x : D), (tys P t')[j]? = some u → ds[j]? = some x → ∃ v', vs[j]? = some v' := fun j u x hj hx => by
        have hj2 : j < vs.length := by rw [hlen]; exact (List.getElem?_eq_some_iff.1 hj).1
        exact ⟨vs[j], List.getElem?_eq_getElem hj2⟩
      rw [hty] at hlen' hr ih cell
      match ds, hlen' with
      | [x1, x2, x3, x4, x5], _ =>
        obtain ⟨v1, r1⟩ := cell 0 a x1 rfl rfl
        obtain ⟨v2, r2⟩ := cell 1 b x2 rfl rfl
        obtain ⟨v3, r3⟩ := cell 2 c x3 rfl rfl
        obtain ⟨v4, r4⟩ := cell 3 d'' x4 rfl rfl
        obtain ⟨v5, r5⟩ := cell 4 e x5 rfl rfl
        obtain ⟨n, rfl, _⟩ := rep_int q1 (hr 0 a v1 x1 rfl r1 rfl)
        obtain ⟨s, rfl⟩ := rep_byts q2 (hr 1 b v2 x2 rfl r2 rfl)
        obtain ⟨bb, rfl⟩ := rep_bool q3 (hr 2 c v3 x3 rfl r3 rfl)
        obtain ⟨l, rfl⟩ := (ih 3 d'' v4 x4 rfl r4 rfl).2 t' q4 h0
        obtain ⟨u, rfl⟩ := rep_tags q5 (hr 4 e v5 x5 rfl r5 rfl)
        exact ⟨.mk n s bb l u, by simp [T.d]⟩
    · cases h
  | pnil hu => exact ⟨fun h => absurd h (noAgg hu rfl), fun e he => absurd (noSl hu he) (by simp)⟩
  | ptr hu _ _ _ _ => exact ⟨fun h => absurd h (noAgg hu rfl), fun e he => absurd (noSl hu he) (by simp)⟩
  | mnil hu => exact ⟨fun h => absurd h (noAgg hu rfl), fun e he => absurd (noSl hu he) (by simp)⟩
  | map hu _ _ _ _ _ _ _ _ _ _ => exact ⟨fun h => absurd h (noAgg hu rfl), fun e he => absurd (noSl hu he) (by simp)⟩
theorem rep_fl0 {t : TypeId} {v : Value} {d : D} (hr : Rep P ok w t v d) : (isFl P t = true → KOk .fl d) ∧ ∀ e, sl P t = some e → isFl P e = true → KOk .fls d := by
  have noAgg : ∀ {t : TypeId} {d : TypeDesc}, P.underlying t = some d → isAggD d = false → ¬ isFl P t = true := fun hu hd h => by
    obtain ⟨d', hu', ha⟩ := agg_eq (isFl_agg h)
    rw [hu] at hu'; cases hu'; rw [hd] at ha; cases ha
  have noSl : ∀ {t e : TypeId} {d : TypeDesc}, P.underlying t = some d → sl P t = some e → d = .slice e := fun hu h => by
    have := sl_eq h
    rw [hu] at this; cases this; rfl
  induction hr with
  | int hu _ => exact ⟨fun h => absurd h (noAgg hu rfl), fun e he => absurd (noSl hu he) (by simp)⟩
  | bool hu => exact ⟨fun h => absurd h (noAgg hu rfl), fun e he => absurd (noSl hu he) (by simp)⟩
  | str hu _ => exact ⟨fun h => absurd h (noAgg hu rfl), fun e he => absurd (noSl hu he) (by simp)⟩
  | flt hu => exact ⟨fun h => absurd h (noAgg hu rfl), fun e he => absurd (noSl hu he) (by simp)⟩
  | snil hu => exact ⟨fun h => absurd h (noAgg hu rfl), fun e he ht => ⟨none, rfl⟩⟩
  | bytes hu he8 _ _ _ _ =>
    refine ⟨fun h => absurd h (noAgg hu rfl), fun e he ht => ?_⟩
    have := noSl hu he
    cases this
    exact absurd ht (noAgg he8 rfl)
  | list hu he8 hi hok hlen hcap hmax hsz hc hr ih =>
    rename_i t' e' cap ad i vs ds
    refine ⟨fun h => absurd h (noAgg hu rfl), fun e he ht => ?_⟩
    have := noSl hu he
    cases this
    obtain ⟨l, rfl⟩ := choose_map (f := Fl.d) (ds := ds) (fun x hx => by
      obtain ⟨j, hj, hjx⟩ := List.mem_iff_getElem.1 hx
      have hj2 : j < vs.length := by omega
      exact (ih j _ x (List.getElem?_eq_getElem hj2) (by rw [List.getElem?_eq_getElem hj, hjx])).1 ht)
    exact ⟨some l, by simp [encF, fds_map]⟩
  | row hu hd hlen hlen' h1 hr ih =>
    rename_i t' d' vs ds
    refine ⟨fun h => ?_, fun e he ht => ?_⟩
    rotate_left
    · have := noSl hu he
      subst this
      simp [isAggD] at hd
    have h0 := h
    unfold isFl at h
    simp only [Bool.and_eq_true] at h
    obtain ⟨ha, h⟩ := h
    split at h
    · rename_i a b c d'' e f g hh hty
      simp only [Bool.and_eq_true, decide_eq_true_eq] at h
      obtain ⟨⟨⟨⟨⟨⟨⟨q1, q2⟩, q3⟩, q4⟩, q5⟩, q6⟩, q7⟩, q8⟩ := h
      have cell : ∀ (j : Nat) (u : TypeId) (x : D), (tys P t')[j]? = some u → ds[j]? = some x → ∃ v', vs[j]? = some v' := fun j u x hj hx => by
        have hj2 : j < vs.length := by rw [hlen]; exact (List.getElem?_eq_some_iff.1 hj).1
        exact ⟨vs[j], List.getElem?_eq_getElem hj2⟩
      rw [hty] at hlen' hr ih cell
      match ds, hlen' with
      | [x1, x2, x3, x4, x5, x6, x7, x8], _ =>
        obtain ⟨v1, r1⟩ := cell 0 a x1 rfl rfl
        obtain ⟨v2, r2⟩ := cell 1 b x2 rfl rfl
        obtain ⟨v3, r3⟩ := cell 2 c x3 rfl rfl
        obtain ⟨v4, r4⟩ := cell 3 d'' x4 rfl rfl
        obtain ⟨v5, r5⟩ := cell 4 e x5 rfl rfl
        obtain ⟨v6, r6⟩ := cell 5 f x6 rfl rfl
        obtain ⟨v7, r7⟩ := cell 6 g x7 rfl rfl
        obtain ⟨v8, r8⟩ := cell 7 hh x8 rfl rfl
        obtain ⟨n1, rfl, _⟩ := rep_int q1 (hr 0 a v1 x1 rfl r1 rfl)
        obtain ⟨n2, rfl, _⟩ := rep_int q2 (hr 1 b v2 x2 rfl r2 rfl)
        obtain ⟨n3, rfl, _⟩ := rep_int q3 (hr 2 c v3 x3 rfl r3 rfl)
        obtain ⟨n4, rfl, _⟩ := rep_int q4 (hr 3 d'' v4 x4 rfl r4 rfl)
        obtain ⟨n5, rfl, _⟩ := rep_int q5 (hr 4 e v5 x5 rfl r5 rfl)
        obtain ⟨n6, rfl, _⟩ := rep_int q6 (hr 5 f v6 x6 rfl r6 rfl)
        obtain ⟨n7, rfl, _⟩ := rep_int q7 (hr 6 g v7 x7 rfl r7 rfl)
        obtain ⟨l, rfl⟩ := (ih 7 hh v8 x8 rfl r8 rfl).2 t' q8 h0
        exact ⟨.mk n1 n2 n3 n4 n5 n6 n7 l, by simp [Fl.d]⟩
    · cases h
  | pnil hu => exact ⟨fun h => absurd h (noAgg hu rfl), fun e he => absurd (noSl hu he) (by simp)⟩
  | ptr hu _ _ _ _ => exact ⟨fun h => absurd h (noAgg hu rfl), fun e he => absurd (noSl hu he) (by simp)⟩
  | mnil hu => exact ⟨fun h => absurd h (noAgg hu rfl), fun e he => absurd (noSl hu he) (by simp)⟩
  | map hu _ _ _ _ _ _ _ _ _ _ => exact ⟨fun h => absurd h (noAgg hu rfl), fun e he => absurd (noSl hu he) (by simp)⟩
theorem isK_ok {k : K} {t : TypeId} {v : Value} {d : D} (h : isK P k t = true) (hr : Rep P ok w t v d) : KOk k d := by
  cases k with
  | int k => exact rep_int h hr
  | bool => exact rep_bool h hr
  | str => exact rep_str h hr
  | pstr => exact rep_pstr h hr
  | byts => exact rep_byts h hr
  | tree => exact (rep_tree0 hr).1 h
  | trees =>
    simp only [isK, isTrees] at h
    split at h
    · rename_i e he; exact (rep_tree0 hr).2 e he h
    · cases h
  | tag => exact rep_tag h hr
  | tags => exact rep_tags h hr
  | fl => exact (rep_fl0 hr).1 h
  | fls =>
    simp only [isK, isFls] at h
    split at h
    · rename_i e he; exact (rep_fl0 hr).2 e he h
    · cases h
  | msg =>
    simp only [isK, isMsg, Bool.and_eq_true] at h
    obtain ⟨ha, h⟩ := h
    obtain ⟨ds, rfl, hlen, hcell⟩ := rep_row ha hr
    split at h
    · rename_i a b hty
      simp only [Bool.and_eq_true] at h
      rw [hty] at hlen hcell
      match ds, hlen with
      | [x, y], _ =>
        obtain ⟨v1, r1⟩ := hcell 0 a x rfl rfl
        obtain ⟨v2, r2⟩ := hcell 1 b y rfl rfl
        obtain ⟨n, rfl, _⟩ := rep_int h.2 r2
        have h1 := h.1
        unfold isFls at h1
        split at h1
        · rename_i e he
          obtain ⟨s, rfl⟩ := (rep_fl0 r1).2 e he h1
          exact ⟨s, n, rfl⟩
        · cases h1
    · cases h
end

/-! ## Arguments -/
def isA (P : Program) : K → AK → Bool
  | k, .val t => isK P k t
  | .byts, .own t => isBy P t
  | _, _ => false
def areA (P : Program) : List K → List AK → Bool
  | [], [] => true
  | k :: ks, a :: as => isA P k a && areA P ks as
  | _, _ => false
inductive KsOk : List K → List D → Prop where
  | nil : KsOk [] []
  | cons {k d ks ds} (h : KOk k d) (hs : KsOk ks ds) : KsOk (k :: ks) (d :: ds)
theorem own_byts {P : Program} {ok : Nat → Prop} {w : World} {t : TypeId} {v : Value} {d : D} (h : isBy P t = true) (hr : OwnAt P ok w t v d) : KOk .byts d := by
  obtain ⟨e, hu, he⟩ := isBy_eq h
  obtain ⟨e', i, n, xs, hu', hi, hown, hD⟩ := hr
  rw [hu] at hu'; cases hu'
  cases hD with
  | nil => exact ⟨none, rfl⟩
  | bytes => exact ⟨some _, rfl⟩
  | list _ he' => exact absurd he he'
theorem areA_ok {P : Program} {ok : Nat → Prop} {w : World} : ∀ {ks : List K} {as : List AK} {vs : List Value} {ds : List D}, areA P ks as = true → ArgsOk P ok w as vs ds → KsOk ks ds
  | [], [], _, _, _, h => by cases h; exact .nil
  | k :: ks, a :: as, _, _, h, .cons hr hs => by
    simp only [areA, Bool.and_eq_true] at h
    refine .cons ?_ (areA_ok h.2 hs)
    have h1 := h.1
    cases hr with
    | val hr => exact isK_ok h1 hr
    | own hr =>
      cases k <;> simp only [isA, Bool.false_eq_true] at h1
      exact own_byts h1 hr
    | mcell => cases k <;> simp [isA] at h1
    | wcell => cases k <;> simp [isA] at h1
  | [], _ :: _, _, _, h, _ => by simp [areA] at h
  | _ :: _, [], _, _, h, _ => by simp [areA] at h
end Go.Mx

namespace Go.Mx
open Go Go.Dx

/-! ## What is read of a value represents it -/
def fldOk (P : Program) (good : List TypeId) (i : Nat) (f : Field) : Bool := decide (f.offset = i) && decide (P.cellsOf f.type = 1) && good.elem f.type && !agg P f.type
def fldsOk (P : Program) (good : List TypeId) : Nat → List Field → Bool
  | _, [] => true
  | i, f :: r => fldOk P good i f && fldsOk P good (i + 1) r
/-- a type whose parts are of these types too, each in one cell -/
def okT (P : Program) (good : List TypeId) (t : TypeId) : Bool :=
  match P.underlying t with
  | some .bool => true
  | some (.int _) => true
  | some .string => true
  | some (.slice e) => (P.info? e).isSome && decide (0 < P.cellsOf e) && good.elem e && (!isI P .u8 e || decide (P.cellsOf e = 1))
  | some (.struct fs) => decide (P.cellsOf t = fs.size) && decide (tys P t = fs.toList.map (·.type)) && fldsOk P good 0 fs.toList
  | _ => false

section
variable {H : Type} {enc : TypeId × Value → H} {P : Program} {w : World} {sp : Nat → Bool} {held : Bool} {good : List TypeId}
theorem fldsOk_get : ∀ {l : List Field} {i j : Nat} {f : Field}, fldsOk P good i l = true → l[j]? = some f → fldOk P good (i + j) f = true
  | g :: r, i, 0, f, h, hj => by
    simp only [List.getElem?_cons_zero, Option.some.injEq] at hj; subst hj
    simp only [fldsOk, Bool.and_eq_true] at h; exact h.1
  | g :: r, i, j + 1, f, h, hj => by
    simp only [List.getElem?_cons_succ] at hj
    simp only [fldsOk, Bool.and_eq_true] at h
    have := fldsOk_get h.2 hj
    rwa [show i + 1 + j = i + (j + 1) by omega] at this
theorem cell_lt {a : Addr} {v : Value} (h : w.cell? a = some v) : a.spot = none ∧ a.block < w.heap.size := by
  unfold World.cell? at h
  split at h
  · rename_i c t fr hb
    split at h
    · cases h
    · rename_i hs
      exact ⟨by simpa using hs, (Array.getElem?_eq_some_iff.1 hb).1⟩
  · cases h
theorem size_of {e : TypeId} {i : TypeInfo} (h : P.info? e = some i) : P.cellsOf e = i.size := by simp [Program.cellsOf, h]
theorem elem_good {t : TypeId} (h : good.elem t = true) : t ∈ good := by simpa using h

/-- how much a datum holds -/
structure Bulk (bk : DataW H → Nat) : Prop where
  one : ∀ d, 1 ≤ bk d
  sl : ∀ es sp, (es.map bk).sum + 1 ≤ bk (.slice es sp)
  ag : ∀ ps, (ps.map bk).sum + 1 ≤ bk (.agg ps)
mutual
def wD : D → Nat
  | .bytes s => s.length + 1
  | .list l => wDs l + 1
  | .row l => wDs l + 1
  | _ => 1
def wDs : List D → Nat
  | [] => 0
  | d :: r => wD d + wDs r
end
theorem wDs_le : ∀ (l : List D) (m : List Nat), l.length = m.length → (∀ (j : Nat) d n, l[j]? = some d → m[j]? = some n → wD d ≤ n) → wDs l ≤ m.sum
  | [], _, _, _ => by simp [wDs]
  | d :: l, [], h, _ => by simp at h
  | d :: l, n :: m, h, hp => by
    simp only [wDs, List.sum_cons]
    have h1 := hp 0 d n rfl rfl
    have h2 := wDs_le l m (by simpa using h) (fun j d' n' hd hn => hp (j + 1) d' n' hd hn)
    omega
theorem sum_ge : ∀ (m : List Nat), (∀ n ∈ m, 1 ≤ n) → m.length ≤ m.sum
  | [], _ => by simp
  | n :: m, h => by
    have h1 := h n (by simp)
    have h2 := sum_ge m (fun k hk => h k (by simp [hk]))
    simp only [List.length_cons, List.sum_cons]; omega
theorem rep_trod {bk : DataW H → Nat} (hbk : Bulk bk) (hg : ∀ t ∈ good, okT P good t = true) (hsp : ∀ b, sp b = true) : ∀ (fuel : Nat) (t : TypeId) (cs : List Value) (x : DataW H × List MemPlace), t ∈ good → DataW.trod enc P w 0 sp held fuel t cs = some x →
    ∃ v d, v.cells.toList = cs ∧ Rep P (fun b => b < w.heap.size) w t v d ∧ (agg P t = false → cs = [v]) ∧ wD d ≤ bk x.1 := by
  intro fuel
  induction fuel using Nat.strongRecOn with
  | _ fuel ih =>
    intro t cs x ht h
    have hok := hg t ht
    unfold okT at hok
    split at hok
    · rename_i hu
      obtain ⟨b, rfl, _⟩ := DataW.trod_bool hu h
      exact ⟨.bool b, _, rfl, .bool hu, fun _ => rfl, hbk.one _⟩
    · rename_i k hu
      obtain ⟨n, rfl, _, hw⟩ := DataW.trod_int hu h
      exact ⟨.int k n, _, rfl, .int hu hw, fun _ => rfl, hbk.one _⟩
    · rename_i hu
      obtain ⟨s, rfl, _, hs⟩ := DataW.trod_string hu h
      exact ⟨.string s, _, rfl, .str hu hs, fun _ => rfl, hbk.one _⟩
    · rename_i e hu
      simp only [Bool.and_eq_true, decide_eq_true_eq] at hok
      obtain ⟨⟨⟨hinf, hpos⟩, hge⟩, hu8⟩ := hok
      obtain ⟨i, hi⟩ := Option.isSome_iff_exists.1 hinf
      have hsz := size_of hi
      rcases DataW.trod_slice hu h with ⟨rfl, _⟩ | ⟨a, len, cap, elems, rest, n, rfl, rfl, rfl, hb, hlc, hcm, hlen, hel, hrest, _⟩
      · exact ⟨.slice none 0 0, _, rfl, .snil hu, fun _ => rfl, hbk.one _⟩
      · refine ⟨.slice (some a) len cap, ?_⟩
        have hel' : ∀ j, j < len → ∃ cj yj, w.cells? 0 (a.add (j * P.cellsOf e)) (P.cellsOf e) = some cj ∧ DataW.trod enc P w 0 sp held n e cj = some yj ∧ elems[j]? = some yj := fun j hj => by
          have := hel j hj
          have hej : elems[j]? = some elems[j] := List.getElem?_eq_getElem (by omega)
          rw [hej] at this
          obtain ⟨cj, h1, h2⟩ := Option.bind_eq_some_iff.1 this
          exact ⟨cj, _, h1, h2, hej⟩
        have hspot : 0 < cap → a.spot = none ∧ a.block < w.heap.size := fun h0 => by
          have hread : ∃ cj, w.cells? 0 a (P.cellsOf e) = some cj := by
            by_cases hl0 : 0 < len
            · obtain ⟨cj, _, h1, _⟩ := hel' 0 hl0
              exact ⟨cj, by simpa [Addr.add] using h1⟩
            · have hl : len = 0 := by omega
              obtain ⟨hr1, hr2⟩ := hrest (hsp _)
              have := hr2 0 (by omega)
              rw [List.getElem?_eq_getElem (by omega)] at this
              obtain ⟨cj, h1, _⟩ := Option.bind_eq_some_iff.1 this
              exact ⟨cj, by simpa [Addr.add, hl] using h1⟩
          obtain ⟨cj, hcj⟩ := hread
          obtain ⟨_, hlj, hcell⟩ := World.cells?_some hcj
          have h1 := hcell 0 hpos
          rw [List.getElem?_eq_getElem (by omega)] at h1
          have h2 := cell_lt h1
          simpa [Addr.add] using h2
        have hch : ∀ j : Nat, ∃ q : Value × D, j < len → (∀ i, i < P.cellsOf e → w.cell? ((a.add (j * P.cellsOf e)).add i) = q.1.cells.toList[i]?) ∧ q.1.cells.size = P.cellsOf e ∧ Rep P (fun b => b < w.heap.size) w e q.1 q.2 ∧ (agg P e = false → q.1.cells = #[q.1]) ∧ ∀ y, elems[j]? = some y → wD q.2 ≤ bk y.1 := fun j => by
          by_cases hj : j < len
          · obtain ⟨cj, yj, h1, h2, h3⟩ := hel' j hj
            obtain ⟨_, hlj, hcell⟩ := World.cells?_some h1
            obtain ⟨v, d, k1, k2, k3, k4⟩ := ih n (by omega) e cj yj (elem_good hge) h2
            refine ⟨(v, d), fun _ => ⟨fun i hi => by rw [hcell i hi, ← k1], by rw [← Array.length_toList, k1, hlj], k2, fun ha => ?_, fun y hy => by rw [h3] at hy; cases hy; exact k4⟩⟩
            have := k3 ha
            rw [← k1] at this
            exact Array.toList_inj.1 (by rw [this])
          · exact ⟨(undef, .nil), fun h => absurd h hj⟩
        obtain ⟨q, hq⟩ := Classical.axiomOfChoice hch
        cases h8 : isI P .u8 e with
        | true =>
          have hue := isI_eq h8
          rw [h8] at hu8
          have hs1 : P.cellsOf e = 1 := by simpa using hu8
          have hag : agg P e = false := by simp [agg, hue, isAggD]
          have hb8 : ∀ j, j < len → ∃ x : UInt8, (q j).1 = .int .u8 x.toNat := fun j hj => by
            obtain ⟨_, _, hr, _⟩ := hq j hj
            generalize (q j).1 = v at hr
            generalize (q j).2 = d at hr
            obtain ⟨m, rfl, hw⟩ := rep_int h8 hr
            cases hr with
            | int hu' hw' =>
              rw [hue] at hu'; cases hu'
              have hb : 0 ≤ m ∧ m < 256 := by
                simp [Lit.wf, IntKind.min, IntKind.max, IntKind.signed, IntKind.bits] at hw; omega
              refine ⟨UInt8.ofNat m.toNat, ?_⟩
              have : (UInt8.ofNat m.toNat).toNat = m.toNat := by simp [UInt8.toNat_ofNat']; omega
              rw [this]; congr 1; omega
          obtain ⟨y, hy⟩ := Classical.axiomOfChoice (r := fun (j : Nat) (x : UInt8) => j < len → (q j).1 = .int .u8 x.toNat) (fun j => by
            by_cases hj : j < len
            · obtain ⟨x, hx⟩ := hb8 j hj; exact ⟨x, fun _ => hx⟩
            · exact ⟨0, fun h => absurd h hj⟩)
          have hl : ((List.range len).map y).length = len := by simp
          have := Rep.bytes (ok := fun b => b < w.heap.size) (w := w) (s := (List.range len).map y) (ad := a) (cap := cap) hu hue hspot (by rw [hl]; exact hlc) hcm (fun j v hj => by
            rw [List.getElem?_map, List.getElem?_map] at hj
            have hjl : j < len := by
              by_cases hh : j < len
              · exact hh
              · rw [List.getElem?_eq_none (by simp; omega)] at hj; cases hj
            rw [List.getElem?_range hjl] at hj
            simp only [Option.map_some, Option.some.injEq] at hj
            subst hj
            obtain ⟨h1, h2, _, h3, _⟩ := hq j hjl
            have h4 := h1 0 (by omega)
            rw [h3 hag, hs1, Nat.mul_one] at h4
            have hcap : 0 < cap := by omega
            rw [at_add (hspot hcap).1, addr_add, Nat.add_zero] at h4
            rw [h4, hy j hjl]; rfl)
          rw [hl] at this
          refine ⟨_, rfl, this, fun _ => rfl, ?_⟩
          show ((List.range len).map y).length + 1 ≤ _
          refine Nat.le_trans ?_ (hbk.sl _ _)
          rw [hl]
          have := sum_ge ((elems.map (·.1)).map bk) (fun n hn => by obtain ⟨d, _, rfl⟩ := List.mem_map.1 hn; exact hbk.one d)
          simp only [List.length_map] at this
          omega
        | false =>
          have hne : P.underlying e ≠ some (.int .u8) := fun hh => by simp [isI, hh] at h8
          have hl : ((List.range len).map fun j => (q j).2).length = len := by simp
          have hget : ∀ {A : Type} (f : Nat → A) (j : Nat) (v : A), ((List.range len).map f)[j]? = some v → j < len ∧ v = f j := fun f j v hj => by
            rw [List.getElem?_map] at hj
            have hjl : j < len := by
              by_cases hh : j < len
              · exact hh
              · rw [List.getElem?_eq_none (by simp; omega)] at hj; cases hj
            rw [List.getElem?_range hjl] at hj
            simp only [Option.map_some, Option.some.injEq] at hj
            exact ⟨hjl, hj.symm⟩
          have := Rep.list (ok := fun b => b < w.heap.size) (w := w) (vs := (List.range len).map fun j => (q j).1) (ds := (List.range len).map fun j => (q j).2) (ad := a) (cap := cap) hu hne hi hspot (by simp) (by rw [hl]; exact hlc) hcm
            (fun v hv => by
              obtain ⟨j, hj, rfl⟩ := List.mem_map.1 hv
              rw [(hq j (List.mem_range.1 hj)).2.1, hsz])
            (fun j v hj i u hi' => by
              obtain ⟨hjl, rfl⟩ := hget _ j v hj
              obtain ⟨h1, h2, _, _, _⟩ := hq j hjl
              have hil : i < P.cellsOf e := by
                rw [← h2]
                have := (List.getElem?_eq_some_iff.1 hi').1
                simpa using this
              have h4 := h1 i hil
              have hcap : 0 < cap := by omega
              rw [at_add (hspot hcap).1, addr_add, hsz] at h4
              rw [h4]; exact hi')
            (fun j v d h1 h2 => by
              obtain ⟨hjl, rfl⟩ := hget _ j v h1
              obtain ⟨_, rfl⟩ := hget _ j d h2
              exact (hq j hjl).2.2.1)
          rw [hl] at this
          refine ⟨_, rfl, this, fun _ => rfl, ?_⟩
          show wDs _ + 1 ≤ _
          refine Nat.le_trans (Nat.succ_le_succ (wDs_le _ ((elems.map (·.1)).map bk) (by simp; omega) (fun j d n h1 h2 => ?_))) (hbk.sl _ _)
          obtain ⟨hjl, rfl⟩ := hget _ j d h1
          rw [List.map_map, List.getElem?_map] at h2
          obtain ⟨y, hy, rfl⟩ := Option.map_eq_some_iff.1 h2
          exact (hq j hjl).2.2.2.2 y hy
    · rename_i fs hu
      simp only [Bool.and_eq_true, decide_eq_true_eq] at hok
      obtain ⟨⟨hcs, hty⟩, hfl⟩ := hok
      obtain ⟨xs, n, rfl, rfl, hlen, hxl, hel⟩ := DataW.trod_struct hu h
      have hag : agg P t = true := by simp [agg, hu, isAggD]
      have hl1 : cs.length = fs.size := by rw [hlen, hcs]
      have hch : ∀ j : Nat, ∃ d : D, ∀ (f : Field) (v : Value), fs[j]? = some f → cs[j]? = some v → Rep P (fun b => b < w.heap.size) w f.type v d ∧ v.cells = #[v] ∧ ∀ y, xs[j]? = some y → wD d ≤ bk y.1 := fun j => by
        by_cases hj : j < fs.size
        · have hfj : fs[j]? = some fs[j] := Array.getElem?_eq_getElem hj
          have hfo := fldsOk_get (i := 0) hfl (by rw [Array.getElem?_toList]; exact hfj)
          unfold fldOk at hfo
          simp only [Bool.and_eq_true, decide_eq_true_eq, Nat.zero_add, Bool.not_eq_true'] at hfo
          obtain ⟨⟨⟨o1, o2⟩, o3⟩, o4⟩ := hfo
          have h1 := hel j _ hfj
          rw [o1, o2, List.getElem?_eq_getElem (by omega)] at h1
          obtain ⟨v, d, k1, k2, k3, k5⟩ := ih n (by omega) _ _ _ (elem_good o3) h1
          have k4 := k3 o4
          refine ⟨d, fun f u hf hu' => ?_⟩
          rw [hfj] at hf; cases hf
          have : (cs.drop j).take 1 = [u] := by
            rw [List.drop_eq_getElem_cons (by omega)]
            have := (List.getElem?_eq_some_iff.1 hu').2
            simp [this]
          rw [this] at k4 k1
          cases k4
          exact ⟨k2, Array.toList_inj.1 (by rw [k1]), fun y hy => by rw [List.getElem?_eq_getElem (by omega)] at hy; cases hy; exact k5⟩
        · exact ⟨.nil, fun f v hf => by rw [Array.getElem?_eq_none (by omega)] at hf; cases hf⟩
      obtain ⟨q, hq⟩ := Classical.axiomOfChoice hch
      have htl : (tys P t).length = fs.size := by rw [hty]; simp
      refine ⟨.agg cs.toArray, .row ((List.range fs.size).map q), rfl, ?_, (fun h => by rw [hag] at h; cases h), ?_⟩
      rotate_left
      · show wDs _ + 1 ≤ _
        refine Nat.le_trans (Nat.succ_le_succ (wDs_le _ ((xs.map (·.1)).map bk) (by simp; omega) (fun j d n h1 h2 => ?_))) (hbk.ag _)
        rw [List.getElem?_map] at h1
        have hjf : j < fs.size := by
          by_cases hh : j < fs.size
          · exact hh
          · rw [List.getElem?_eq_none (by simp; omega)] at h1; cases h1
        rw [List.getElem?_range hjf] at h1
        simp only [Option.map_some, Option.some.injEq] at h1
        subst h1
        rw [List.map_map, List.getElem?_map] at h2
        obtain ⟨y, hy, rfl⟩ := Option.map_eq_some_iff.1 h2
        exact (hq j fs[j] _ (Array.getElem?_eq_getElem hjf) (List.getElem?_eq_getElem (by omega))).2.2 y hy
      refine .row hu rfl (by rw [htl, hl1]) (by simp [htl]) (fun v hv => ?_) (fun j u v d hj hv hd => ?_)
      · obtain ⟨j, hj, rfl⟩ := List.mem_iff_getElem.1 hv
        have hjf : j < fs.size := by omega
        exact (hq j fs[j] _ (Array.getElem?_eq_getElem hjf) (List.getElem?_eq_getElem hj)).2.1
      · rw [hty, List.getElem?_map, Array.getElem?_toList] at hj
        obtain ⟨f, hf, rfl⟩ := Option.map_eq_some_iff.1 hj
        rw [List.getElem?_map] at hd
        have hjf := (Array.getElem?_eq_some_iff.1 hf).1
        rw [List.getElem?_range hjf] at hd
        simp only [Option.map_some, Option.some.injEq] at hd
        subst hd
        exact (hq j f v hf hv).1
    · cases hok
end
end Go.Mx

namespace Go.Mx
open Go Go.Dx

/-! ## What each function gives back, what it asks; its arguments' kinds -/
def deK : Nat → DE
  | 1 => de1
  | 2 => de2
  | 3 => de3
  | 4 => de4
  | 5 => de5
  | 6 => de6
  | 7 => de7
  | 10 => de10
  | 11 => de11
  | 12 => de12
  | 13 => de13
  | 14 => de14
  | 15 => de15
  | 17 => de17
  | 19 => de19
  | 20 => de20
  | 21 => de21
  | 22 => de22
  | 26 => de26
  | 27 => de27
  | 29 => de29
  | 30 => de30
  | 31 => de31
  | 40 => de40
  | 41 => de41
  | 42 => de42
  | 43 => de43
  | 44 => de44
  | 45 => de45
  | 46 => de46
  | 47 => de47
  | 48 => de48
  | 49 => de49
  | 50 => de50
  | 51 => de51
  | 52 => de52
  | 53 => de53
  | 54 => de54
  | 55 => de55
  | 56 => de56
  | 57 => de57
  | 58 => de58
  | 59 => de59
  | 60 => de60
  | _ => .k .nil
def obK : Nat → List Ob
  | 1 => ob1
  | 2 => ob2
  | 3 => ob3
  | 4 => ob4
  | 5 => ob5
  | 6 => ob6
  | 7 => ob7
  | 10 => ob10
  | 11 => ob11
  | 12 => ob12
  | 13 => ob13
  | 14 => ob14
  | 15 => ob15
  | 17 => ob17
  | 19 => ob19
  | 20 => ob20
  | 21 => ob21
  | 22 => ob22
  | 26 => ob26
  | 27 => ob27
  | 29 => ob29
  | 30 => ob30
  | 31 => ob31
  | 40 => ob40
  | 41 => ob41
  | 42 => ob42
  | 43 => ob43
  | 44 => ob44
  | 45 => ob45
  | 46 => ob46
  | 47 => ob47
  | 48 => ob48
  | 49 => ob49
  | 50 => ob50
  | 51 => ob51
  | 52 => ob52
  | 53 => ob53
  | 54 => ob54
  | 55 => ob55
  | 56 => ob56
  | 57 => ob57
  | 58 => ob58
  | 59 => ob59
  | 60 => ob60
  | _ => []
def sig : Nat → List K
  | 1 => [.tree, .int .i64]
  | 2 => [.byts, .bool]
  | 3 => [.byts, .int .i8]
  | 4 => [.byts, .int .i16]
  | 5 => [.byts, .int .u16]
  | 6 => [.byts, .int .i32]
  | 7 => [.byts, .int .i64]
  | 10 => [.byts, .int .u32]
  | 11 => [.byts, .str]
  | 12 => [.byts, .str]
  | 13 => [.byts, .pstr]
  | 14 => [.byts, .pstr]
  | 15 => [.byts, .byts]
  | 17 => [.byts, .byts]
  | 19 => [.byts, .int .i64]
  | 20 => [.byts, .int .i64]
  | 21 => [.byts, .int .i64, .bool]
  | 22 => [.byts, .int .i64, .bool]
  | 26 => [.tree]
  | 27 => [.tree]
  | 29 => [.byts, .int .u64]
  | 30 => [.byts, .int .u32]
  | 31 => [.int .u32]
  | 40 => [.tree, .int .i64]
  | 41 => [.fls, .tags]
  | 42 => [.fl, .int .i64, .tree]
  | 43 => [.fls, .int .i64, .tree]
  | 44 => [.tree]
  | 45 => [.int .i64, .int .i64]
  | 46 => [.int .u64]
  | 47 => [.fls, .int .i64, .bool, .tree]
  | 48 => [.int .i64, .fls, .bool, .int .i64, .bool, .tree]
  | 49 => [.fl, .int .i64, .bool, .tree]
  | 50 => [.fl, .tree]
  | 51 => [.fls]
  | 52 => [.byts, .byts]
  | 53 => [.bool, .bool, .int .i64, .int .i64]
  | 54 => [.tree]
  | 55 => [.int .i64]
  | 56 => [.fl, .int .i64, .tree]
  | 57 => [.fl, .int .i64]
  | 58 => [.int .u8, .int .i64]
  | 59 => [.msg, .int .i64, .tree]
  | 60 => [.msg, .int .i64, .tree]
  | _ => []
def rank : Nat → Nat
  | 4 => 1
  | 6 => 1
  | 7 => 1
  | 10 => 1
  | 11 => 2
  | 12 => 2
  | 13 => 3
  | 14 => 3
  | 15 => 2
  | 17 => 3
  | 19 => 2
  | 20 => 2
  | 21 => 2
  | 22 => 2
  | 41 => 1
  | 42 => 5
  | 43 => 5
  | 44 => 5
  | 47 => 5
  | 48 => 5
  | 49 => 5
  | 50 => 5
  | 53 => 1
  | 59 => 6
  | 60 => 7
  | _ => 0
def known? : Nat → Bool
  | 1 => true
  | 2 => true
  | 3 => true
  | 4 => true
  | 5 => true
  | 6 => true
  | 7 => true
  | 10 => true
  | 11 => true
  | 12 => true
  | 13 => true
  | 14 => true
  | 15 => true
  | 17 => true
  | 19 => true
  | 20 => true
  | 21 => true
  | 22 => true
  | 26 => true
  | 27 => true
  | 29 => true
  | 30 => true
  | 31 => true
  | 40 => true
  | 41 => true
  | 42 => true
  | 43 => true
  | 44 => true
  | 45 => true
  | 46 => true
  | 47 => true
  | 48 => true
  | 49 => true
  | 50 => true
  | 51 => true
  | 52 => true
  | 53 => true
  | 54 => true
  | 55 => true
  | 56 => true
  | 57 => true
  | 58 => true
  | 59 => true
  | 60 => true
  | _ => false

theorem wf_u8 {n : Int} (h : (Lit.int .u8 n).wf = true) : 0 ≤ n ∧ n < 256 := by
  simp [Lit.wf, IntKind.min, IntKind.max, IntKind.signed, IntKind.bits] at h; omega
theorem wf_u32 {n : Int} (h : (Lit.int .u32 n).wf = true) : 0 ≤ n ∧ n < 4294967296 := by
  simp [Lit.wf, IntKind.min, IntKind.max, IntKind.signed, IntKind.bits] at h; omega
theorem wf_u64 {n : Int} (h : (Lit.int .u64 n).wf = true) : 0 ≤ n ∧ n < 18446744073709551616 := by
  simp [Lit.wf, IntKind.min, IntKind.max, IntKind.signed, IntKind.bits] at h; omega

mutual
theorem Ob.mono {Y : Nat → List D → D} {P Q : Nat → List D → Prop} (h : ∀ k ds, P k ds → Q k ds) : ∀ (o : Ob) (δ : List D), o.holds Y P δ → o.holds Y Q δ
  | .room _ _, _, ho => ho
  | .cap _ _, _, ho => ho
  | .nz _, _, ho => ho
  | .ge0 _, _, ho => ho
  | .term _ _ _ _, _, ho => ho
  | .idx _ _ _, _, ho => ho
  | .pre _ _, _, ho => h _ _ ho
  | .all _ _ _ os, _, ho => fun k hk => Obs.mono h os _ (ho k hk)
  | .when _ _ os, _, ho => fun hc => Obs.mono h os _ (ho hc)
theorem Obs.mono {Y : Nat → List D → D} {P Q : Nat → List D → Prop} (h : ∀ k ds, P k ds → Q k ds) : ∀ (os : List Ob) (δ : List D), obsHold Y P os δ → obsHold Y Q os δ
  | [], _, _ => trivial
  | o :: os, _, ho => ⟨Ob.mono h o _ ho.1, Obs.mono h os _ ho.2⟩
end
theorem pre_side {n k : Nat} {ds : List D} (h : Pre n k ds) : side k ds := h.2
theorem ctr_mono {P : Program} {Y : Nat → List D → D} {A B : Nat → List D → Prop} {f : FuncId} {c : Ctr} (h : ∀ ds, B c.fn ds → A c.fn ds) (hc : CtrOk P Y A f c) : CtrOk P Y B f c :=
  ⟨hc.1, fun ok w vs ds h1 h2 h3 h4 => hc.2 ok w vs ds h1 h2 h3 (fun hp => h ds (h4 hp))⟩

theorem evA1 : ∀ (ds : List D), KsOk (sig 1) ds → side 1 ds → obsHold X side (obK 1) ds ∧ (deK 1).eval X ds = X 1 ds := fun ds hk h => by
  obtain @⟨⟩ | @⟨_, d1, _, _, k1, hk⟩ := hk
  obtain @⟨⟩ | @⟨_, d2, _, _, k2, hk⟩ := hk
  cases hk
  obtain ⟨x1, rfl⟩ := k1
  obtain ⟨x2, rfl, w2⟩ := k2
  have e := ev1 x1 x2 h 0
  exact ⟨Obs.mono (fun _ _ h => pre_side h) _ _ e.1, e.2⟩

theorem evA2 : ∀ (ds : List D), KsOk (sig 2) ds → side 2 ds → obsHold X side (obK 2) ds ∧ (deK 2).eval X ds = X 2 ds := fun ds hk h => by
  obtain @⟨⟩ | @⟨_, d1, _, _, k1, hk⟩ := hk
  obtain @⟨⟩ | @⟨_, d2, _, _, k2, hk⟩ := hk
  cases hk
  obtain ⟨x1, rfl⟩ := k1
  obtain ⟨x2, rfl⟩ := k2
  have e := ev2 x1 x2 0 h
  exact ⟨Obs.mono (fun _ _ h => pre_side h) _ _ e.1, e.2⟩

theorem evA3 : ∀ (ds : List D), KsOk (sig 3) ds → side 3 ds → obsHold X side (obK 3) ds ∧ (deK 3).eval X ds = X 3 ds := fun ds hk h => by
  obtain @⟨⟩ | @⟨_, d1, _, _, k1, hk⟩ := hk
  obtain @⟨⟩ | @⟨_, d2, _, _, k2, hk⟩ := hk
  cases hk
  obtain ⟨x1, rfl⟩ := k1
  obtain ⟨x2, rfl, w2⟩ := k2
  have e := ev3 x1 x2 0 h
  exact ⟨Obs.mono (fun _ _ h => pre_side h) _ _ e.1, e.2⟩

theorem evA4 : ∀ (ds : List D), KsOk (sig 4) ds → side 4 ds → obsHold X side (obK 4) ds ∧ (deK 4).eval X ds = X 4 ds := fun ds hk h => by
  obtain @⟨⟩ | @⟨_, d1, _, _, k1, hk⟩ := hk
  obtain @⟨⟩ | @⟨_, d2, _, _, k2, hk⟩ := hk
  cases hk
  obtain ⟨x1, rfl⟩ := k1
  obtain ⟨x2, rfl, w2⟩ := k2
  have e := ev4 x1 x2 0 h
  exact ⟨Obs.mono (fun _ _ h => pre_side h) _ _ e.1, e.2⟩

theorem evA5 : ∀ (ds : List D), KsOk (sig 5) ds → side 5 ds → obsHold X side (obK 5) ds ∧ (deK 5).eval X ds = X 5 ds := fun ds hk h => by
  obtain @⟨⟩ | @⟨_, d1, _, _, k1, hk⟩ := hk
  obtain @⟨⟩ | @⟨_, d2, _, _, k2, hk⟩ := hk
  cases hk
  obtain ⟨x1, rfl⟩ := k1
  obtain ⟨x2, rfl, w2⟩ := k2
  have e := ev5 x1 x2 0 h
  exact ⟨Obs.mono (fun _ _ h => pre_side h) _ _ e.1, e.2⟩

theorem evA6 : ∀ (ds : List D), KsOk (sig 6) ds → side 6 ds → obsHold X side (obK 6) ds ∧ (deK 6).eval X ds = X 6 ds := fun ds hk h => by
  obtain @⟨⟩ | @⟨_, d1, _, _, k1, hk⟩ := hk
  obtain @⟨⟩ | @⟨_, d2, _, _, k2, hk⟩ := hk
  cases hk
  obtain ⟨x1, rfl⟩ := k1
  obtain ⟨x2, rfl, w2⟩ := k2
  have e := ev6 x1 x2 0 h
  exact ⟨Obs.mono (fun _ _ h => pre_side h) _ _ e.1, e.2⟩

theorem evA7 : ∀ (ds : List D), KsOk (sig 7) ds → side 7 ds → obsHold X side (obK 7) ds ∧ (deK 7).eval X ds = X 7 ds := fun ds hk h => by
  obtain @⟨⟩ | @⟨_, d1, _, _, k1, hk⟩ := hk
  obtain @⟨⟩ | @⟨_, d2, _, _, k2, hk⟩ := hk
  cases hk
  obtain ⟨x1, rfl⟩ := k1
  obtain ⟨x2, rfl, w2⟩ := k2
  have e := ev7 x1 x2 0 h
  exact ⟨Obs.mono (fun _ _ h => pre_side h) _ _ e.1, e.2⟩

theorem evA10 : ∀ (ds : List D), KsOk (sig 10) ds → side 10 ds → obsHold X side (obK 10) ds ∧ (deK 10).eval X ds = X 10 ds := fun ds hk h => by
  obtain @⟨⟩ | @⟨_, d1, _, _, k1, hk⟩ := hk
  obtain @⟨⟩ | @⟨_, d2, _, _, k2, hk⟩ := hk
  cases hk
  obtain ⟨x1, rfl⟩ := k1
  obtain ⟨x2, rfl, w2⟩ := k2
  have e := ev10 x1 x2 0 (wf_u32 w2).1 (wf_u32 w2).2 h
  exact ⟨Obs.mono (fun _ _ h => pre_side h) _ _ e.1, e.2⟩

theorem evA11 : ∀ (ds : List D), KsOk (sig 11) ds → side 11 ds → obsHold X side (obK 11) ds ∧ (deK 11).eval X ds = X 11 ds := fun ds hk h => by
  obtain @⟨⟩ | @⟨_, d1, _, _, k1, hk⟩ := hk
  obtain @⟨⟩ | @⟨_, d2, _, _, k2, hk⟩ := hk
  cases hk
  obtain ⟨x1, rfl⟩ := k1
  obtain ⟨x2, rfl⟩ := k2
  have e := ev11 x1 x2 0 h
  exact ⟨Obs.mono (fun _ _ h => pre_side h) _ _ e.1, e.2⟩

theorem evA12 : ∀ (ds : List D), KsOk (sig 12) ds → side 12 ds → obsHold X side (obK 12) ds ∧ (deK 12).eval X ds = X 12 ds := fun ds hk h => by
  obtain @⟨⟩ | @⟨_, d1, _, _, k1, hk⟩ := hk
  obtain @⟨⟩ | @⟨_, d2, _, _, k2, hk⟩ := hk
  cases hk
  obtain ⟨x1, rfl⟩ := k1
  obtain ⟨x2, rfl⟩ := k2
  have e := ev12 x1 x2 0 h
  exact ⟨Obs.mono (fun _ _ h => pre_side h) _ _ e.1, e.2⟩

theorem evA13 : ∀ (ds : List D), KsOk (sig 13) ds → side 13 ds → obsHold X side (obK 13) ds ∧ (deK 13).eval X ds = X 13 ds := fun ds hk h => by
  obtain @⟨⟩ | @⟨_, d1, _, _, k1, hk⟩ := hk
  obtain @⟨⟩ | @⟨_, d2, _, _, k2, hk⟩ := hk
  cases hk
  obtain ⟨x1, rfl⟩ := k1
  obtain ⟨x2, rfl⟩ := k2
  have e := ev13 x1 x2 0 h
  exact ⟨Obs.mono (fun _ _ h => pre_side h) _ _ e.1, e.2⟩

theorem evA14 : ∀ (ds : List D), KsOk (sig 14) ds → side 14 ds → obsHold X side (obK 14) ds ∧ (deK 14).eval X ds = X 14 ds := fun ds hk h => by
  obtain @⟨⟩ | @⟨_, d1, _, _, k1, hk⟩ := hk
  obtain @⟨⟩ | @⟨_, d2, _, _, k2, hk⟩ := hk
  cases hk
  obtain ⟨x1, rfl⟩ := k1
  obtain ⟨x2, rfl⟩ := k2
  have e := ev14 x1 x2 0 h
  exact ⟨Obs.mono (fun _ _ h => pre_side h) _ _ e.1, e.2⟩

theorem evA15 : ∀ (ds : List D), KsOk (sig 15) ds → side 15 ds → obsHold X side (obK 15) ds ∧ (deK 15).eval X ds = X 15 ds := fun ds hk h => by
  obtain @⟨⟩ | @⟨_, d1, _, _, k1, hk⟩ := hk
  obtain @⟨⟩ | @⟨_, d2, _, _, k2, hk⟩ := hk
  cases hk
  obtain ⟨x1, rfl⟩ := k1
  obtain ⟨x2, rfl⟩ := k2
  have e := ev15 x1 x2 0 h
  exact ⟨Obs.mono (fun _ _ h => pre_side h) _ _ e.1, e.2⟩

theorem evA17 : ∀ (ds : List D), KsOk (sig 17) ds → side 17 ds → obsHold X side (obK 17) ds ∧ (deK 17).eval X ds = X 17 ds := fun ds hk h => by
  obtain @⟨⟩ | @⟨_, d1, _, _, k1, hk⟩ := hk
  obtain @⟨⟩ | @⟨_, d2, _, _, k2, hk⟩ := hk
  cases hk
  obtain ⟨x1, rfl⟩ := k1
  obtain ⟨x2, rfl⟩ := k2
  have e := ev17 x1 x2 0 h
  exact ⟨Obs.mono (fun _ _ h => pre_side h) _ _ e.1, e.2⟩

theorem evA19 : ∀ (ds : List D), KsOk (sig 19) ds → side 19 ds → obsHold X side (obK 19) ds ∧ (deK 19).eval X ds = X 19 ds := fun ds hk h => by
  obtain @⟨⟩ | @⟨_, d1, _, _, k1, hk⟩ := hk
  obtain @⟨⟩ | @⟨_, d2, _, _, k2, hk⟩ := hk
  cases hk
  obtain ⟨x1, rfl⟩ := k1
  obtain ⟨x2, rfl, w2⟩ := k2
  have e := ev19 x1 x2 0 h
  exact ⟨Obs.mono (fun _ _ h => pre_side h) _ _ e.1, e.2⟩

theorem evA20 : ∀ (ds : List D), KsOk (sig 20) ds → side 20 ds → obsHold X side (obK 20) ds ∧ (deK 20).eval X ds = X 20 ds := fun ds hk h => by
  obtain @⟨⟩ | @⟨_, d1, _, _, k1, hk⟩ := hk
  obtain @⟨⟩ | @⟨_, d2, _, _, k2, hk⟩ := hk
  cases hk
  obtain ⟨x1, rfl⟩ := k1
  obtain ⟨x2, rfl, w2⟩ := k2
  have e := ev20 x1 x2 0 h
  exact ⟨Obs.mono (fun _ _ h => pre_side h) _ _ e.1, e.2⟩

theorem evA21 : ∀ (ds : List D), KsOk (sig 21) ds → side 21 ds → obsHold X side (obK 21) ds ∧ (deK 21).eval X ds = X 21 ds := fun ds hk h => by
  obtain @⟨⟩ | @⟨_, d1, _, _, k1, hk⟩ := hk
  obtain @⟨⟩ | @⟨_, d2, _, _, k2, hk⟩ := hk
  obtain @⟨⟩ | @⟨_, d3, _, _, k3, hk⟩ := hk
  cases hk
  obtain ⟨x1, rfl⟩ := k1
  obtain ⟨x2, rfl, w2⟩ := k2
  obtain ⟨x3, rfl⟩ := k3
  have e := ev21 x1 x2 x3 0 h
  exact ⟨Obs.mono (fun _ _ h => pre_side h) _ _ e.1, e.2⟩

theorem evA22 : ∀ (ds : List D), KsOk (sig 22) ds → side 22 ds → obsHold X side (obK 22) ds ∧ (deK 22).eval X ds = X 22 ds := fun ds hk h => by
  obtain @⟨⟩ | @⟨_, d1, _, _, k1, hk⟩ := hk
  obtain @⟨⟩ | @⟨_, d2, _, _, k2, hk⟩ := hk
  obtain @⟨⟩ | @⟨_, d3, _, _, k3, hk⟩ := hk
  cases hk
  obtain ⟨x1, rfl⟩ := k1
  obtain ⟨x2, rfl, w2⟩ := k2
  obtain ⟨x3, rfl⟩ := k3
  have e := ev22 x1 x2 x3 0 h
  exact ⟨Obs.mono (fun _ _ h => pre_side h) _ _ e.1, e.2⟩

theorem evA26 : ∀ (ds : List D), KsOk (sig 26) ds → side 26 ds → obsHold X side (obK 26) ds ∧ (deK 26).eval X ds = X 26 ds := fun ds hk h => by
  obtain @⟨⟩ | @⟨_, d1, _, _, k1, hk⟩ := hk
  cases hk
  obtain ⟨x1, rfl⟩ := k1
  have e := ev26 x1 0
  exact ⟨Obs.mono (fun _ _ h => pre_side h) _ _ e.1, e.2⟩

theorem evA27 : ∀ (ds : List D), KsOk (sig 27) ds → side 27 ds → obsHold X side (obK 27) ds ∧ (deK 27).eval X ds = X 27 ds := fun ds hk h => by
  obtain @⟨⟩ | @⟨_, d1, _, _, k1, hk⟩ := hk
  cases hk
  obtain ⟨x1, rfl⟩ := k1
  have e := ev27 x1 0 h
  exact ⟨Obs.mono (fun _ _ h => pre_side h) _ _ e.1, e.2⟩

theorem evA29 : ∀ (ds : List D), KsOk (sig 29) ds → side 29 ds → obsHold X side (obK 29) ds ∧ (deK 29).eval X ds = X 29 ds := fun ds hk h => by
  obtain @⟨⟩ | @⟨_, d1, _, _, k1, hk⟩ := hk
  obtain @⟨⟩ | @⟨_, d2, _, _, k2, hk⟩ := hk
  cases hk
  obtain ⟨x1, rfl⟩ := k1
  obtain ⟨x2, rfl, w2⟩ := k2
  have e := ev29 x1 x2 0 h
  exact ⟨Obs.mono (fun _ _ h => pre_side h) _ _ e.1, e.2⟩

theorem evA30 : ∀ (ds : List D), KsOk (sig 30) ds → side 30 ds → obsHold X side (obK 30) ds ∧ (deK 30).eval X ds = X 30 ds := fun ds hk h => by
  obtain @⟨⟩ | @⟨_, d1, _, _, k1, hk⟩ := hk
  obtain @⟨⟩ | @⟨_, d2, _, _, k2, hk⟩ := hk
  cases hk
  obtain ⟨x1, rfl⟩ := k1
  obtain ⟨x2, rfl, w2⟩ := k2
  have e := ev30 x1 x2 0 h
  exact ⟨Obs.mono (fun _ _ h => pre_side h) _ _ e.1, e.2⟩

theorem evA31 : ∀ (ds : List D), KsOk (sig 31) ds → side 31 ds → obsHold X side (obK 31) ds ∧ (deK 31).eval X ds = X 31 ds := fun ds hk h => by
  obtain @⟨⟩ | @⟨_, d1, _, _, k1, hk⟩ := hk
  cases hk
  obtain ⟨x1, rfl, w1⟩ := k1
  have e := ev31 x1 0 (wf_u32 w1).1 (wf_u32 w1).2
  exact ⟨Obs.mono (fun _ _ h => pre_side h) _ _ e.1, e.2⟩

theorem evA40 : ∀ (ds : List D), KsOk (sig 40) ds → side 40 ds → obsHold X side (obK 40) ds ∧ (deK 40).eval X ds = X 40 ds := fun ds hk h => by
  obtain @⟨⟩ | @⟨_, d1, _, _, k1, hk⟩ := hk
  obtain @⟨⟩ | @⟨_, d2, _, _, k2, hk⟩ := hk
  cases hk
  obtain ⟨x1, rfl⟩ := k1
  obtain ⟨x2, rfl, w2⟩ := k2
  have e := ev40 x1 x2 h 0
  exact ⟨Obs.mono (fun _ _ h => pre_side h) _ _ e.1, e.2⟩

theorem evA41 : ∀ (ds : List D), KsOk (sig 41) ds → side 41 ds → obsHold X side (obK 41) ds ∧ (deK 41).eval X ds = X 41 ds := fun ds hk h => by
  obtain @⟨⟩ | @⟨_, d1, _, _, k1, hk⟩ := hk
  obtain @⟨⟩ | @⟨_, d2, _, _, k2, hk⟩ := hk
  cases hk
  obtain ⟨x1, rfl⟩ := k1
  obtain ⟨x2, rfl⟩ := k2
  have e := ev41 x1 x2 0 (by rw [side_41, decF_enc] at h; exact h)
  exact ⟨Obs.mono (fun _ _ h => pre_side h) _ _ e.1, e.2⟩

theorem evR42 (n : Nat) : ∀ (ds : List D), KsOk (sig 42) ds → Pre (n + 1) 42 ds → obsHold X (Pre n) (obK 42) ds ∧ (deK 42).eval X ds = X 42 ds := fun ds hk h => by
  obtain @⟨⟩ | @⟨_, d1, _, _, k1, hk⟩ := hk
  obtain @⟨⟩ | @⟨_, d2, _, _, k2, hk⟩ := hk
  obtain @⟨⟩ | @⟨_, d3, _, _, k3, hk⟩ := hk
  cases hk
  obtain ⟨x1, rfl⟩ := k1
  obtain ⟨x2, rfl, w2⟩ := k2
  obtain ⟨x3, rfl⟩ := k3
  exact ev42 x1 x2 x3 n h

theorem evR43 (n : Nat) : ∀ (ds : List D), KsOk (sig 43) ds → Pre (n + 1) 43 ds → obsHold X (Pre n) (obK 43) ds ∧ (deK 43).eval X ds = X 43 ds := fun ds hk h => by
  obtain @⟨⟩ | @⟨_, d1, _, _, k1, hk⟩ := hk
  obtain @⟨⟩ | @⟨_, d2, _, _, k2, hk⟩ := hk
  obtain @⟨⟩ | @⟨_, d3, _, _, k3, hk⟩ := hk
  cases hk
  obtain ⟨x1, rfl⟩ := k1
  obtain ⟨x2, rfl, w2⟩ := k2
  obtain ⟨x3, rfl⟩ := k3
  exact ev43 x1 x2 x3 n h

theorem evR44 (n : Nat) : ∀ (ds : List D), KsOk (sig 44) ds → Pre (n + 1) 44 ds → obsHold X (Pre n) (obK 44) ds ∧ (deK 44).eval X ds = X 44 ds := fun ds hk h => by
  obtain @⟨⟩ | @⟨_, d1, _, _, k1, hk⟩ := hk
  cases hk
  obtain ⟨x1, rfl⟩ := k1
  exact ev44 x1 n h

theorem evA45 : ∀ (ds : List D), KsOk (sig 45) ds → side 45 ds → obsHold X side (obK 45) ds ∧ (deK 45).eval X ds = X 45 ds := fun ds hk h => by
  obtain @⟨⟩ | @⟨_, d1, _, _, k1, hk⟩ := hk
  obtain @⟨⟩ | @⟨_, d2, _, _, k2, hk⟩ := hk
  cases hk
  obtain ⟨x1, rfl, w1⟩ := k1
  obtain ⟨x2, rfl, w2⟩ := k2
  have e := ev45 x1 x2 0 (by rw [side_45] at h; exact h.1) (by rw [side_45] at h; exact h.2)
  exact ⟨Obs.mono (fun _ _ h => pre_side h) _ _ e.1, e.2⟩

theorem evA46 : ∀ (ds : List D), KsOk (sig 46) ds → side 46 ds → obsHold X side (obK 46) ds ∧ (deK 46).eval X ds = X 46 ds := fun ds hk h => by
  obtain @⟨⟩ | @⟨_, d1, _, _, k1, hk⟩ := hk
  cases hk
  obtain ⟨x1, rfl, w1⟩ := k1
  have e := ev46 x1 (wf_u64 w1).1 (wf_u64 w1).2 0
  exact ⟨Obs.mono (fun _ _ h => pre_side h) _ _ e.1, e.2⟩

theorem evR47 (n : Nat) : ∀ (ds : List D), KsOk (sig 47) ds → Pre (n + 1) 47 ds → obsHold X (Pre n) (obK 47) ds ∧ (deK 47).eval X ds = X 47 ds := fun ds hk h => by
  obtain @⟨⟩ | @⟨_, d1, _, _, k1, hk⟩ := hk
  obtain @⟨⟩ | @⟨_, d2, _, _, k2, hk⟩ := hk
  obtain @⟨⟩ | @⟨_, d3, _, _, k3, hk⟩ := hk
  obtain @⟨⟩ | @⟨_, d4, _, _, k4, hk⟩ := hk
  cases hk
  obtain ⟨x1, rfl⟩ := k1
  obtain ⟨x2, rfl, w2⟩ := k2
  obtain ⟨x3, rfl⟩ := k3
  obtain ⟨x4, rfl⟩ := k4
  exact ev47 (fs := x1) (v := x2) (x := x3) (t := x4) n h

theorem evR48 (n : Nat) : ∀ (ds : List D), KsOk (sig 48) ds → Pre (n + 1) 48 ds → obsHold X (Pre n) (obK 48) ds ∧ (deK 48).eval X ds = X 48 ds := fun ds hk h => by
  obtain @⟨⟩ | @⟨_, d1, _, _, k1, hk⟩ := hk
  obtain @⟨⟩ | @⟨_, d2, _, _, k2, hk⟩ := hk
  obtain @⟨⟩ | @⟨_, d3, _, _, k3, hk⟩ := hk
  obtain @⟨⟩ | @⟨_, d4, _, _, k4, hk⟩ := hk
  obtain @⟨⟩ | @⟨_, d5, _, _, k5, hk⟩ := hk
  obtain @⟨⟩ | @⟨_, d6, _, _, k6, hk⟩ := hk
  cases hk
  obtain ⟨x1, rfl, w1⟩ := k1
  obtain ⟨x2, rfl⟩ := k2
  obtain ⟨x3, rfl⟩ := k3
  obtain ⟨x4, rfl, w4⟩ := k4
  obtain ⟨x5, rfl⟩ := k5
  obtain ⟨x6, rfl⟩ := k6
  exact ev48 x1 x2 x3 x4 x5 x6 n h

theorem evR49 (n : Nat) : ∀ (ds : List D), KsOk (sig 49) ds → Pre (n + 1) 49 ds → obsHold X (Pre n) (obK 49) ds ∧ (deK 49).eval X ds = X 49 ds := fun ds hk h => by
  obtain @⟨⟩ | @⟨_, d1, _, _, k1, hk⟩ := hk
  obtain @⟨⟩ | @⟨_, d2, _, _, k2, hk⟩ := hk
  obtain @⟨⟩ | @⟨_, d3, _, _, k3, hk⟩ := hk
  obtain @⟨⟩ | @⟨_, d4, _, _, k4, hk⟩ := hk
  cases hk
  obtain ⟨x1, rfl⟩ := k1
  obtain ⟨x2, rfl, w2⟩ := k2
  obtain ⟨x3, rfl⟩ := k3
  obtain ⟨x4, rfl⟩ := k4
  exact ev49 x1 x2 x3 x4 n h

theorem evR50 (n : Nat) : ∀ (ds : List D), KsOk (sig 50) ds → Pre (n + 1) 50 ds → obsHold X (Pre n) (obK 50) ds ∧ (deK 50).eval X ds = X 50 ds := fun ds hk h => by
  obtain @⟨⟩ | @⟨_, d1, _, _, k1, hk⟩ := hk
  obtain @⟨⟩ | @⟨_, d2, _, _, k2, hk⟩ := hk
  cases hk
  obtain ⟨x1, rfl⟩ := k1
  obtain ⟨x2, rfl⟩ := k2
  exact ev50 x1 x2 n h

theorem evA51 : ∀ (ds : List D), KsOk (sig 51) ds → side 51 ds → obsHold X side (obK 51) ds ∧ (deK 51).eval X ds = X 51 ds := fun ds hk h => by
  obtain @⟨⟩ | @⟨_, d1, _, _, k1, hk⟩ := hk
  cases hk
  obtain ⟨x1, rfl⟩ := k1
  have e := ev51 x1 (by rw [side_51, decF_enc] at h; exact h) 0
  exact ⟨Obs.mono (fun _ _ h => pre_side h) _ _ e.1, e.2⟩

theorem evA52 : ∀ (ds : List D), KsOk (sig 52) ds → side 52 ds → obsHold X side (obK 52) ds ∧ (deK 52).eval X ds = X 52 ds := fun ds hk h => by
  obtain @⟨⟩ | @⟨_, d1, _, _, k1, hk⟩ := hk
  obtain @⟨⟩ | @⟨_, d2, _, _, k2, hk⟩ := hk
  cases hk
  obtain ⟨x1, rfl⟩ := k1
  obtain ⟨x2, rfl⟩ := k2
  have e := ev52 x1 x2 0
  exact ⟨Obs.mono (fun _ _ h => pre_side h) _ _ e.1, e.2⟩

theorem evA53 : ∀ (ds : List D), KsOk (sig 53) ds → side 53 ds → obsHold X side (obK 53) ds ∧ (deK 53).eval X ds = X 53 ds := fun ds hk h => by
  obtain @⟨⟩ | @⟨_, d1, _, _, k1, hk⟩ := hk
  obtain @⟨⟩ | @⟨_, d2, _, _, k2, hk⟩ := hk
  obtain @⟨⟩ | @⟨_, d3, _, _, k3, hk⟩ := hk
  obtain @⟨⟩ | @⟨_, d4, _, _, k4, hk⟩ := hk
  cases hk
  obtain ⟨x1, rfl⟩ := k1
  obtain ⟨x2, rfl⟩ := k2
  obtain ⟨x3, rfl, w3⟩ := k3
  obtain ⟨x4, rfl, w4⟩ := k4
  have e := ev53 x1 x2 x3 x4 0 (by rw [side_53] at h; exact h.1) (by rw [side_53] at h; exact h.2.1) (by rw [side_53] at h; exact h.2.2)
  exact ⟨Obs.mono (fun _ _ h => pre_side h) _ _ e.1, e.2⟩

theorem evA54 : ∀ (ds : List D), KsOk (sig 54) ds → side 54 ds → obsHold X side (obK 54) ds ∧ (deK 54).eval X ds = X 54 ds := fun ds hk h => by
  obtain @⟨⟩ | @⟨_, d1, _, _, k1, hk⟩ := hk
  cases hk
  obtain ⟨x1, rfl⟩ := k1
  have e := ev54 x1 0
  exact ⟨Obs.mono (fun _ _ h => pre_side h) _ _ e.1, e.2⟩

theorem evA55 : ∀ (ds : List D), KsOk (sig 55) ds → side 55 ds → obsHold X side (obK 55) ds ∧ (deK 55).eval X ds = X 55 ds := fun ds hk h => by
  obtain @⟨⟩ | @⟨_, d1, _, _, k1, hk⟩ := hk
  cases hk
  obtain ⟨x1, rfl, w1⟩ := k1
  exact ⟨trivial, ev55 x1⟩

theorem evA56 : ∀ (ds : List D), KsOk (sig 56) ds → side 56 ds → obsHold X side (obK 56) ds ∧ (deK 56).eval X ds = X 56 ds := fun ds hk h => by
  obtain @⟨⟩ | @⟨_, d1, _, _, k1, hk⟩ := hk
  obtain @⟨⟩ | @⟨_, d2, _, _, k2, hk⟩ := hk
  obtain @⟨⟩ | @⟨_, d3, _, _, k3, hk⟩ := hk
  cases hk
  obtain ⟨x1, rfl⟩ := k1
  obtain ⟨x2, rfl, w2⟩ := k2
  obtain ⟨x3, rfl⟩ := k3
  exact ⟨trivial, ev56 x1 x2 x3⟩

theorem evA57 : ∀ (ds : List D), KsOk (sig 57) ds → side 57 ds → obsHold X side (obK 57) ds ∧ (deK 57).eval X ds = X 57 ds := fun ds hk h => by
  obtain @⟨⟩ | @⟨_, d1, _, _, k1, hk⟩ := hk
  obtain @⟨⟩ | @⟨_, d2, _, _, k2, hk⟩ := hk
  cases hk
  obtain ⟨x1, rfl⟩ := k1
  obtain ⟨x2, rfl, w2⟩ := k2
  exact ⟨trivial, ev57 x1 x2⟩

theorem evA58 : ∀ (ds : List D), KsOk (sig 58) ds → side 58 ds → obsHold X side (obK 58) ds ∧ (deK 58).eval X ds = X 58 ds := fun ds hk h => by
  obtain @⟨⟩ | @⟨_, d1, _, _, k1, hk⟩ := hk
  obtain @⟨⟩ | @⟨_, d2, _, _, k2, hk⟩ := hk
  cases hk
  obtain ⟨x1, rfl, w1⟩ := k1
  obtain ⟨x2, rfl, w2⟩ := k2
  have e := ev58 x1 x2 0 (wf_u8 w1).1 (wf_u8 w1).2 (by rw [side_58] at h; exact h.2.1) (by rw [side_58] at h; exact h.2.2)
  exact ⟨Obs.mono (fun _ _ h => pre_side h) _ _ e.1, e.2⟩

theorem evA59 : ∀ (ds : List D), KsOk (sig 59) ds → side 59 ds → obsHold X side (obK 59) ds ∧ (deK 59).eval X ds = X 59 ds := fun ds hk h => by
  obtain @⟨⟩ | @⟨_, d1, _, _, k1, hk⟩ := hk
  obtain @⟨⟩ | @⟨_, d2, _, _, k2, hk⟩ := hk
  obtain @⟨⟩ | @⟨_, d3, _, _, k3, hk⟩ := hk
  cases hk
  obtain ⟨x1, y1, rfl⟩ := k1
  obtain ⟨x2, rfl, w2⟩ := k2
  obtain ⟨x3, rfl⟩ := k3
  have e := ev59 x1 y1 x2 x3 (3 * wFs x1 + 1) h (by omega)
  exact ⟨Obs.mono (fun _ _ h => pre_side h) _ _ e.1, e.2⟩

theorem evA60 : ∀ (ds : List D), KsOk (sig 60) ds → side 60 ds → obsHold X side (obK 60) ds ∧ (deK 60).eval X ds = X 60 ds := fun ds hk h => by
  obtain @⟨⟩ | @⟨_, d1, _, _, k1, hk⟩ := hk
  obtain @⟨⟩ | @⟨_, d2, _, _, k2, hk⟩ := hk
  obtain @⟨⟩ | @⟨_, d3, _, _, k3, hk⟩ := hk
  cases hk
  obtain ⟨x1, y1, rfl⟩ := k1
  obtain ⟨x2, rfl, w2⟩ := k2
  obtain ⟨x3, rfl⟩ := k3
  have e := ev60 x1 y1 x2 x3 0 h
  exact ⟨Obs.mono (fun _ _ h => pre_side h) _ _ e.1, e.2⟩

theorem evA (k : Nat) (hk : known? k = true) (hr : recur k = false) : ∀ (ds : List D), KsOk (sig k) ds → side k ds → obsHold X side (obK k) ds ∧ (deK k).eval X ds = X k ds := by
  unfold known? at hk
  split at hk
  · exact evA1
  · exact evA2
  · exact evA3
  · exact evA4
  · exact evA5
  · exact evA6
  · exact evA7
  · exact evA10
  · exact evA11
  · exact evA12
  · exact evA13
  · exact evA14
  · exact evA15
  · exact evA17
  · exact evA19
  · exact evA20
  · exact evA21
  · exact evA22
  · exact evA26
  · exact evA27
  · exact evA29
  · exact evA30
  · exact evA31
  · exact evA40
  · exact evA41
  · simp [recur] at hr
  · simp [recur] at hr
  · simp [recur] at hr
  · exact evA45
  · exact evA46
  · simp [recur] at hr
  · simp [recur] at hr
  · simp [recur] at hr
  · simp [recur] at hr
  · exact evA51
  · exact evA52
  · exact evA53
  · exact evA54
  · exact evA55
  · exact evA56
  · exact evA57
  · exact evA58
  · exact evA59
  · exact evA60
  · cases hk
theorem evR (k : Nat) (hk : known? k = true) (hr : recur k = true) (n : Nat) : ∀ (ds : List D), KsOk (sig k) ds → Pre (n + 1) k ds → obsHold X (Pre n) (obK k) ds ∧ (deK k).eval X ds = X k ds := by
  unfold known? at hk
  split at hk
  · simp [recur] at hr
  · simp [recur] at hr
  · simp [recur] at hr
  · simp [recur] at hr
  · simp [recur] at hr
  · simp [recur] at hr
  · simp [recur] at hr
  · simp [recur] at hr
  · simp [recur] at hr
  · simp [recur] at hr
  · simp [recur] at hr
  · simp [recur] at hr
  · simp [recur] at hr
  · simp [recur] at hr
  · simp [recur] at hr
  · simp [recur] at hr
  · simp [recur] at hr
  · simp [recur] at hr
  · simp [recur] at hr
  · simp [recur] at hr
  · simp [recur] at hr
  · simp [recur] at hr
  · simp [recur] at hr
  · simp [recur] at hr
  · simp [recur] at hr
  · exact evR42 n
  · exact evR43 n
  · exact evR44 n
  · simp [recur] at hr
  · simp [recur] at hr
  · exact evR47 n
  · exact evR48 n
  · exact evR49 n
  · exact evR50 n
  · simp [recur] at hr
  · simp [recur] at hr
  · simp [recur] at hr
  · simp [recur] at hr
  · simp [recur] at hr
  · simp [recur] at hr
  · simp [recur] at hr
  · simp [recur] at hr
  · simp [recur] at hr
  · simp [recur] at hr
  · cases hk

/-! ## The functions of a program -/
def ctrs (tab : List (Nat × Ctr)) (r : Nat) (f : FuncId) : Option Ctr :=
  match lk f tab with
  | some c => if rank c.fn < r || (r == 5 && recur c.fn) then some c else none
  | none => none
def runOk (P : Program) (tab : List (Nat × Ctr)) (f : FuncId) (c : Ctr) : Bool :=
  match P.funcs[f]? with
  | some fn =>
    match runF ⟨P, ctrs tab (rank c.fn), fun _ _ _ => none⟩ 100000 8 c fn with
    | some (d, os) => d.beq (deK c.fn) && obbeqs os (obK c.fn)
    | none => false
  | none => false
def ctrOk? (P : Program) (tab : List (Nat × Ctr)) (f : FuncId) (c : Ctr) : Bool :=
  known? c.fn && areA P (sig c.fn) c.args && c.pre && runOk P tab f c
theorem rank5 {k : Nat} (hk : known? k = true) : rank k = 5 ↔ recur k = true := by
  unfold known? at hk
  split at hk
  all_goals first | cases hk; done | decide

theorem ctrs_some {tab : List (Nat × Ctr)} {r : Nat} {f : FuncId} {c : Ctr} (h : ctrs tab r f = some c) : lk f tab = some c ∧ (rank c.fn < r ∨ (r = 5 ∧ recur c.fn = true)) := by
  unfold ctrs at h
  split at h
  · rename_i c' hc
    split at h
    · rename_i hb
      cases h
      simp only [Bool.or_eq_true, decide_eq_true_eq, Bool.and_eq_true, beq_iff_eq] at hb
      exact ⟨hc, hb⟩
    · cases h
  · cases h
theorem one_ok {P : Program} {A B : Nat → List D → Prop} {tab : List (Nat × Ctr)} (hnm : NamesOk P) (hord : P.follows .mixedOrders = true) {f : FuncId} {c : Ctr} (hrun : runOk P tab f c = true) (hsig : areA P (sig c.fn) c.args = true) (hpre : c.pre = true)
    (hc : ∀ g d, ctrs tab (rank c.fn) g = some d → CtrOk P X A g d) (hX : ∀ ds, KsOk (sig c.fn) ds → B c.fn ds → obsHold X A (obK c.fn) ds ∧ (deK c.fn).eval X ds = X c.fn ds) : CtrOk P X B f c := by
  unfold runOk at hrun
  split at hrun
  rotate_left
  · cases hrun
  rename_i fn hf
  split at hrun
  rotate_left
  · cases hrun
  rename_i d os hr
  simp only [Bool.and_eq_true] at hrun
  have e1 := DE.beq_eq hrun.1
  have e2 := obbeqs_eq hrun.2
  subst e1; subst e2
  exact ctrOk_of_run (C := ⟨P, ctrs tab (rank c.fn), fun _ _ _ => none⟩) hnm hord hc hf hr (fun ok w vs ds hA hp => hX ds (areA_ok hsig hA) (hp hpre))
theorem tab_ok {P : Program} {tab : List (Nat × Ctr)} {hand : Nat → Bool} (hnm : NamesOk P) (hord : P.follows .mixedOrders = true)
    (hh : ∀ f c, lk f tab = some c → hand c.fn = true → CtrOk P X side f c) (hchk : ∀ f c, lk f tab = some c → hand c.fn = false → ctrOk? P tab f c = true) (hhr : ∀ k, hand k = true → recur k = false) : ∀ r f c, lk f tab = some c → rank c.fn = r → CtrOk P X side f c := by
  intro r
  induction r using Nat.strongRecOn with
  | ind r ih =>
    intro f c hl hr
    cases hx : hand c.fn with
    | true => exact hh f c hl hx
    | false =>
      have h := hchk f c hl hx
      unfold ctrOk? at h
      simp only [Bool.and_eq_true] at h
      obtain ⟨⟨⟨hk, hsig⟩, hpre⟩, hrun⟩ := h
      cases hrec : recur c.fn with
      | false =>
        refine one_ok hnm hord hrun hsig hpre (A := side) (fun g d hg => ?_) (evA c.fn hk hrec)
        obtain ⟨h1, h2⟩ := ctrs_some hg
        rcases h2 with h2 | ⟨h2, _⟩
        · exact ih _ (by omega) g d h1 rfl
        · have := (rank5 hk).1 h2
          rw [hrec] at this; cases this
      | true =>
        have h5 : r = 5 := by rw [← hr]; exact (rank5 hk).2 hrec
        have main : ∀ n f c, lk f tab = some c → known? c.fn = true → recur c.fn = true → areA P (sig c.fn) c.args = true → c.pre = true → runOk P tab f c = true → CtrOk P X (Pre n) f c := by
          intro n
          induction n with
          | zero =>
            intro f c hl hk hrec hsig hpre hrun
            refine one_ok hnm hord hrun hsig hpre (A := fun _ _ => False) (fun g d hg => ?_) (fun ds _ hB => ?_)
            · have hg' := ctrs_some hg
              have hdx : hand d.fn = false ∨ hand d.fn = true := by cases hand d.fn <;> simp
              have hex : ∃ fn b, P.funcs[g]? = some fn ∧ fn.body = some b ∧ d.pre = true ∨ CtrOk P X side g d := by
                rcases hdx with hdx | hdx
                · have h := hchk g d hg'.1 hdx
                  unfold ctrOk? at h
                  simp only [Bool.and_eq_true] at h
                  obtain ⟨⟨⟨_, _⟩, hp⟩, hr⟩ := h
                  unfold runOk at hr
                  split at hr
                  · rename_i fn hf
                    split at hr
                    · rename_i d' os hr'
                      unfold runF at hr'
                      split at hr'
                      · rename_i body q hb _
                        exact ⟨fn, body, .inl ⟨hf, hb, hp⟩⟩
                      · cases hr'
                    · cases hr
                  · cases hr
                · have := hh g d hg'.1 hdx
                  obtain ⟨fn, b, _, _⟩ := this.1
                  exact ⟨fn, b, .inr this⟩
              obtain ⟨fn, b, h | h⟩ := hex
              · exact ⟨⟨fn, b, h.1, h.2.1⟩, fun ok w vs ds _ _ _ h4 => (h4 h.2.2).elim⟩
              · exact ctr_mono (fun _ h => h.elim) h
            · exact absurd (hB.1 hrec) (by omega)
          | succ n ihn =>
            intro f c hl hk hrec hsig hpre hrun
            refine one_ok hnm hord hrun hsig hpre (A := Pre n) (fun g d hg => ?_) (evR c.fn hk hrec n)
            obtain ⟨h1, h2⟩ := ctrs_some hg
            have hr5 := (rank5 hk).2 hrec
            by_cases hd : rank d.fn < 5
            · exact ctr_mono (fun _ h => h.2) (ih (rank d.fn) (by omega) g d h1 rfl)
            · have hdr : recur d.fn = true := by
                rcases h2 with h2 | h2
                · omega
                · exact h2.2
              cases hdx : hand d.fn with
              | true => exact ctr_mono (fun _ h => h.2) (hh g d h1 hdx)
              | false =>
                have h := hchk g d h1 hdx
                unfold ctrOk? at h
                simp only [Bool.and_eq_true] at h
                obtain ⟨⟨⟨q1, q2⟩, q3⟩, q4⟩ := h
                exact ihn g d h1 q1 hdr q2 q3 q4
        have hfin := fun n => main n f c hl hk hrec hsig hpre hrun
        refine ⟨(hfin 0).1, fun ok w vs ds h1 h2 h3 h4 => ?_⟩
        exact (hfin (meas c.fn ds + 1)).2 ok w vs ds h1 h2 h3 (fun hp => ⟨fun _ => by omega, h4 hp⟩)
theorem all_ok {P : Program} {tab : List (Nat × Ctr)} {hand : Nat → Bool} (hnm : NamesOk P) (hord : P.follows .mixedOrders = true)
    (hh : ∀ f c, lk f tab = some c → hand c.fn = true → CtrOk P X side f c) (hchk : ∀ f c, lk f tab = some c → hand c.fn = false → ctrOk? P tab f c = true) (hhr : ∀ k, hand k = true → recur k = false) : ∀ f c, lk f tab = some c → CtrOk P X side f c :=
  fun f c h => tab_ok hnm hord hh hchk hhr _ f c h rfl
end Go.Mx

namespace Go.Mx
open Go Go.Dx

/-! ## What a tree's numbers are -/
def wfTg (x : Tg) : Bool := decide (0 ≤ x.key) && decide (x.key < 4294967296)
mutual
def wfT : T → Bool
  | .mk n _ _ l u => (Lit.int .i64 n).wf && wfTo l && (u.getD []).all wfTg
def wfTo : Option (List T) → Bool
  | none => true
  | some l => wfTl l
def wfTl : List T → Bool
  | [] => true
  | t :: r => wfT t && wfTl r
end
theorem wfTl_all : ∀ {l : List T}, wfTl l = true ↔ ∀ x ∈ l, wfT x = true
  | [] => by simp [wfTl]
  | a :: l => by simp [wfTl, wfTl_all (l := l)]

section
variable {P : Program} {ok : Nat → Prop} {w : World}
theorem isI_u32 {n : Int} (h : (Lit.int .u32 n).wf = true) : 0 ≤ n ∧ n < 4294967296 := by
  simp [Lit.wf, IntKind.min, IntKind.max, IntKind.signed, IntKind.bits] at h; omega
theorem rep_tagW {t : TypeId} {v : Value} {x : Tg} (h : isTag P t = true) (hr : Rep P ok w t v x.d) : wfTg x = true := by
  unfold isTag at h
  simp only [Bool.and_eq_true] at h
  obtain ⟨ha, h⟩ := h
  obtain ⟨ds, hd, hlen, hcell⟩ := rep_row ha hr
  have hd' : ds = [.int x.key, encB x.val] := by simp only [Tg.d, D.row.injEq] at hd; exact hd.symm
  subst hd'
  split at h
  · rename_i a b hty
    simp only [Bool.and_eq_true] at h
    rw [hty] at hcell
    obtain ⟨v1, r1⟩ := hcell 0 a _ rfl rfl
    obtain ⟨n, hn, hw⟩ := rep_int h.1 r1
    cases hn
    have := isI_u32 hw
    simp [wfTg, this]
  · cases h
theorem rep_tagsW {t : TypeId} {v : Value} {l : Option (List Tg)} (h : isTags P t = true) (hr : Rep P ok w t v (encU l)) : (l.getD []).all wfTg = true := by
  unfold isTags at h
  split at h
  · rename_i e he
    rcases rep_list he (isTag_agg h) hr with hx | ⟨ds, hx, hall⟩
    · cases l with
      | none => rfl
      | some l => simp [encU] at hx
    · cases l with
      | none => rfl
      | some l =>
        simp only [encU, D.list.injEq] at hx
        subst hx
        refine List.all_eq_true.2 fun x hx => ?_
        obtain ⟨v', hv⟩ := hall x.d (List.mem_map.2 ⟨x, hx, rfl⟩)
        exact rep_tagW h hv
  · cases h
theorem T.d_inj {a b : T} (h : a.d = b.d) : a = b := by
  have := congrArg toT h
  rwa [toT_d, toT_d] at this
theorem rep_treeW {t : TypeId} {v : Value} {d : D} (hr : Rep P ok w t v d) : (isTree P t = true → ∀ x : T, d = x.d → wfT x = true) ∧ ∀ e, sl P t = some e → isTree P e = true → ∀ l, d = encT l → wfTo l = true := by
  have noAgg : ∀ {t : TypeId} {d : TypeDesc}, P.underlying t = some d → isAggD d = false → ¬ isTree P t = true := fun hu hd h => by
    obtain ⟨d', hu', ha⟩ := agg_eq (isTree_agg h)
    rw [hu] at hu'; cases hu'; rw [hd] at ha; cases ha
  have noSl : ∀ {t e : TypeId} {d : TypeDesc}, P.underlying t = some d → sl P t = some e → d = .slice e := fun hu h => by
    have := sl_eq h
    rw [hu] at this; cases this; rfl
  induction hr with
  | int hu _ => exact ⟨fun h => absurd h (noAgg hu rfl), fun e he => absurd (noSl hu he) (by simp)⟩
  | bool hu => exact ⟨fun h => absurd h (noAgg hu rfl), fun e he => absurd (noSl hu he) (by simp)⟩
  | str hu _ => exact ⟨fun h => absurd h (noAgg hu rfl), fun e he => absurd (noSl hu he) (by simp)⟩
  | flt hu => exact ⟨fun h => absurd h (noAgg hu rfl), fun e he => absurd (noSl hu he) (by simp)⟩
  | snil hu =>
    refine ⟨fun h => absurd h (noAgg hu rfl), fun e he ht l hl => ?_⟩
    cases l with
    | none => rfl
    | some l => simp [encT] at hl
  | bytes hu he8 _ _ _ _ =>
    refine ⟨fun h => absurd h (noAgg hu rfl), fun e he ht => ?_⟩
    have := noSl hu he
    cases this
    exact absurd ht (noAgg he8 rfl)
  | list hu he8 hi hok hlen hcap hmax hsz hc hr ih =>
    rename_i t' e' cap ad i vs ds
    refine ⟨fun h => absurd h (noAgg hu rfl), fun e he ht l hl => ?_⟩
    have := noSl hu he
    cases this
    cases l with
    | none => rfl
    | some l =>
      simp only [encT, D.list.injEq, tds_map] at hl
      subst hl
      refine wfTl_all.2 fun x hx => ?_
      obtain ⟨j, hj, hjx⟩ := List.mem_iff_getElem.1 hx
      have hj1 : (l.map T.d)[j]? = some x.d := by rw [List.getElem?_map, List.getElem?_eq_getElem hj, hjx]; rfl
      have hj2 : j < vs.length := by simp at hlen; omega
      exact (ih j _ _ (List.getElem?_eq_getElem hj2) hj1).1 ht x rfl
  | row hu hd hlen hlen' h1 hr ih =>
    rename_i t' d' vs ds
    refine ⟨fun h x hx => ?_, fun e he ht => ?_⟩
    rotate_left
    · have := noSl hu he
      subst this
      simp [isAggD] at hd
    have h0 := h
    unfold isTree at h
    simp only [Bool.and_eq_true] at h
    obtain ⟨ha, h⟩ := h
    split at h
    · rename_i a b c d'' e hty
      simp only [Bool.and_eq_true, decide_eq_true_eq] at h
      obtain ⟨⟨⟨⟨q1, q2⟩, q3⟩, q4⟩, q5⟩ := h
      obtain ⟨n, s, bb, l, u⟩ := x
      simp only [T.d, D.row.injEq] at hx
      subst hx
      have cell : ∀ (j : Nat), j < 5 → ∃ v', vs[j]? = some v' := fun j hj => by
        have hj2 : j < vs.length := by rw [hlen, hty]; exact hj
        exact ⟨vs[j], List.getElem?_eq_getElem hj2⟩
      rw [hty] at hr ih
      obtain ⟨v1, r1⟩ := cell 0 (by omega)
      obtain ⟨v4, r4⟩ := cell 3 (by omega)
      obtain ⟨v5, r5⟩ := cell 4 (by omega)
      obtain ⟨n', hn, hw⟩ := rep_int q1 (hr 0 a v1 _ rfl r1 rfl)
      cases hn
      have hl := (ih 3 d'' v4 _ rfl r4 rfl).2 t' q4 h0 l rfl
      have hu := rep_tagsW q5 (hr 4 e v5 _ rfl r5 rfl)
      simp only [wfT, Bool.and_eq_true]
      exact ⟨⟨hw, hl⟩, hu⟩
    · cases h
  | pnil hu => exact ⟨fun h => absurd h (noAgg hu rfl), fun e he => absurd (noSl hu he) (by simp)⟩
  | ptr hu _ _ _ _ => exact ⟨fun h => absurd h (noAgg hu rfl), fun e he => absurd (noSl hu he) (by simp)⟩
  | mnil hu => exact ⟨fun h => absurd h (noAgg hu rfl), fun e he => absurd (noSl hu he) (by simp)⟩
  | map hu _ _ _ _ _ _ _ _ _ _ => exact ⟨fun h => absurd h (noAgg hu rfl), fun e he => absurd (noSl hu he) (by simp)⟩
end
end Go.Mx

namespace Go.Mx
open Go Go.Dx

/-! ## What is fitted has no long lists -/
theorem smTl_all : ∀ {l : List T}, (∀ x ∈ l, smT x = true) → smTl l = true
  | [], _ => rfl
  | x :: l, h => by
    simp only [smTl, Bool.and_eq_true]
    exact ⟨h x (by simp), smTl_all (fun y hy => h y (by simp [hy]))⟩
theorem smTo_nz {l : List T} (h : l.length ≤ 40000) (hl : smTl l = true) : smTo (nz l) = true := by
  cases l with
  | nil => rfl
  | cons x l => simp only [nz, smTo, Bool.and_eq_true, decide_eq_true_eq]; exact ⟨h, hl⟩
theorem fitL_len (v : Int) (t : T) : ∀ (l : List Fl) (i : Nat), (fitL l i v t).length = l.length
  | [], _ => rfl
  | f :: r, i => by simp [fitL, fitL_len v t r]
theorem smB {kind : Int} {b : Bool} {t ft : T} (h : smT ft = true) : smT (fittedB kind b t ft) = true := by
  unfold fittedB
  split
  · simp [smT, smTo]
  · split
    · cases ft; exact h
    · simp [smT, smTo]
theorem unk_small (l : List Fl) (u : Option (List Tg)) : ((nz ((unknown l u).map fun x => (⟨x.key, whole x.val⟩ : Tg))).getD []).length ≤ 40000 := by
  have := unknown_len l u
  rw [nz_getD, List.length_map]; omega
mutual
theorem smF : ∀ (f : Fl) (v : Int) (t : T), wfF f = true → smT (fitted f v t) = true
  | .mk k fr to nl tg df of sub, v, t, h => by
    have hs : wfFs sub = true := by simp only [wfF, Bool.and_eq_true] at h; exact h.2
    simp only [fitted]
    split
    · simp only [smT, Bool.and_eq_true]
      refine ⟨smTo_nz (by simp [Most]; omega) (smTl_all fun x hx => ?_), by simp⟩
      obtain ⟨y, _, rfl⟩ := List.mem_map.1 hx
      exact smB (smS sub v y hs)
    · exact smB (smS sub v t hs)
theorem smS : ∀ (fs : Option (List Fl)) (v : Int) (t : T), wfFs fs = true → smT (FitS fs v t) = true
  | none, v, t, _ => by
    simp only [FitS, smT, Bool.and_eq_true, decide_eq_true_eq]
    exact ⟨rfl, unk_small _ _⟩
  | some l, v, t, h => by
    simp only [wfFs, Bool.and_eq_true, decide_eq_true_eq] at h
    simp only [FitS, smT, Bool.and_eq_true, decide_eq_true_eq]
    exact ⟨smTo_nz (by rw [fitL_len]; omega) (smL l 0 v t h.2), unk_small _ _⟩
theorem smL : ∀ (l : List Fl) (i : Nat) (v : Int) (t : T), wfFl l = true → smTl (fitL l i v t) = true
  | [], _, _, _, _ => rfl
  | f :: r, i, v, t, h => by
    simp only [wfFl, Bool.and_eq_true] at h
    simp only [fitL, smTl, Bool.and_eq_true]
    exact ⟨smF f v _ h.1, smL r (i + 1) v t h.2⟩
end

/-! ## A schema, as it is built -/
mutual
def flE : Fl → DE
  | .mk k f t n g d o s => .f .mkrow [.k (.int k), .k (.int f), .k (.int t), .k (.int n), .k (.int g), .k (.int d), .k (.int o), scE s]
def scE : Option (List Fl) → DE
  | none => .k .nil
  | some l => .f .mklist (flEs l)
def flEs : List Fl → List DE
  | [] => []
  | f :: r => flE f :: flEs r
end
mutual
theorem flE_eval (δ : List D) : ∀ f : Fl, (flE f).eval X δ = f.d
  | .mk k f t n g d o s => by
    simp only [flE, ev_f, evs_cons, evs_nil, ev_k, fe_mkrow, scE_eval δ s, Fl.d]
theorem scE_eval (δ : List D) : ∀ s : Option (List Fl), (scE s).eval X δ = encF s
  | none => rfl
  | some l => by simp only [scE, ev_f, fe_mklist, flEs_eval δ l, encF]
theorem flEs_eval (δ : List D) : ∀ l : List Fl, evals X (flEs l) δ = fds l
  | [] => rfl
  | f :: r => by simp only [flEs, evs_cons, flE_eval δ f, flEs_eval δ r, fds]
end

/-! ## A law about what is made -/
def verE (most : Int) : DE := .f (.ext 58) [.v 0, .k (.int most)]
def fitE (fs : Option (List Fl)) (most : Int) : DE := .f (.ext 43) [scE fs, verE most, .v 1]
def makeE (m : Nat) (fs : Option (List Fl)) (most : Int) : DE := .f (.ext m) [verE most, .f (.ext 44) [fitE fs most]]
def writeE (fs : Option (List Fl)) (fx most : Int) : DE := .f (.ext 59) [.f .mkrow [scE fs, .k (.int fx)], verE most, .v 1]
def lawE (m : Nat) (fs : Option (List Fl)) (fx most : Int) : DE := .f .ite [.f .not [.f (.ext 54) [.v 1]], .k (.bool true), .f (.ext 52) [makeE m fs most, writeE fs fx most]]
def lawO (m : Nat) (fs : Option (List Fl)) (fx most : Int) : List Ob := [.when (.f .not [.f (.ext 54) [.v 1]]) false [.pre 52 [makeE m fs most, writeE fs fx most], .pre 59 [.f .mkrow [scE fs, .k (.int fx)], verE most, .v 1], .pre m [verE most, .f (.ext 44) [fitE fs most]], .pre 44 [fitE fs most], .pre 43 [scE fs, verE most, .v 1], .pre 58 [.v 0, .k (.int most)]], .pre 54 [.v 1]]
/-- what a message's octets are to be, and no more than so many -/
structure Made (m : Nat) (fs : Option (List Fl)) (fx most : Int) : Prop where
  wf : wfFs fs = true
  most0 : 0 ≤ most
  most1 : most ≤ 1000
  made : ∀ (v : Int) (t : T), 0 ≤ v → v ≤ most → fitsTo t = true → (partS fs v (Flexible fx v) t).length ≤ lim → (X m [.int v, (given (FitS fs v t)).d]).asStr = partS fs v (Flexible fx v) t ∧ side m [.int v, (given (FitS fs v t)).d]
theorem law_ok {m : Nat} {fs : Option (List Fl)} {fx most : Int} (h : Made m fs fx most) (n : Int) (t : T) (hn : 0 ≤ n) (hl : fitsTo t = true → ∀ v, 0 ≤ v → v ≤ most → (partS fs v (Flexible fx v) t).length ≤ lim) : obsHold X side (lawO m fs fx most) [.int n, t.d] ∧ (lawE m fs fx most).eval X [.int n, t.d] = .bool true := by
  have hv0 : 0 ≤ n % (most + 1) := Int.emod_nonneg _ (by have := h.most0; omega)
  have hv1 : n % (most + 1) ≤ most := by have := Int.emod_lt_of_pos n (b := most + 1) (by have := h.most0; omega); omega
  have eV : (verE most).eval X [.int n, t.d] = .int (n % (most + 1)) := by
    simp only [verE, ev_f, evs_cons, evs_nil, ev_v, ev_k, List.getD_cons_zero, fe_ext, X_58, int_i]
  generalize n % (most + 1) = v at hv0 hv1 eV
  have e54 : (DE.f .not [.f (.ext 54) [.v 1]]).eval X [.int n, t.d] = .bool (!fitsTo t) := by
    simp only [ev_f, evs_cons, evs_nil, ev_v, List.getD_cons_zero, List.getD_cons_succ, fe_ext, X_54, toT_d, fe_not]
  have eF : (fitE fs most).eval X [.int n, t.d] = (FitS fs v t).d := by
    rw [fitE, ev_f]
    simp only [evs_cons, evs_nil, eV, scE_eval, ev_v, List.getD_cons_zero, List.getD_cons_succ, fe_ext, X_43, decF_enc, toT_d, int_i]
  have eG : (DE.f (.ext 44) [fitE fs most]).eval X [.int n, t.d] = (given (FitS fs v t)).d := by
    rw [ev_f]
    simp only [evs_cons, evs_nil, eF, fe_ext, X_44, toT_d]
  have eM : (makeE m fs most).eval X [.int n, t.d] = X m [.int v, (given (FitS fs v t)).d] := by
    rw [makeE, ev_f]
    simp only [evs_cons, evs_nil, eV, eG, fe_ext]
  have eK : (DE.f .mkrow [scE fs, .k (.int fx)]).eval X [.int n, t.d] = .row [encF fs, .int fx] := by
    rw [ev_f]
    simp only [evs_cons, evs_nil, scE_eval, ev_k, fe_mkrow]
  have eW : (writeE fs fx most).eval X [.int n, t.d] = encN (partS fs v (Flexible fx v) t) := by
    rw [writeE, ev_f]
    simp only [evs_cons, evs_nil, eK, eV, ev_v, List.getD_cons_zero, List.getD_cons_succ, fe_ext, X_59, decF_enc, toT_d, int_i]
  constructor
  · refine ⟨fun hc => ?_, trivial, trivial⟩
    rw [e54, bool_b] at hc
    have hf : fitsTo t = true := by simpa using hc
    have hlen := hl hf v hv0 hv1
    obtain ⟨m1, m2⟩ := h.made v t hv0 hv1 hf hlen
    refine ⟨trivial, ?_, ?_, ?_, ?_, ?_, trivial⟩
    · simp only [Ob.holds, evs_cons, evs_nil, eK, eV, ev_v, List.getD_cons_zero, List.getD_cons_succ]
      rw [side_59, decF_enc, int_i, int_i, toT_d]
      exact ⟨h.wf, hlen⟩
    · simp only [Ob.holds, evs_cons, evs_nil, eV, eG]
      exact m2
    · simp only [Ob.holds, evs_cons, evs_nil, eF]
      rw [side_44, toT_d]
      exact smS fs v t h.wf
    · simp only [Ob.holds, evs_cons, evs_nil, scE_eval, eV]
      rw [side_43, decF_enc]; exact h.wf
    · simp only [Ob.holds, evs_cons, evs_nil, ev_v, ev_k, List.getD_cons_zero]
      rw [side_58]
      exact ⟨hn, h.most0, h.most1⟩
  · rw [lawE, ev_f]
    simp only [evs_cons, evs_nil]
    rw [e54, ev_k, fe_ite]
    cases hf : fitsTo t with
    | false => rfl
    | true =>
      simp only [Bool.not_true, Bool.false_eq_true, if_false]
      rw [ev_f]
      simp only [evs_cons, evs_nil]
      obtain ⟨m1, _⟩ := h.made v t hv0 hv1 hf (hl hf v hv0 hv1)
      rw [eM, eW, fe_ext, X_52, m1, asStr_encN]
      simp
end Go.Mx

namespace Go.Mx
open Go Go.Dx

/-! ## What is fitted and given is written as it was -/
theorem insTag_mem (x : Tg) : ∀ (l : List Tg) (y : Tg), y ∈ insTag x l → y = x ∨ y ∈ l
  | [], y, h => by simp [insTag] at h; exact .inl h
  | t :: r, y, h => by
    simp only [insTag] at h
    split at h
    · rcases List.mem_cons.1 h with rfl | h
      · simp
      · rcases insTag_mem x r y h with h | h
        · exact .inl h
        · exact .inr (by simp [h])
    · split at h
      · exact .inr h
      · rcases List.mem_cons.1 h with h | h
        · exact .inl h
        · exact .inr h
theorem insTag_srt (x : Tg) : ∀ (l : List Tg), SrtT l → SrtT (insTag x l)
  | [], _ => by simp [insTag, SrtT]
  | t :: r, h => by
    obtain ⟨h1, h2⟩ := List.pairwise_cons.1 h
    simp only [insTag]
    split
    · rename_i hlt
      refine List.pairwise_cons.2 ⟨fun y hy => ?_, insTag_srt x r h2⟩
      rcases insTag_mem x r y hy with rfl | hy
      · exact hlt
      · exact h1 y hy
    · split
      · exact h
      · refine List.pairwise_cons.2 ⟨fun y hy => ?_, h⟩
        rcases List.mem_cons.1 hy with rfl | hy
        · omega
        · have := h1 y hy; omega
theorem insTag_last (x : Tg) : ∀ (l : List Tg), (∀ y ∈ l, y.key < x.key) → insTag x l = l ++ [x]
  | [], _ => rfl
  | t :: r, h => by
    simp only [insTag, if_pos (h t (by simp))]
    rw [insTag_last x r (fun y hy => h y (by simp [hy]))]; rfl
theorem unk_fold (k : Int) : ∀ (l out : List Tg), SrtT out → (∀ y ∈ out, k ≤ y.key) → SrtT (l.foldl (fun out t => if t.key < k then out else insTag t out) out) ∧ ∀ y ∈ l.foldl (fun out t => if t.key < k then out else insTag t out) out, k ≤ y.key ∧ (y ∈ out ∨ y ∈ l)
  | [], out, h, hk => ⟨h, fun y hy => ⟨hk y hy, .inl hy⟩⟩
  | t :: l, out, h, hk => by
    simp only [List.foldl]
    by_cases c : t.key < k
    · rw [if_pos c]
      obtain ⟨a, b⟩ := unk_fold k l out h hk
      exact ⟨a, fun y hy => ⟨(b y hy).1, (b y hy).2.imp id (fun h => by simp [h])⟩⟩
    · rw [if_neg c]
      obtain ⟨a, b⟩ := unk_fold k l (insTag t out) (insTag_srt t out h) (fun y hy => by
        rcases insTag_mem t out y hy with rfl | hy
        · omega
        · exact hk y hy)
      refine ⟨a, fun y hy => ⟨(b y hy).1, ?_⟩⟩
      rcases (b y hy).2 with h | h
      · rcases insTag_mem t out y h with rfl | h
        · exact .inr (by simp)
        · exact .inl h
      · exact .inr (by simp [h])
theorem unk_spec (fs : List Fl) (u : Option (List Tg)) : SrtT (unknown fs u) ∧ ∀ y ∈ unknown fs u, (known fs : Int) ≤ y.key ∧ y ∈ u.getD [] := by
  obtain ⟨a, b⟩ := unk_fold (known fs) ((u.getD []).take Most) [] List.Pairwise.nil (fun y hy => by cases hy)
  refine ⟨a, fun y hy => ⟨(b y hy).1, ?_⟩⟩
  rcases (b y hy).2 with h | h
  · cases h
  · exact List.mem_of_mem_take h
theorem unk_again (k : Int) : ∀ (l out : List Tg), SrtT (out ++ l) → (∀ y ∈ l, k ≤ y.key) → l.foldl (fun out t => if t.key < k then out else insTag t out) out = out ++ l
  | [], out, _, _ => by simp
  | t :: l, out, h, hk => by
    simp only [List.foldl]
    rw [if_neg (by have := hk t (by simp); omega), insTag_last t out (fun y hy => (List.pairwise_append.1 h).2.2 y hy t (by simp))]
    rw [unk_again k l (out ++ [t]) (by simpa using h) (fun y hy => hk y (by simp [hy]))]
    simp
theorem unk_id (fs : List Fl) (l : List Tg) (h : SrtT l) (hk : ∀ y ∈ l, (known fs : Int) ≤ y.key) (hl : l.length ≤ Most) : unknown fs (nz l) = l := by
  unfold unknown
  rw [nz_getD, List.take_of_length_le hl]
  have := unk_again (known fs) l [] (by simpa using h) hk
  simpa using this
theorem srt_cut {l : List Tg} (h : SrtT l) : SrtT (l.map cut) := List.pairwise_map.2 (h.imp fun h => h)
theorem unk_cut (fs : List Fl) (u : Option (List Tg)) : unknown fs (nz ((unknown fs u).map cut)) = (unknown fs u).map cut := by
  obtain ⟨a, b⟩ := unk_spec fs u
  refine unk_id fs _ (srt_cut a) (fun y hy => ?_) (by rw [List.length_map]; exact unknown_len fs u)
  obtain ⟨z, hz, rfl⟩ := List.mem_map.1 hy
  exact (b z hz).1
theorem unkB_cut (x : Tg) : unkB (cut x) = unkB x := by
  unfold unkB cut
  simp only [whole_getD]
  rw [List.take_take]; simp

/-! fields whose null does not come with a version -/
mutual
def okU : Fl → Bool
  | .mk _ _ _ n _ _ _ s => decide (n ≤ 0) && okUs s
def okUs : Option (List Fl) → Bool
  | none => true
  | some l => okUl l
def okUl : List Fl → Bool
  | [] => true
  | f :: r => okU f && okUl r
end
mutual
def okG : Fl → Bool
  | .mk k a b n g d o s => (decide (g < 0) || (okU (.mk k a b n g d o s) && (decide (k ≠ 11) || decide (n < 0)))) && (decide (k ≠ 11) || decide (o ≠ 11)) && okGs s
def okGs : Option (List Fl) → Bool
  | none => true
  | some l => okGl l
def okGl : List Fl → Bool
  | [] => true
  | f :: r => okG f && okGl r
end
theorem okUl_all : ∀ {l : List Fl}, okUl l = true → ∀ f ∈ l, okU f = true
  | a :: l, h, f, hf => by
    simp only [okUl, Bool.and_eq_true] at h
    rcases List.mem_cons.1 hf with rfl | hf
    · exact h.1
    · exact okUl_all h.2 f hf
theorem okGl_all : ∀ {l : List Fl}, okGl l = true → ∀ f ∈ l, okG f = true
  | a :: l, h, f, hf => by
    simp only [okGl, Bool.and_eq_true] at h
    rcases List.mem_cons.1 hf with rfl | hf
    · exact h.1
    · exact okGl_all h.2 f hf
theorem at_nz (l : List T) (i : Nat) (n : Int) (s : Option (List UInt8)) (b : Bool) (u : Option (List Tg)) : at' (.mk n s b (nz l) u) i = l.getD i T.zero := by
  have : (T.mk n s b (nz l) u).L = l := by show (nz l).getD [] = l; exact nz_getD l
  unfold at'
  rw [this]
  by_cases h : i < l.length
  · rw [if_pos (by omega)]; rfl
  · rw [if_neg (by omega), List.getD_eq_getElem?_getD, List.getElem?_eq_none (by omega)]; rfl
theorem mapI_congr {A B : Type} {g g' : Nat → A → B} : ∀ (l : List A) (k : Nat), (∀ i a, l[i]? = some a → g (k + i) a = g' (k + i) a) → mapI g k l = mapI g' k l
  | [], _, _ => rfl
  | a :: l, k, h => by
    simp only [mapI]
    have h0 : g k a = g' k a := h 0 a rfl
    have h1 : mapI g (k + 1) l = mapI g' (k + 1) l := mapI_congr l (k + 1) (fun i b hb => by
      have := h (i + 1) b hb
      rwa [show k + (i + 1) = k + 1 + i by omega] at this)
    rw [h0, h1]
theorem mapI_length {A B : Type} (g : Nat → A → B) : ∀ (l : List A) (k : Nat), (mapI g k l).length = l.length
  | [], _ => rfl
  | a :: l, k => by simp [mapI, mapI_length g l]
theorem given_eq (n : Int) (s : Option (List UInt8)) (b : Bool) (l : List T) (u : Option (List Tg)) : given (.mk n s b (nz l) u) = .mk n s b (nz (l.map given)) (nz (u.getD [])) := by
  cases l with
  | nil => rfl
  | cons a l => simp only [nz, given, givenO, givenL_map]
theorem gF (fs : Option (List Fl)) (v : Int) (t : T) : given (FitS fs v t) = .mk 0 none false (nz (mapI (fun i f => given (fitted f v (at' t i))) 0 (fs.getD []))) (nz ((unknown (fs.getD []) t.u).map cut)) := by
  rw [FitS_eq, given_eq, mapI_map, nz_getD]
theorem at_gF (fs : Option (List Fl)) (v : Int) (t : T) (i : Nat) (f : Fl) (h : (fs.getD [])[i]? = some f) : at' (given (FitS fs v t)) i = given (fitted f v (at' t i)) := by
  rw [gF, at_nz, List.getD_eq_getElem?_getD, mapI_get _ _ 0 i f h, Nat.zero_add]; rfl
theorem u_gF (fs : Option (List Fl)) (v : Int) (t : T) : unknown (fs.getD []) (given (FitS fs v t)).u = (unknown (fs.getD []) t.u).map cut := by
  rw [gF]; exact unk_cut _ _
theorem given_n (t : T) : (given t).n = t.n := by cases t; rfl
theorem given_s (t : T) : (given t).s = t.s := by cases t; rfl
theorem given_null (t : T) : (given t).null = t.null := by cases t; rfl
theorem given_L (t : T) : (given t).L = t.L.map given := by
  obtain ⟨n, s, b, l, u⟩ := t
  show (givenO l).getD [] = (l.getD []).map given
  cases l with
  | none => rfl
  | some l => rw [givenO, nz_getD, givenL_map]; rfl
theorem given_u (t : T) : (given t).u = nz t.U := by cases t; rfl
theorem FitS_n (fs : Option (List Fl)) (v : Int) (t : T) : (FitS fs v t).n = 0 ∧ (FitS fs v t).s = none ∧ (FitS fs v t).null = false := by cases fs <;> exact ⟨rfl, rfl, rfl⟩
end Go.Mx

namespace Go.Mx
open Go Go.Dx

theorem partS_nl (fs : Option (List Fl)) (v : Int) (x : Bool) {a b : T} (hl : a.L = b.L) (hu : unknown (fs.getD []) a.u = unknown (fs.getD []) b.u) : partS fs v x a = partS fs v x b := by
  have hat : ∀ i, at' a i = at' b i := fun i => by unfold at'; rw [hl]
  have e : rowP v x a = rowP v x b := by funext i f; unfold rowP; rw [hat]
  rw [partS_eq, partS_eq]
  unfold partB
  rw [e, hu]
theorem usualS_nl (fs : Option (List Fl)) {a b : T} (hl : a.L = b.L) (hu : unknown (fs.getD []) a.u = unknown (fs.getD []) b.u) : usualS fs a = usualS fs b := by
  rw [usualS_eq, usualS_eq, hu]
  have hat : ∀ i, at' a i = at' b i := fun i => by unfold at'; rw [hl]
  have : ∀ (l : List Fl) (i : Nat), usualL l i a = usualL l i b := fun l => by
    induction l with
    | nil => intro i; rfl
    | cons f r ih => intro i; rw [usualL, usualL, hat, ih]
  rw [this]
/-- a value that is fitted, and given -/
def gB (kind : Int) (b : Bool) (sub : Option (List Fl)) (v : Int) (t : T) : T := given (fittedB kind b t (FitS sub v t))
theorem gB_null (kind : Int) (b : Bool) (sub : Option (List Fl)) (v : Int) (t : T) : (gB kind b sub v t).null = if kind = 8 ∨ kind = 9 ∨ kind = 10 then b else false := by
  unfold gB fittedB
  rw [given_null]
  by_cases h1 : kind = 8 ∨ kind = 9
  · rw [if_pos h1, if_pos (by omega)]; rfl
  · rw [if_neg h1]
    by_cases h2 : kind = 10
    · rw [if_pos h2, if_pos (by omega)]; rfl
    · rw [if_neg h2, if_neg (by omega)]; rfl
theorem gB_S (kind : Int) (b : Bool) (sub : Option (List Fl)) (v : Int) (t : T) (h : kind ≠ 10) : (gB kind b sub v t).S = if kind = 8 ∨ kind = 9 then t.S.take Most else t.S := by
  unfold gB fittedB T.S
  rw [given_s]
  by_cases h1 : kind = 8 ∨ kind = 9
  · rw [if_pos h1, if_pos h1]; exact whole_getD _
  · rw [if_neg h1, if_neg h1, if_neg h]; rfl
theorem gB_n (kind : Int) (b : Bool) (sub : Option (List Fl)) (v : Int) (t : T) (h : kind ≠ 10) (h8 : kind ≠ 8) (h9 : kind ≠ 9) : (gB kind b sub v t).n = t.n := by
  unfold gB fittedB
  rw [given_n, if_neg (by omega), if_neg h]; rfl
theorem gB_10 (b : Bool) (sub : Option (List Fl)) (v : Int) (t : T) : (gB 10 b sub v t).L = (given (FitS sub v t)).L ∧ (gB 10 b sub v t).u = (given (FitS sub v t)).u := by
  unfold gB fittedB
  rw [if_neg (by decide), if_pos rfl, given_L, given_L, given_u, given_u]
  exact ⟨rfl, rfl⟩
theorem partS_gB (b : Bool) (sub : Option (List Fl)) (v : Int) (x : Bool) (t : T) : partS sub v x (gB 10 b sub v t) = partS sub v x (given (FitS sub v t)) :=
  partS_nl _ _ _ (gB_10 b sub v t).1 (by rw [(gB_10 b sub v t).2])
theorem take_take_self {A : Type} (l : List A) (n : Nat) : (l.take n).take n = l.take n := by rw [List.take_take]; simp
theorem valueG (kind : Int) (b : Bool) (sub : Option (List Fl)) (v : Int) (x : Bool) (t : T) (hp : partS sub v x (given (FitS sub v t)) = partS sub v x t) :
    valueB kind b x (gB kind b sub v t) (partS sub v x (gB kind b sub v t)) = valueB kind b x t (partS sub v x t) := by
  by_cases h10 : kind = 10
  · subst h10
    unfold valueB
    simp only [show ¬ ((10 : Int) = 0) by decide, show ¬ ((10 : Int) = 7) by decide, show ¬ ((10 : Int) = 8) by decide, show ¬ ((10 : Int) = 9) by decide, if_true, if_false]
    rw [partS_gB, hp]
  · unfold valueB
    by_cases h8 : kind = 8
    · subst h8
      rw [gB_S _ _ _ _ _ (by omega), if_pos (show (8 : Int) = 8 ∨ (8 : Int) = 9 from .inl rfl)]
      simp only [show ¬ ((8 : Int) = 0) by decide, show ¬ ((8 : Int) = 7) by decide, if_true, if_false, take_take_self]
    · by_cases h9 : kind = 9
      · subst h9
        rw [gB_S _ _ _ _ _ (by omega), if_pos (show (9 : Int) = 8 ∨ (9 : Int) = 9 from .inr rfl)]
        simp only [show ¬ ((9 : Int) = 0) by decide, show ¬ ((9 : Int) = 7) by decide, show ¬ ((9 : Int) = 8) by decide, if_true, if_false, take_take_self]
      · rw [gB_S _ _ _ _ _ h10, gB_n _ _ _ _ _ h10 h8 h9, if_neg (show ¬ (kind = 8 ∨ kind = 9) by omega)]
        simp only [h8, h9, h10, if_false]
theorem fitted_ne (k fr to nl tg df of : Int) (sub : Option (List Fl)) (v : Int) (t : T) (h : k ≠ 11) : given (fitted (.mk k fr to nl tg df of sub) v t) = gB k (Mx.null (.mk k fr to nl tg df of sub) v t) sub v t := by
  rw [fitted, if_neg h]; rfl
theorem fitted_11 (fr to nl tg df of : Int) (sub : Option (List Fl)) (v : Int) (t : T) : given (fitted (.mk 11 fr to nl tg df of sub) v t) = .mk 0 none (Mx.null (.mk 11 fr to nl tg df of sub) v t || (decide (0 ≤ tg) && t.L.length == 0)) (nz ((t.L.take Most).map (gB of false sub v))) none := by
  rw [fitted, if_pos rfl, given_eq, List.map_map]; rfl
theorem mk_L (n : Int) (s : Option (List UInt8)) (b : Bool) (l : List T) (u : Option (List Tg)) : (T.mk n s b (nz l) u).L = l := by show (nz l).getD [] = l; exact nz_getD l
theorem null_eq (f : Fl) (v : Int) (t : T) : Mx.null f v t = (t.null && (decide (0 ≤ f.null) && decide (f.null ≤ v))) := rfl

theorem usualL_at : ∀ (l : List Fl) (a b : T) (i : Nat), (∀ k f, l[k]? = some f → usual f (at' a (i + k : Nat)) = usual f (at' b (i + k : Nat))) → usualL l i a = usualL l i b
  | [], _, _, _, _ => rfl
  | f :: r, a, b, i, h => by
    rw [usualL, usualL, show usual f (at' a i) = usual f (at' b i) from h 0 f rfl, usualL_at r a b (i + 1) (fun k g hg => by
      have := h (k + 1) g hg
      rwa [show i + (k + 1) = i + 1 + k by omega] at this)]

theorem usual_mk (k fr to nl tg df of : Int) (sub : Option (List Fl)) (t : T) : usual (.mk k fr to nl tg df of sub) t = if k = 0 then decide (t.n % 2 = df) else if k = 7 then (t.S.take 16).all (· == 0) else
    if k = 8 ∨ k = 9 then (if 0 ≤ nl then t.null else t.S.length == 0) else if k = 11 then t.L.length == 0 else
    if k = 10 then usualS sub t else Fixed t.n (width k).toNat == Fixed df (width k).toNat := by
  rw [usual]
/-! ### what is by default -/
mutual
theorem usualG : ∀ (f : Fl) (v : Int) (t : T), 0 ≤ v → okU f = true → usual f (given (fitted f v t)) = usual f t
  | .mk k fr to nl tg df of sub, v, t, hv, h => by
    simp only [okU, Bool.and_eq_true, decide_eq_true_eq] at h
    obtain ⟨hn, hs⟩ := h
    have hsub := usualGs sub v t hv hs
    rw [usual_mk, usual_mk]
    by_cases h11 : k = 11
    · subst h11
      rw [fitted_11]
      simp only [show ¬ ((11 : Int) = 0) by decide, show ¬ ((11 : Int) = 7) by decide, show ¬ ((11 : Int) = 8 ∨ (11 : Int) = 9) by decide, if_true, if_false]
      rw [mk_L]
      have : ((t.L.take Most).map (gB of false sub v)).length = min Most t.L.length := by simp
      rw [this]
      have e : (min Most t.L.length == 0) = (t.L.length == 0) := by
        rw [Bool.eq_iff_iff]; simp [Most]
      rw [e]
    · rw [fitted_ne _ _ _ _ _ _ _ _ _ _ h11]
      by_cases h10 : k = 10
      · subst h10
        simp only [show ¬ ((10 : Int) = 0) by decide, show ¬ ((10 : Int) = 7) by decide, show ¬ ((10 : Int) = 8 ∨ (10 : Int) = 9) by decide, show ¬ ((10 : Int) = 11) by decide, if_true, if_false]
        rw [← hsub]
        exact usualS_nl _ (gB_10 _ sub v t).1 (by rw [(gB_10 _ sub v t).2])
      · rw [gB_S _ _ _ _ _ h10, gB_null]
        by_cases h89 : k = 8 ∨ k = 9
        · have h0 : k ≠ 0 := by omega
          have h7 : k ≠ 7 := by omega
          have h8a : k = 8 ∨ k = 9 ∨ k = 10 := by omega
          simp only [if_neg h0, if_neg h7, if_pos h89, if_pos h8a]
          by_cases hz : 0 ≤ nl
          · have : nl = 0 := by omega
            subst this
            simp [Mx.null, Fl.null, hv]
          · rw [if_neg hz, if_neg hz]
            have : (t.S.take Most).length = min Most t.S.length := by simp
            rw [this, Bool.eq_iff_iff]; simp [Most]
        · rw [gB_n _ _ _ _ _ h10 (by omega) (by omega)]
          simp only [if_neg h89, if_neg h10, if_neg h11]
theorem usualGs : ∀ (fs : Option (List Fl)) (v : Int) (t : T), 0 ≤ v → okUs fs = true → usualS fs (given (FitS fs v t)) = usualS fs t
  | none, v, t, hv, h => by
    rw [usualS_eq, usualS_eq, u_gF, List.length_map]; rfl
  | some l, v, t, hv, h => by
    have hl := usualGl l v hv h
    have e : usualL l 0 (given (FitS (some l) v t)) = usualL l 0 t := usualL_at l _ _ 0 (fun k f hk => by
      have := hl f (List.mem_of_getElem? hk) (at' t k)
      rw [Nat.zero_add, at_gF (some l) v t k f hk]; exact this)
    rw [usualS_eq, usualS_eq, u_gF, List.length_map]
    show (usualL l 0 (given (FitS (some l) v t)) && _) = (usualL l 0 t && _)
    rw [e]
theorem usualGl : ∀ (l : List Fl) (v : Int), 0 ≤ v → okUl l = true → ∀ f ∈ l, ∀ t, usual f (given (fitted f v t)) = usual f t
  | [], _, _, _, f, hf, _ => by cases hf
  | g :: r, v, hv, h, f, hf, t => by
    simp only [okUl, Bool.and_eq_true] at h
    rcases List.mem_cons.1 hf with h1 | h1
    · rw [h1]; exact usualG g v t hv h.1
    · exact usualGl r v hv h.2 f h1 t
end
/-! ### what is written -/
theorem filterMap_eq {A : Type} {a b : List A} {B : Type} (p : A → Option B) (h : a.map p = b.map p) : a.filterMap p = b.filterMap p := by
  have e : ∀ l : List A, l.filterMap p = (l.map p).filterMap id := fun l => by rw [List.filterMap_map]; rfl
  rw [e, e, h]
theorem partB_cut (v : Int) (x : Bool) (fs : List Fl) (u u' : Option (List Tg)) (rows rows' : List (Fl × T × List UInt8)) (hu : unknown fs u' = (unknown fs u).map cut)
    (h1 : (rows'.map fun r => if r.1.tag < 0 ∧ has r.1 v = true then r.2.2 else []) = rows.map fun r => if r.1.tag < 0 ∧ has r.1 v = true then r.2.2 else [])
    (h2 : ∀ g : Nat, (rows'.map fun r => if r.1.tag = (g : Int) ∧ usual r.1 r.2.1 = false then some (tagB g r.2.2) else none) = rows.map fun r => if r.1.tag = (g : Int) ∧ usual r.1 r.2.1 = false then some (tagB g r.2.2) else none) : partB v x fs u' rows' = partB v x fs u rows := by
  unfold partB
  have ht : tagsB rows' (known fs) = tagsB rows (known fs) := by
    unfold tagsB
    congr 1
    funext g
    exact filterMap_eq _ (h2 g)
  have hm : (unknown fs u').map (fun x => tagB (IntKind.u64.wrap x.key).toNat ((x.val.getD []).take Most)) = (unknown fs u).map (fun x => tagB (IntKind.u64.wrap x.key).toNat ((x.val.getD []).take Most)) := by
    rw [hu, List.map_map]
    apply List.map_congr_left
    intro z _
    exact unkB_cut z
  rw [h1, ht, hm]
mutual
theorem fieldG : ∀ (f : Fl) (v : Int) (x : Bool) (t : T), 0 ≤ v → okG f = true → (f.tag < 0 ∨ usual f t = false) → field f v x (given (fitted f v t)) = field f v x t
  | .mk k fr to nl tg df of sub, v, x, t, hv, h, hu => by
    simp only [okG, Bool.and_eq_true, Bool.or_eq_true, decide_eq_true_eq] at h
    obtain ⟨⟨hg, ho⟩, hs⟩ := h
    have hsub : ∀ t, partS sub v x (given (FitS sub v t)) = partS sub v x t := fun t => partG sub v x t hv hs
    rw [field_eq, field_eq]
    simp only [Fl.kind, Fl.null, Fl.sub, Fl.of]
    by_cases h11 : k = 11
    · subst h11
      have hn : Mx.null (.mk 11 fr to nl tg df of sub) v (given (fitted (.mk 11 fr to nl tg df of sub) v t)) = Mx.null (.mk 11 fr to nl tg df of sub) v t := by
        rw [fitted_11, null_eq]
        simp only [T.null, Fl.null]
        rcases hu with hu | hu
        · simp only [Fl.tag] at hu
          have : decide (0 ≤ tg) = false := by simp; omega
          rw [this, null_eq]
          simp only [Fl.null]
          cases t.null <;> cases decide (0 ≤ nl) <;> cases decide (nl ≤ v) <;> simp
        · have h5 : (t.L.length == 0) = false := by
            rw [usual_eq] at hu
            simpa [Fl.kind] using hu
          rw [h5, null_eq]
          simp only [Fl.null]
          cases t.null <;> cases decide (0 ≤ nl) <;> cases decide (nl ≤ v) <;> simp
      rw [hn, fitted_11]
      unfold fieldB
      rw [if_pos rfl, if_pos rfl, mk_L]
      have ht : ((t.L.take Most).map (gB of false sub v)).take Most = (t.L.take Most).map (gB of false sub v) := by
        rw [← List.map_take, take_take_self]
      cases Mx.null (.mk 11 fr to nl tg df of sub) v t with
      | true => rfl
      | false =>
        simp only [Bool.false_eq_true, if_false]
        rw [ht, List.length_map, List.map_map]
        congr 2
        apply List.map_congr_left
        intro z _
        exact valueG of false sub v x z (hsub z)
    · have hn : Mx.null (.mk k fr to nl tg df of sub) v (given (fitted (.mk k fr to nl tg df of sub) v t)) = if k = 8 ∨ k = 9 ∨ k = 10 then Mx.null (.mk k fr to nl tg df of sub) v t else false := by
        rw [fitted_ne _ _ _ _ _ _ _ _ _ _ h11, null_eq, gB_null]
        simp only [Fl.null]
        split
        · rw [null_eq]; simp only [Fl.null]
          cases t.null <;> cases decide (0 ≤ nl) <;> cases decide (nl ≤ v) <;> simp
        · rfl
      rw [hn, fitted_ne _ _ _ _ _ _ _ _ _ _ h11]
      generalize Mx.null (.mk k fr to nl tg df of sub) v t = b
      unfold fieldB
      rw [if_neg h11, if_neg h11]
      by_cases hk : k = 8 ∨ k = 9 ∨ k = 10
      · rw [if_pos hk, valueG k b sub v x t (hsub t)]
        by_cases h10 : k = 10
        · subst h10
          show (if (10 : Int) = 10 ∧ 0 ≤ nl then if b = true then Fixed (-1) 1 else Fixed 1 1 ++ partS sub v x (gB 10 b sub v t) else _) = (if (10 : Int) = 10 ∧ 0 ≤ nl then if b = true then Fixed (-1) 1 else Fixed 1 1 ++ partS sub v x t else _)
          rw [partS_gB, hsub]
        · rw [if_neg (by omega), if_neg (by omega)]
      · rw [if_neg hk, if_neg (by omega), if_neg (by omega)]
        have hv : ∀ b' : Bool, ∀ t' p, valueB k b' x t' p = valueB k b x t' p := fun b' t' p => by
          unfold valueB; rw [if_neg (show ¬ k = 8 by omega), if_neg (show ¬ k = 9 by omega), if_neg (show ¬ k = 8 by omega), if_neg (show ¬ k = 9 by omega)]
        rw [hv]
        exact valueG k b sub v x t (hsub t)
theorem partG : ∀ (fs : Option (List Fl)) (v : Int) (x : Bool) (t : T), 0 ≤ v → okGs fs = true → partS fs v x (given (FitS fs v t)) = partS fs v x t
  | none, v, x, t, hv, h => by
    have hu : unknown [] (given (FitS none v t)).u = (unknown [] t.u).map cut := u_gF none v t
    rw [partS_eq, partS_eq]
    exact partB_cut v x [] _ _ _ _ hu rfl (fun _ => rfl)
  | some l, v, x, t, hv, h => by
    have hl := partGl l v x hv h
    have hu : unknown l (given (FitS (some l) v t)).u = (unknown l t.u).map cut := u_gF (some l) v t
    rw [partS_eq, partS_eq]
    refine partB_cut v x l _ _ _ _ hu ?_ ?_
    · rw [mapI_map, mapI_map]
      refine mapI_congr l 0 (fun i f hf => ?_)
      have hm := List.mem_of_getElem? hf
      simp only [rowP, Nat.zero_add]
      by_cases c : f.tag < 0 ∧ has f v = true
      · rw [if_pos c, if_pos c, at_gF (some l) v t i f hf, hl f hm _ (.inl c.1)]
      · rw [if_neg c, if_neg c]
    · intro g
      rw [mapI_map, mapI_map]
      refine mapI_congr l 0 (fun i f hf => ?_)
      have hm := List.mem_of_getElem? hf
      simp only [rowP, Nat.zero_add]
      rw [at_gF (some l) v t i f hf]
      by_cases c : f.tag = (g : Int)
      · have ho := okGl_all h f hm
        have hu' : okU f = true := by
          cases f
          simp only [Fl.tag] at c
          simp only [okG, Bool.and_eq_true, Bool.or_eq_true, decide_eq_true_eq] at ho
          rcases ho.1.1 with h1 | h1
          · omega
          · exact h1.1
        rw [usualG f v _ hv hu']
        by_cases d : usual f (at' t i) = false
        · rw [if_pos ⟨c, d⟩, if_pos ⟨c, d⟩, hl f hm _ (.inr d)]
        · rw [if_neg (fun h => d h.2), if_neg (fun h => d h.2)]
      · rw [if_neg (fun h => c h.1), if_neg (fun h => c h.1)]
theorem partGl : ∀ (l : List Fl) (v : Int) (x : Bool), 0 ≤ v → okGl l = true → ∀ f ∈ l, ∀ t, (f.tag < 0 ∨ usual f t = false) → field f v x (given (fitted f v t)) = field f v x t
  | [], _, _, _, _, f, hf, _, _ => by cases hf
  | g :: r, v, x, hv, h, f, hf, t, hu => by
    simp only [okGl, Bool.and_eq_true] at h
    rcases List.mem_cons.1 hf with h1 | h1
    · rw [h1] at hu ⊢; exact fieldG g v x t hv h.1 hu
    · exact partGl r v x hv h.2 f h1 t hu
end
end Go.Mx

namespace Go.Mx
open Go Go.Dx

/-! ## How a message is filled and written, as a run gives it back -/
def vE (i : Nat) : DE := .v i
def atE (s : DE) (i : Nat) : DE := .f (.ext 1) [s, .k (.int i)]
def uuE (z : DE) : List DE := (List.range 16).map fun j => .f (.get j) [.f (.ext 28) [.f (.get 1) [z]]]
def tagsE (lv : Nat) (z : DE) : DE := .fold lv (.f (.get 4) [z]) [.k .nil] [.f (.ext 23) [.v (lv + 2), .f (.get 0) [.v (lv + 1)], .f (.get 1) [.v (lv + 1)]]] 0
def rowE (l : List DE) : DE := match l with | [a] => a | l => .f .mkrow l
def listE (lv : Nat) (z : DE) (el : DE) : DE := .f .ite [.f .not [.f (.get 2) [z]], .fold lv (.f (.get 3) [z]) [.k (.list [])] [.f .app [.v (lv + 2), .f .mklist [el]]] 0, .k .nil]
def cellV (lv : Nat) (k nl : Int) (z : DE) (sub : List DE) : List DE :=
  if k = 0 then [.f .eqI [.f (.band .i64) [.f (.get 0) [z], .k (.int 1)], .k (.int 1)]] else
  if k = 1 then [.f (.wrap .i8) [.f (.get 0) [z]]] else
  if k = 2 then [.f (.wrap .i16) [.f (.get 0) [z]]] else
  if k = 3 then [.f (.wrap .i32) [.f (.get 0) [z]]] else
  if k = 5 then [.f (.wrap .u16) [.f (.get 0) [z]]] else
  if k = 7 then uuE z else
  if k = 8 then (if nl < 0 then [.f .toStr [.f (.get 1) [z]]] else [.f (.ext 26) [z]]) else
  if k = 9 then [.f (.ext 27) [z]] else
  if k = 10 then sub else [.f (.get 0) [z]]
def elV (k : Int) (l : List DE) (z : DE) : DE := if k = 7 then .f (.ext 28) [.f (.get 1) [z]] else if k = 10 then .f .mkrow l else rowE l
mutual
def cellF (tg : Bool) (lv : Nat) : Fl → DE → List DE
  | .mk k _ _ nl _ _ of sub, z => if k = 11 then [listE lv z (elV of (cellV (lv + 3) of (-1) (.v (lv + 1)) (cellS tg (lv + 3) sub (.v (lv + 1)))) (.v (lv + 1)))] else cellV lv k nl z (cellS tg lv sub z)
def cellS (tg : Bool) (lv : Nat) : Option (List Fl) → DE → List DE
  | none, z => if tg then [tagsE lv z] else []
  | some l, z => cellL tg lv l 0 z ++ (if tg then [tagsE lv z] else [])
def cellL (tg : Bool) (lv : Nat) : List Fl → Nat → DE → List DE
  | [], _, _ => []
  | f :: r, i, z => cellF tg lv f (atE z i) ++ cellL tg lv r (i + 1) z
end
/-! how many cells -/
mutual
def wdF (tg : Bool) : Fl → Nat
  | .mk k _ _ _ _ _ _ sub => if k = 7 then 16 else if k = 10 then wdS tg sub else 1
def wdS (tg : Bool) : Option (List Fl) → Nat
  | none => if tg then 1 else 0
  | some l => wdL tg l + (if tg then 1 else 0)
def wdL (tg : Bool) : List Fl → Nat
  | [] => 0
  | f :: r => wdF tg f + wdL tg r
end
def wdV (tg : Bool) (k : Int) (sub : Option (List Fl)) : Nat := if k = 7 then 16 else if k = 10 then wdS tg sub else 1
def getsE (r : DE) (n : Nat) : List DE := (List.range n).map fun j => .f (.get j) [r]
def headE (l : List DE) : DE := l.headD (.k .nil)
/-- the tags' number, the tags -/
def wrTags (x : Bool) (c o : DE) : DE := if x then .f (.ext 25) [c, .f (.ext 10) [o, .f (.add .u32) [.k (.int 0), .f (.wrap .u32) [.f (.ext 24) [c]]]]] else o
def wrV (x : Bool) (k nl v : Int) (cs : List DE) (o sub : DE) : DE :=
  let c := headE cs
  if k = 0 then .f (.ext 2) [o, c] else
  if k = 1 then .f (.ext 3) [o, c] else
  if k = 2 then .f (.ext 4) [o, c] else
  if k = 3 then .f (.ext 6) [o, c] else
  if k = 5 then .f (.ext 5) [o, c] else
  if k = 7 then .f (.ext 9) [o, .f .mkrow cs] else
  if k = 8 then (if 0 ≤ nl ∧ nl ≤ v then .f (.ext (if x then 14 else 13)) [o, c] else .f (.ext (if x then 12 else 11)) [o, if nl < 0 then c else .f .ite [.f .not [.f .isNil [c]], .f (.get 0) [.f .deref [c]], .k (.str [])]]) else
  if k = 9 then (if 0 ≤ nl ∧ nl ≤ v then .f (.ext (if x then 18 else 17)) [o, c] else .f (.ext (if x then 16 else 15)) [o, c]) else
  if k = 10 then sub else .f (.ext 7) [o, c]
def wrLen (x : Bool) (nl v : Int) (c o : DE) : DE :=
  if 0 ≤ nl ∧ nl ≤ v then .f (.ext (if x then 22 else 21)) [o, .f .len [c], .f .isNil [c]] else .f (.ext (if x then 20 else 19)) [o, .f .len [c]]
mutual
def wrF (tg : Bool) (v : Int) (x : Bool) (lv : Nat) : Fl → List DE → DE → DE
  | .mk k _ _ nl _ _ of sub, cs, o =>
    if k = 11 then .fold lv (headE cs) [wrLen x nl v (headE cs) o] [wrV x of (-1) v (getsE (.v (lv + 1)) (wdV tg of sub)) (.v (lv + 2)) (wrS tg v x (lv + 3) sub (getsE (.v (lv + 1)) (wdV tg of sub)) (.v (lv + 2)))] 0 else
    wrV x k nl v cs o (wrS tg v x lv sub cs o)
def wrS (tg : Bool) (v : Int) (x : Bool) (lv : Nat) : Option (List Fl) → List DE → DE → DE
  | none, cs, o => wrTags x (headE cs) o
  | some l, cs, o => wrTags x (headE (cs.drop (wdL tg l))) (wrL tg v x lv l cs o)
def wrL (tg : Bool) (v : Int) (x : Bool) (lv : Nat) : List Fl → List DE → DE → DE
  | [], _, o => o
  | f :: r, cs, o => wrL tg v x lv r (cs.drop (wdF tg f)) (if f.tag < 0 ∧ has f v = true then wrF tg v x lv f (cs.take (wdF tg f)) o else o)
end
def startE (m : Msg) (v : Int) : DE := if m.kept then .f (.ext 4) [.k .nil, .k (.int v)] else .k .nil
def msgE (m : Msg) (v : Int) : DE := wrS m.tg v (Flexible m.fx v) 2 m.fs (cellS m.tg 2 m.fs (.v 1)) (startE m v)

/-! what is to be held on the way -/
def alignUp (n a : Nat) : Nat := (n + a - 1) / a * a
mutual
def szF (tg : Bool) : Fl → Nat × Nat
  | .mk k _ _ nl _ _ _ sub => if k = 11 then (24, 8) else szV k nl (szS tg sub)
def szS (tg : Bool) : Option (List Fl) → Nat × Nat
  | none => if tg then (8, 8) else (0, 1)
  | some l => let q := szL tg l (0, 1); let q := if tg then (alignUp q.1 8 + 8, 8) else q; (alignUp q.1 q.2, q.2)
def szL (tg : Bool) : List Fl → Nat × Nat → Nat × Nat
  | [], q => q
  | f :: r, q => let s := szF tg f; szL tg r (alignUp q.1 s.2 + s.1, max q.2 s.2)
def szV (k nl : Int) (sub : Nat × Nat) : Nat × Nat :=
  if k = 0 ∨ k = 1 then (1, 1) else if k = 2 ∨ k = 5 then (2, 2) else if k = 3 then (4, 4) else if k = 7 then (16, 1) else
  if k = 8 then (if nl < 0 then (16, 8) else (8, 8)) else if k = 9 then (24, 8) else if k = 10 then sub else (8, 8)
end
def obTags (lv : Nat) (z : DE) : Ob := .all (.f (.get 4) [z]) [.k .nil] [.f (.ext 23) [.v (lv + 2), .f (.get 0) [.v (lv + 1)], .f (.get 1) [.v (lv + 1)]]] [.pre 23 [.v (lv + 2), .f (.get 0) [.v (lv + 1)], .f (.get 1) [.v (lv + 1)]]]
/-- of an item: z is what stands there -/
def obV (k nl : Int) (z : DE) (sub : List Ob) : List Ob :=
  if k = 7 then [.pre 28 [.f (.get 1) [z]]] else
  if k = 8 then (if nl < 0 then [] else [.pre 26 [z]]) else
  if k = 9 then [.pre 27 [z]] else
  if k = 10 then sub else []
mutual
def obF (tg : Bool) (lv : Nat) : Fl → DE → Nat → List Ob
  | .mk k _ _ nl _ _ of sub, s, i =>
    let z := atE s i
    let p : Ob := .pre 1 [s, .k (.int i)]
    if k = 11 then
      let n := (szV of (-1) (szS tg sub)).1
      let el := elV of (cellV (lv + 3) of (-1) (.v (lv + 1)) (cellS tg (lv + 3) sub (.v (lv + 1)))) (.v (lv + 1))
      let ap : DE := .f .app [.v (lv + 2), .f .mklist [el]]
      [.when (.f .not [.f (.get 2) [z]]) true [.all (.f (.get 3) [z]) [.k (.list [])] [ap] (.room ap n :: obV of (-1) (.v (lv + 1)) (obS tg (lv + 3) sub (.v (lv + 1)))), p, .cap (.f .len [.f (.get 3) [z]]) n, p], p]
    else obV k nl z (obS tg lv sub z) ++ [p]
def obS (tg : Bool) (lv : Nat) : Option (List Fl) → DE → List Ob
  | none, z => if tg then [obTags lv z] else []
  | some l, z => (if tg then [obTags lv z] else []) ++ obL tg lv l 0 z
def obL (tg : Bool) (lv : Nat) : List Fl → Nat → DE → List Ob
  | [], _, _ => []
  | f :: r, i, z => obL tg lv r (i + 1) z ++ obF tg lv f z i
end
def owTags (x : Bool) (c o : DE) : List Ob := if x then
  let o' : DE := .f (.ext 10) [o, .f (.add .u32) [.k (.int 0), .f (.wrap .u32) [.f (.ext 24) [c]]]]
  [.pre 25 [c, o'], .pre 10 [o, .f (.add .u32) [.k (.int 0), .f (.wrap .u32) [.f (.ext 24) [c]]]], .pre 24 [c]] else []
/-- a text that may be null is looked at where its version has none -/
def obNil (k nl v : Int) (c : DE) : List Ob := if k = 8 ∧ 0 ≤ nl ∧ v < nl then [.when (.f .not [.f .isNil [c]]) true [.when (.f .isNil [c]) true [.nz (.k (.int 0))]]] else []
def preOf : DE → List Ob
  | .f (.ext n) l => [.pre n l]
  | _ => []
mutual
def owF (tg : Bool) (v : Int) (x : Bool) (lv : Nat) : Fl → List DE → DE → List Ob
  | .mk k _ _ nl _ _ of sub, cs, o =>
    if k = 11 then
      let gs := getsE (.v (lv + 1)) (wdV tg of sub)
      let b := wrV x of (-1) v gs (.v (lv + 2)) (wrS tg v x (lv + 3) sub gs (.v (lv + 2)))
      [.all (headE cs) [wrLen x nl v (headE cs) o] [b] (if of = 10 then owS tg v x (lv + 3) sub gs (.v (lv + 2)) else preOf b)] ++ preOf (wrLen x nl v (headE cs) o)
    else if k = 10 then owS tg v x lv sub cs o else preOf (wrV x k nl v cs o (.k .nil)) ++ obNil k nl v (headE cs)
def owS (tg : Bool) (v : Int) (x : Bool) (lv : Nat) : Option (List Fl) → List DE → DE → List Ob
  | none, cs, o => owTags x (headE cs) o
  | some l, cs, o => owTags x (headE (cs.drop (wdL tg l))) (wrL tg v x lv l cs o) ++ owL tg v x lv l cs o
def owL (tg : Bool) (v : Int) (x : Bool) (lv : Nat) : List Fl → List DE → DE → List Ob
  | [], _, _ => []
  | f :: r, cs, o => (if f.tag < 0 ∧ has f v = true then
      owL tg v x lv r (cs.drop (wdF tg f)) (wrF tg v x lv f (cs.take (wdF tg f)) o) ++ owF tg v x lv f (cs.take (wdF tg f)) o
    else owL tg v x lv r (cs.drop (wdF tg f)) o)
end
def msgO (m : Msg) (v : Int) : List Ob := owS m.tg v (Flexible m.fx v) 2 m.fs (cellS m.tg 2 m.fs (.v 1)) (startE m v) ++ (if m.kept then [.pre 4 [.k .nil, .k (.int v)]] else []) ++ obS m.tg 2 m.fs (.v 1)
end Go.Mx

namespace Go.Mx
open Go Go.Dx

/-! ## What the cells hold -/
def u16D (s : List UInt8) : List D := (sixteen s).map fun x => .int x.toNat
def dV (k nl : Int) (t : T) (sub : List D) : List D :=
  if k = 0 then [.bool (decide (t.n % 2 = 1))] else
  if k = 1 then [.int (IntKind.i8.wrap t.n)] else
  if k = 2 then [.int (IntKind.i16.wrap t.n)] else
  if k = 3 then [.int (IntKind.i32.wrap t.n)] else
  if k = 5 then [.int (IntKind.u16.wrap t.n)] else
  if k = 7 then u16D t.S else
  if k = 8 then (if nl < 0 then [.str t.S] else [if t.null then .nil else .ptr (.str t.S)]) else
  if k = 9 then [if t.null then .nil else .bytes t.S] else
  if k = 10 then sub else [.int t.n]
def rowD (l : List D) : D := match l with | [a] => a | l => .row l
def elD (k : Int) (l : List D) (t : T) : D := if k = 7 then .row (u16D t.S) else if k = 10 then .row l else rowD l
def tagD (u : List Tg) : D := u.foldl (fun m x => .map (insM x.key (encB x.val) (mapL m))) .nil
mutual
def dF (tg : Bool) : Fl → T → List D
  | .mk k _ _ nl _ _ of sub, t => if k = 11 then [if t.null then .nil else .list (t.L.map fun y => elD of (dV of (-1) y (dS tg sub y)) y)] else dV k nl t (dS tg sub t)
def dS (tg : Bool) : Option (List Fl) → T → List D
  | none, t => if tg then [tagD t.U] else []
  | some l, t => dL tg l 0 t ++ (if tg then [tagD t.U] else [])
def dL (tg : Bool) : List Fl → Nat → T → List D
  | [], _, _ => []
  | f :: r, i, t => dF tg f (at' t i) ++ dL tg r (i + 1) t
end
theorem evals_app (a b : List DE) (δ : List D) : evals X (a ++ b) δ = evals X a δ ++ evals X b δ := by
  induction a with
  | nil => rfl
  | cons x a ih => simp only [List.cons_append, evs_cons, ih]
theorem evals_map {A : Type} (g : A → DE) (l : List A) (δ : List D) : evals X (l.map g) δ = l.map fun a => (g a).eval X δ := by
  induction l with
  | nil => rfl
  | cons x a ih => simp only [List.map_cons, evs_cons, ih]
theorem evals_eq (l : List DE) (δ : List D) : evals X l δ = l.map fun a => a.eval X δ := by
  have := evals_map (fun a => a) l δ
  simpa using this
theorem env_row {δ : List D} {lv : Nat} (h : lv ≤ δ.length) (i r a : D) : (DE.v (lv + 1)).eval X (δ.take lv ++ [i, r, a]) = r ∧ (DE.v (lv + 2)).eval X (δ.take lv ++ [i, r, a]) = a ∧ lv + 3 ≤ (δ.take lv ++ [i, r, a]).length := by
  have hl : (δ.take lv).length = lv := by simp; omega
  refine ⟨?_, ?_, by simp; omega⟩
  · rw [ev_v, List.getD_eq_getElem?_getD, List.getElem?_append_right (by omega), hl, show lv + 1 - lv = 1 by omega]; rfl
  · rw [ev_v, List.getD_eq_getElem?_getD, List.getElem?_append_right (by omega), hl, show lv + 2 - lv = 2 by omega]; rfl
/-- a fold that carries one value -/
theorem fold1_eval {δ : List D} {lv : Nat} {s i0 b : DE} {g : D → D → D} (inv : D → Prop) (hi : inv (i0.eval X δ)) (h : ∀ (i : Nat) r a, r ∈ (s.eval X δ).rows → inv a → b.eval X (δ.take lv ++ [.int i, r, a]) = g r a ∧ inv (g r a)) :
    (DE.fold lv s [i0] [b] 0).eval X δ = (s.eval X δ).rows.foldl (fun a r => g r a) (i0.eval X δ) := by
  rw [DE.eval]
  have key : ∀ (l : List D) (i : Nat) (a : D), inv a → (∀ r ∈ l, r ∈ (s.eval X δ).rows) → foldRows (fun i r acc => evals X [b] (δ.take lv ++ (.int i :: r :: acc))) i l [a] = [l.foldl (fun a r => g r a) a] := by
    intro l
    induction l with
    | nil => intro i a _ _; rfl
    | cons r l ih =>
      intro i a ha hl
      simp only [foldRows, List.foldl, evs_cons, evs_nil]
      obtain ⟨h1, h2⟩ := h i r a (hl r (by simp)) ha
      rw [h1]
      exact ih (i + 1) _ h2 (fun r hr => hl r (by simp [hr]))
  have e := key _ 0 _ hi (fun r hr => hr)
  show (foldRows (fun i r acc => evals X [b] (δ.take lv ++ (.int i :: r :: acc))) 0 (s.eval X δ).rows [i0.eval X δ]).getD 0 .nil = _
  rw [e]; rfl
theorem u16_len (s : List UInt8) : (u16D s).length = 16 := by rw [u16D, List.length_map, sixteen_len]
theorem range_getD (l : List D) : (List.range l.length).map (fun j => l.getD j .nil) = l := by
  apply List.ext_getElem (by simp)
  intro i h1 h2
  simp [List.getD_eq_getElem?_getD, h2]
section
variable {δ : List D} {z : DE} {t : T}
theorem ev_get0 (hz : z.eval X δ = t.d) : (DE.f (.get 0) [z]).eval X δ = .int t.n := by
  rw [ev_f, evs_cons, evs_nil, hz, fe_get, cells_T]; rfl
theorem ev_get1 (hz : z.eval X δ = t.d) : (DE.f (.get 1) [z]).eval X δ = encB t.s := by
  rw [ev_f, evs_cons, evs_nil, hz, fe_get, cells_T]; rfl
theorem ev_get2 (hz : z.eval X δ = t.d) : (DE.f (.get 2) [z]).eval X δ = .bool t.null := by
  rw [ev_f, evs_cons, evs_nil, hz, fe_get, cells_T]; rfl
theorem ev_get3 (hz : z.eval X δ = t.d) : (DE.f (.get 3) [z]).eval X δ = encT t.l := by
  rw [ev_f, evs_cons, evs_nil, hz, fe_get, cells_T]; rfl
theorem ev_get4 (hz : z.eval X δ = t.d) : (DE.f (.get 4) [z]).eval X δ = encU t.u := by
  rw [ev_f, evs_cons, evs_nil, hz, fe_get, cells_T]; rfl
theorem ev_atE (hz : z.eval X δ = t.d) (i : Nat) : (atE z i).eval X δ = (at' t i).d := by
  rw [atE, ev_f, evs_cons, evs_cons, evs_nil, hz, ev_k, fe_ext, X_1, toT_d, int_i]
theorem ev_28 (hz : z.eval X δ = t.d) : (DE.f (.ext 28) [.f (.get 1) [z]]).eval X δ = .row (u16D t.S) := by
  rw [ev_f, evs_cons, evs_nil, ev_get1 hz, fe_ext, X_28, asStr_encB]; rfl
theorem ev_uuE (hz : z.eval X δ = t.d) : evals X (uuE z) δ = u16D t.S := by
  have h := range_getD (u16D t.S)
  rw [u16_len] at h
  rw [uuE, evals_map]
  conv => rhs; rw [← h]
  apply List.map_congr_left
  intro j _
  rw [ev_f, evs_cons, evs_nil, ev_28 hz, fe_get]; rfl
theorem ev_tagsE {lv : Nat} (hlv : lv ≤ δ.length) (hz : z.eval X δ = t.d) : (tagsE lv z).eval X δ = tagD t.U := by
  rw [tagsE, fold1_eval (g := fun r a => .map (insM (r.cells.getD 0 .nil).asInt (r.cells.getD 1 .nil) (mapL a))) (fun _ => True) trivial]
  · rw [ev_get4 hz, rows_encU, ev_k, List.foldl_map]; rfl
  · intro i r a _ _
    obtain ⟨h1, h2, _⟩ := env_row hlv (.int i) r a
    refine ⟨?_, trivial⟩
    rw [ev_f, evs_cons, evs_cons, evs_cons, evs_nil, h2, ev_f, ev_f, evs_cons, evs_nil, h1, fe_get, fe_get, fe_ext, X_23]
theorem band1i (n : Int) : (DE.f .eqI [.f (.band .i64) [.k (.int n), .k (.int 1)], .k (.int 1)]).eval X δ = .bool (decide (n % 2 = 1)) := by
  simp only [ev_f, evs_cons, evs_nil, ev_k]
  show D.bool (IntKind.i64.wrap (BitVec.ofInt 64 n &&& BitVec.ofInt 64 1).toNat == 1) = _
  have e : (BitVec.ofInt 64 n &&& BitVec.ofInt 64 1).toNat = (n % 2).toNat := by
    rw [BitVec.toNat_and, show (BitVec.ofInt 64 1).toNat = 1 from rfl, Nat.and_one_is_mod, BitVec.toNat_ofInt]
    omega
  rw [e]
  have h2 : n % 2 = 0 ∨ n % 2 = 1 := by omega
  rcases h2 with h | h <;> rw [h] <;> rfl
theorem ev_cellV {lv : Nat} (k nl : Int) (hz : z.eval X δ = t.d) {sub : List DE} {sd : List D} (hs : k = 10 → evals X sub δ = sd) : evals X (cellV lv k nl z sub) δ = dV k nl t sd := by
  unfold cellV dV
  by_cases h0 : k = 0
  · rw [if_pos h0, if_pos h0, evs_cons, evs_nil]
    have := band1i (δ := δ) t.n
    rw [← this, ev_f, ev_f]
    simp only [evs_cons, evs_nil]
    rw [ev_f, ev_f]
    simp only [evs_cons, evs_nil]
    rw [ev_get0 hz, ev_k, ev_k]
  rw [if_neg h0, if_neg h0]
  by_cases h1 : k = 1
  · rw [if_pos h1, if_pos h1, evs_cons, evs_nil, ev_f, evs_cons, evs_nil, ev_get0 hz, fe_wrap]
  rw [if_neg h1, if_neg h1]
  by_cases h1 : k = 2
  · rw [if_pos h1, if_pos h1, evs_cons, evs_nil, ev_f, evs_cons, evs_nil, ev_get0 hz, fe_wrap]
  rw [if_neg h1, if_neg h1]
  by_cases h1 : k = 3
  · rw [if_pos h1, if_pos h1, evs_cons, evs_nil, ev_f, evs_cons, evs_nil, ev_get0 hz, fe_wrap]
  rw [if_neg h1, if_neg h1]
  by_cases h1 : k = 5
  · rw [if_pos h1, if_pos h1, evs_cons, evs_nil, ev_f, evs_cons, evs_nil, ev_get0 hz, fe_wrap]
  rw [if_neg h1, if_neg h1]
  by_cases h1 : k = 7
  · rw [if_pos h1, if_pos h1, ev_uuE hz]
  rw [if_neg h1, if_neg h1]
  by_cases h1 : k = 8
  · rw [if_pos h1, if_pos h1]
    by_cases hn : nl < 0
    · rw [if_pos hn, if_pos hn, evs_cons, evs_nil, ev_f, evs_cons, evs_nil, ev_get1 hz]
      show [D.str (encB t.s).asStr] = _
      rw [asStr_encB]; rfl
    · rw [if_neg hn, if_neg hn, evs_cons, evs_nil, ev_f, evs_cons, evs_nil, hz, fe_ext, X_26, toT_d]
  rw [if_neg h1, if_neg h1]
  by_cases h1 : k = 9
  · rw [if_pos h1, if_pos h1, evs_cons, evs_nil, ev_f, evs_cons, evs_nil, hz, fe_ext, X_27, toT_d]
  rw [if_neg h1, if_neg h1]
  by_cases h1 : k = 10
  · rw [if_pos h1, if_pos h1, hs h1]
  rw [if_neg h1, if_neg h1, evs_cons, evs_nil, ev_get0 hz]
theorem ev_rowE (l : List DE) : (rowE l).eval X δ = rowD (evals X l δ) := by
  match l with
  | [] => rfl
  | [a] => rfl
  | a :: b :: l => rfl
theorem ev_elV (k : Int) (hz : z.eval X δ = t.d) {l : List DE} {ld : List D} (hs : evals X l δ = ld) : (elV k l z).eval X δ = elD k ld t := by
  unfold elV elD
  by_cases h : k = 7
  · rw [if_pos h, if_pos h, ev_28 hz]
  rw [if_neg h, if_neg h]
  by_cases h : k = 10
  · rw [if_pos h, if_pos h, ev_f, fe_mkrow, hs]
  rw [if_neg h, if_neg h, ev_rowE, hs]
theorem ev_listE {lv : Nat} (hlv : lv ≤ δ.length) (hz : z.eval X δ = t.d) {el : DE} {g : T → D} (hel : ∀ (i a : D) (y : T), el.eval X (δ.take lv ++ [i, y.d, a]) = g y) : (listE lv z el).eval X δ = if t.null then .nil else .list (t.L.map g) := by
  have hf : (DE.fold lv (.f (.get 3) [z]) [.k (.list [])] [.f .app [.v (lv + 2), .f .mklist [el]]] 0).eval X δ = .list (t.L.map g) := by
    rw [fold1_eval (g := fun r a => a.appd (.list [g (toT r)])) (fun _ => True) trivial]
    · rw [ev_get3 hz, rows_encT, ev_k, List.foldl_map]
      have : ∀ (l : List T) (a : List D), l.foldl (fun (x : D) (y : T) => x.appd (D.list [g (toT y.d)])) (D.list a) = D.list (a ++ l.map g) := by
        intro l
        induction l with
        | nil => intro a; simp
        | cons y l ih =>
          intro a
          rw [List.foldl, toT_d]
          show List.foldl _ (D.list (a ++ [g y])) l = _
          rw [ih]; simp
      rw [show (t.l.getD []) = t.L from rfl, this]; simp
    · intro i r a hr _
      rw [ev_get3 hz, rows_encT] at hr
      obtain ⟨y, _, rfl⟩ := List.mem_map.1 hr
      obtain ⟨h1, h2, _⟩ := env_row hlv (.int i) y.d a
      refine ⟨?_, trivial⟩
      rw [ev_f, evs_cons, evs_cons, evs_nil, h2, ev_f, evs_cons, evs_nil, hel, fe_mklist, fe_app, toT_d]
  unfold listE
  rw [ev_f, evs_cons, evs_cons, evs_cons, evs_nil, hf, ev_k, ev_f, evs_cons, evs_nil, ev_get2 hz, fe_not, fe_ite]
  cases t.null <;> rfl
end
mutual
theorem ev_cellF (tg : Bool) : ∀ (f : Fl) (lv : Nat) (δ : List D) (z : DE) (t : T), lv ≤ δ.length → z.eval X δ = t.d → evals X (cellF tg lv f z) δ = dF tg f t
  | .mk k a b nl c d of sub, lv, δ, z, t, hlv, hz => by
    rw [cellF, dF]
    by_cases h : k = 11
    · rw [if_pos h, if_pos h, evs_cons, evs_nil]
      rw [ev_listE hlv hz (g := fun y => elD of (dV of (-1) y (dS tg sub y)) y)]
      intro i a y
      obtain ⟨h1, h2, h3⟩ := env_row hlv i y.d a
      exact ev_elV of h1 (ev_cellV of (-1) h1 (fun _ => ev_cellS tg sub (lv + 3) _ _ y h3 h1))
    · rw [if_neg h, if_neg h]
      exact ev_cellV k nl hz (fun _ => ev_cellS tg sub lv δ z t hlv hz)
theorem ev_cellS (tg : Bool) : ∀ (fs : Option (List Fl)) (lv : Nat) (δ : List D) (z : DE) (t : T), lv ≤ δ.length → z.eval X δ = t.d → evals X (cellS tg lv fs z) δ = dS tg fs t
  | none, lv, δ, z, t, hlv, hz => by
    rw [cellS, dS]
    cases tg
    · rfl
    · rw [if_pos rfl, if_pos rfl, evs_cons, evs_nil, ev_tagsE hlv hz]
  | some l, lv, δ, z, t, hlv, hz => by
    rw [cellS, dS, evals_app, ev_cellL tg l lv 0 δ z t hlv hz]
    cases tg
    · rfl
    · rw [if_pos rfl, if_pos rfl, evs_cons, evs_nil, ev_tagsE hlv hz]
theorem ev_cellL (tg : Bool) : ∀ (l : List Fl) (lv i : Nat) (δ : List D) (z : DE) (t : T), lv ≤ δ.length → z.eval X δ = t.d → evals X (cellL tg lv l i z) δ = dL tg l i t
  | [], _, _, _, _, _, _, _ => by rw [cellL, dL]; rfl
  | f :: r, lv, i, δ, z, t, hlv, hz => by
    rw [cellL, dL, evals_app, ev_cellF tg f lv δ (atE z i) (at' t i) hlv (ev_atE hz i), ev_cellL tg r lv (i + 1) δ z t hlv hz]
end
end Go.Mx

namespace Go.Mx
open Go Go.Dx

/-! ## Writing -/
theorem appD_ne {o : D} {s : List UInt8} (h : 0 < s.length) : app o s = appD o s := by cases s with | nil => simp at h | cons a s => rfl
theorem appD_nil (o : D) : appD o [] = o := rfl
theorem appD_str (o : D) (s : List UInt8) : (appD o s).asStr = o.asStr ++ s := by cases s with | nil => simp [appD] | cons a s => rfl
theorem appD_appD (o : D) (a b : List UInt8) : appD (appD o a) b = appD o (a ++ b) := by
  cases a with
  | nil => rfl
  | cons x a => cases b with
    | nil => simp [appD]
    | cons y b =>
      show app (app o (x :: a)) (y :: b) = app o ((x :: a) ++ (y :: b))
      simp [app, D.asStr]
theorem Uvarint_0 : Uvarint 0 = [0] := by rw [Uvarint]; rfl

/-! fields without tags, no part that may be null -/
mutual
def plainF : Fl → Bool
  | .mk k _ _ nl g _ of sub => decide (g < 0) && (decide (k ≠ 10) || decide (nl < 0)) && (decide (k ≠ 11) || decide (of ≠ 11)) && plainS sub
def plainS : Option (List Fl) → Bool
  | none => true
  | some l => plainL l
def plainL : List Fl → Bool
  | [] => true
  | f :: r => plainF f && plainL r
end
section
variable {δ : List D} {o : DE} {od : D}
theorem ev_headE {cs : List DE} {l : List D} (h : evals X cs δ = l) : (headE cs).eval X δ = l.headD .nil := by
  subst h
  cases cs with
  | nil => rfl
  | cons a cs => rfl
theorem rowBytes_u16 (s : List UInt8) : rowBytes (.row (u16D s)) = sixteen s := by
  unfold rowBytes u16D
  simp only [D.cells, List.map_map]
  conv => rhs; rw [← List.map_id (sixteen s)]
  apply List.map_congr_left
  intro x _
  simp [D.asInt]
theorem Uv_pos {n : Nat} : 0 < (Uvarint n).length := Uvarint_pos n
theorem Fx_pos (n : Int) (k : Nat) (h : 0 < k) : 0 < (Fixed n k).length := by rw [Fixed_len]; exact h
theorem counted_pos (x b : Bool) (n k : Nat) (h : 0 < k) : 0 < (counted x b n k).length := by
  cases x <;> cases b <;> simp [counted, Fixed_len, h]
  exact Uvarint_pos _
theorem cat_pos {a b : List UInt8} (h : 0 < a.length) : 0 < (a ++ b).length := by rw [List.length_append]; omega
theorem ev_wrV {v k nl : Int} (x : Bool) {cs : List DE} {t : T} {sd : List D} {sub : DE} {p : List UInt8} {b : Bool} (hc : evals X cs δ = dV k nl t sd) (ho : o.eval X δ = od) (hs : k = 10 → sub.eval X δ = appD od p)
    (hok : okV v k nl t) (hb : (k = 8 ∨ k = 9) → b = (t.null && (decide (0 ≤ nl) && decide (nl ≤ v)))) : (wrV x k nl v cs o sub).eval X δ = appD od (valueB k b x t p) := by
  have hh := ev_headE hc
  unfold wrV valueB
  unfold dV at hh hc
  by_cases h0 : k = 0
  · simp only [if_pos h0] at hh ⊢
    rw [ev_f, evs_cons, evs_cons, evs_nil, ho, hh, fe_ext, X_2]
    rw [← appD_ne (by simp)]
    show app od [if decide (t.n % 2 = 1) then 1 else 0] = _
    have h2 : t.n % 2 = 0 ∨ t.n % 2 = 1 := by omega
    rcases h2 with h | h <;> rw [h] <;> rfl
  simp only [if_neg h0] at hh hc ⊢
  by_cases h1 : k = 1
  · subst h1
    simp only [if_true] at hh ⊢
    rw [ev_f, evs_cons, evs_cons, evs_nil, ho, hh, fe_ext, X_3, show ((D.int (IntKind.i8.wrap t.n) :: []).headD .nil).asInt = IntKind.i8.wrap t.n from rfl, fixed_i8]
    exact appD_ne (Fx_pos _ _ (by omega))
  simp only [if_neg h1] at hh hc ⊢
  by_cases h2 : k = 2
  · subst h2
    simp only [if_true] at hh ⊢
    rw [ev_f, evs_cons, evs_cons, evs_nil, ho, hh, fe_ext, X_4, show ((D.int (IntKind.i16.wrap t.n) :: []).headD .nil).asInt = IntKind.i16.wrap t.n from rfl, fixed_i16]
    exact appD_ne (Fx_pos _ _ (by omega))
  simp only [if_neg h2] at hh hc ⊢
  by_cases h3 : k = 3
  · subst h3
    simp only [if_true] at hh ⊢
    rw [ev_f, evs_cons, evs_cons, evs_nil, ho, hh, fe_ext, X_6, show ((D.int (IntKind.i32.wrap t.n) :: []).headD .nil).asInt = IntKind.i32.wrap t.n from rfl, fixed_i32]
    exact appD_ne (Fx_pos _ _ (by omega))
  simp only [if_neg h3] at hh hc ⊢
  by_cases h5 : k = 5
  · subst h5
    simp only [if_true] at hh ⊢
    rw [ev_f, evs_cons, evs_cons, evs_nil, ho, hh, fe_ext, X_5, show ((D.int (IntKind.u16.wrap t.n) :: []).headD .nil).asInt = IntKind.u16.wrap t.n from rfl, fixed_u16]
    exact appD_ne (Fx_pos _ _ (by omega))
  simp only [if_neg h5] at hh hc ⊢
  by_cases h7 : k = 7
  · subst h7
    simp only [if_true] at hh hc ⊢
    rw [ev_f, evs_cons, evs_cons, evs_nil, ho, ev_f, hc, fe_mkrow, fe_ext, X_9, rowBytes_u16]
    exact appD_ne (by rw [sixteen_len]; omega)
  simp only [if_neg h7] at hh hc ⊢
  by_cases h8 : k = 8
  · subst h8
    obtain ⟨k1, k2⟩ := hok (.inl rfl)
    have hb := hb (.inl rfl)
    simp only [if_true] at hh hc ⊢
    have ht : t.S.take Most = t.S := List.take_of_length_le k1
    rw [ht]
    by_cases hn : 0 ≤ nl ∧ nl ≤ v
    · rw [if_pos hn]
      have hb : b = t.null := by rw [hb]; simp [hn.1, hn.2]
      rw [if_neg (by omega)] at hh
      rw [hb]
      cases x with
      | true =>
        rw [if_pos rfl, ev_f, evs_cons, evs_cons, evs_nil, ho, hh, fe_ext, X_14]
        cases t.null with
        | true =>
          show app od (Uvarint 0) = appD od (counted true true 0 2 ++ [])
          rw [Uvarint_0]; rfl
        | false =>
          show app od (Uvarint (t.S.length + 1) ++ t.S) = appD od (counted true false t.S.length 2 ++ t.S)
          exact appD_ne (cat_pos Uv_pos)
      | false =>
        rw [if_neg (by decide), ev_f, evs_cons, evs_cons, evs_nil, ho, hh, fe_ext, X_13]
        cases t.null with
        | true =>
          show app od (Fixed (-1) 2) = appD od (counted false true 0 2 ++ [])
          rw [List.append_nil]
          exact appD_ne (Fx_pos _ _ (by omega))
        | false =>
          show app od (Fixed t.S.length 2 ++ t.S) = appD od (counted false false t.S.length 2 ++ t.S)
          exact appD_ne (cat_pos (Fx_pos _ _ (by omega)))
    · rw [if_neg hn]
      have hnl : t.null = false := by
        cases ht : t.null with
        | false => rfl
        | true => exact absurd (k2 ht) hn
      have hb : b = false := by rw [hb, hnl]; rfl
      have ev : (if nl < 0 then headE cs else DE.f .ite [.f .not [.f .isNil [headE cs]], .f (.get 0) [.f .deref [headE cs]], .k (.str [])]).eval X δ = .str t.S := by
        by_cases hn0 : nl < 0
        · rw [if_pos hn0] at hh ⊢; rw [hh]; rfl
        · rw [if_neg hn0] at hh ⊢
          simp only [ev_f, evs_cons, evs_nil, ev_k]
          rw [hh, hnl]; rfl
      rw [hb]
      simp only [Bool.false_eq_true, if_false]
      cases x with
      | true =>
        rw [if_pos rfl, ev_f, evs_cons, evs_cons, evs_nil, ho, ev, fe_ext, X_12]
        exact appD_ne (cat_pos Uv_pos)
      | false =>
        rw [if_neg (by decide), ev_f, evs_cons, evs_cons, evs_nil, ho, ev, fe_ext, X_11]
        exact appD_ne (cat_pos (Fx_pos _ _ (by omega)))
  simp only [if_neg h8] at hh hc ⊢
  by_cases h9 : k = 9
  · subst h9
    obtain ⟨k1, k2⟩ := hok (.inr rfl)
    have hb := hb (.inr rfl)
    simp only [if_true] at hh hc ⊢
    have ht : t.S.take Most = t.S := List.take_of_length_le k1
    rw [ht]
    by_cases hn : 0 ≤ nl ∧ nl ≤ v
    · rw [if_pos hn]
      have hb : b = t.null := by rw [hb]; simp [hn.1, hn.2]
      rw [hb]
      cases x with
      | true =>
        rw [if_pos rfl, ev_f, evs_cons, evs_cons, evs_nil, ho, hh, fe_ext, X_18]
        cases t.null with
        | true =>
          show app od (Uvarint 0) = appD od (counted true true 0 4 ++ [])
          rw [Uvarint_0]; rfl
        | false =>
          show app od (Uvarint (t.S.length + 1) ++ t.S) = appD od (counted true false t.S.length 4 ++ t.S)
          exact appD_ne (cat_pos Uv_pos)
      | false =>
        rw [if_neg (by decide), ev_f, evs_cons, evs_cons, evs_nil, ho, hh, fe_ext, X_17]
        cases t.null with
        | true =>
          show app od (Fixed (-1) 4) = appD od (counted false true 0 4 ++ [])
          rw [List.append_nil]
          exact appD_ne (Fx_pos _ _ (by omega))
        | false =>
          show app od (Fixed t.S.length 4 ++ t.S) = appD od (counted false false t.S.length 4 ++ t.S)
          exact appD_ne (cat_pos (Fx_pos _ _ (by omega)))
    · rw [if_neg hn]
      have hnl : t.null = false := by
        cases ht : t.null with
        | false => rfl
        | true => exact absurd (k2 ht) hn
      have hb : b = false := by rw [hb, hnl]; rfl
      rw [hnl] at hh
      rw [hb]
      simp only [Bool.false_eq_true, if_false]
      cases x with
      | true =>
        rw [if_pos rfl, ev_f, evs_cons, evs_cons, evs_nil, ho, hh, fe_ext, X_16]
        exact appD_ne (cat_pos Uv_pos)
      | false =>
        rw [if_neg (by decide), ev_f, evs_cons, evs_cons, evs_nil, ho, hh, fe_ext, X_15]
        exact appD_ne (cat_pos (Fx_pos _ _ (by omega)))
  simp only [if_neg h9] at hh hc ⊢
  by_cases h10 : k = 10
  · simp only [if_pos h10]
    exact hs h10
  simp only [if_neg h10] at hh ⊢
  have hw : (width k).toNat = 8 := by unfold width; rw [if_neg h1, if_neg (by omega), if_neg h3]; rfl
  rw [ev_f, evs_cons, evs_cons, evs_nil, ho, hh, fe_ext, X_7, hw]
  exact appD_ne (Fx_pos _ _ (by omega))
theorem ev_wrLen {v nl : Int} (x : Bool) {c : DE} {t : T} {g : T → D} (hc : c.eval X δ = if t.null then .nil else .list (t.L.map g)) (ho : o.eval X δ = od)
    (hn : t.null = true → 0 ≤ nl ∧ nl ≤ v) {b : Bool} (hb : b = (t.null && (decide (0 ≤ nl) && decide (nl ≤ v)))) : (wrLen x nl v c o).eval X δ = appD od (counted x b (if b then 0 else t.L.length) 4) := by
  unfold wrLen
  by_cases h : 0 ≤ nl ∧ nl ≤ v
  · have hb : b = t.null := by rw [hb]; simp [h.1, h.2]
    rw [hb, if_pos h, ev_f, evs_cons, evs_cons, evs_cons, evs_nil, ev_f, ev_f, evs_cons, evs_nil, ho, hc, fe_len, fe_isNil, fe_ext]
    cases x with
    | true =>
      rw [if_pos rfl, X_22]
      cases t.null with
      | true =>
        show app od (Uvarint 0) = appD od (counted true true _ 4)
        rw [Uvarint_0]; rfl
      | false =>
        show app od (Uvarint ((t.L.map g).length + 1)) = appD od (Uvarint (t.L.length + 1))
        rw [List.length_map]
        exact appD_ne Uv_pos
    | false =>
      rw [if_neg (by decide), X_21]
      cases t.null with
      | true =>
        show app od (Fixed (-1) 4) = appD od (Fixed (-1) 4)
        exact appD_ne (Fx_pos _ _ (by omega))
      | false =>
        show app od (Fixed ((t.L.map g).length : Nat) 4) = appD od (Fixed t.L.length 4)
        rw [List.length_map]
        exact appD_ne (Fx_pos _ _ (by omega))
  · have hnl : t.null = false := by
      cases ht : t.null with
      | false => rfl
      | true => exact absurd (hn ht) h
    have hb : b = false := by rw [hb, hnl]; rfl
    rw [hnl] at hc
    rw [hb, if_neg h, ev_f, evs_cons, evs_cons, evs_nil, ev_f, evs_cons, evs_nil, ho, hc, fe_len, fe_ext]
    cases x with
    | true =>
      rw [if_pos rfl, X_20]
      show app od (Uvarint ((t.L.map g).length + 1)) = appD od (Uvarint (t.L.length + 1))
      rw [List.length_map]
      exact appD_ne Uv_pos
    | false =>
      rw [if_neg (by decide), X_19]
      show app od (Fixed ((t.L.map g).length : Nat) 4) = appD od (Fixed t.L.length 4)
      rw [List.length_map]
      exact appD_ne (Fx_pos _ _ (by omega))
/-! ### tags -/
theorem insM_last (k : Int) (d : D) : ∀ (l : List (Int × D)), (∀ y ∈ l, y.1 < k) → insM k d l = l ++ [(k, d)]
  | [], _ => rfl
  | x :: r, h => by
    rw [insM, if_pos (h x (by simp)), insM_last k d r (fun y hy => h y (by simp [hy]))]; rfl
theorem tagD_fold : ∀ (u : List Tg) (a : D), SrtT u → (∀ x ∈ mapL a, ∀ y ∈ u, x.1 < y.key) → mapL (u.foldl (fun m x => .map (insM x.key (encB x.val) (mapL m))) a) = mapL a ++ u.map fun x => (x.key, encB x.val)
  | [], a, _, _ => by simp
  | x :: r, a, h, hk => by
    obtain ⟨h1, h2⟩ := List.pairwise_cons.1 h
    have e : insM x.key (encB x.val) (mapL a) = mapL a ++ [(x.key, encB x.val)] := insM_last _ _ _ (fun y hy => hk y hy x (by simp))
    rw [List.foldl, tagD_fold r _ h2 (fun y hy z hz => by
      have hy : y ∈ insM x.key (encB x.val) (mapL a) := hy
      rw [e] at hy
      rcases List.mem_append.1 hy with hy | hy
      · exact hk y hy z (by simp [hz])
      · rw [List.mem_singleton] at hy; subst hy; exact h1 z hz)]
    show insM x.key (encB x.val) (mapL a) ++ _ = _
    rw [e]; simp
theorem tagD_L {u : List Tg} (h : SrtT u) : mapL (tagD u) = u.map fun x => (x.key, encB x.val) := by
  have := tagD_fold u .nil h (fun x hx => by cases hx)
  rw [tagD, this]; rfl
def tagsW (u : List Tg) : List UInt8 := Uvarint u.length ++ (u.map unkB).flatten
theorem ev_wrTags (x : Bool) {c : DE} {u : List Tg} {p : List UInt8} (hc : x = true → c.eval X δ = tagD u) (ho : o.eval X δ = appD od p) (hu : okTags u) : (wrTags x c o).eval X δ = appD od (if x then p ++ tagsW u else p) := by
  cases x with
  | false => exact ho
  | true =>
    have hc := hc rfl
    obtain ⟨h1, h2, h3⟩ := hu
    have hL := tagD_L h1
    have hlen : (mapL (tagD u)).length = u.length := by rw [hL, List.length_map]
    unfold wrTags
    rw [if_pos rfl, if_pos rfl]
    have e10 : (DE.f (.ext 10) [o, .f (.add .u32) [.k (.int 0), .f (.wrap .u32) [.f (.ext 24) [c]]]]).eval X δ = appD od (p ++ Uvarint u.length) := by
      simp only [ev_f, evs_cons, evs_nil, ev_k]
      rw [hc, ho, fe_ext, fe_ext, X_24, hlen, fe_wrap, fe_add, X_10, int_i]
      have e : IntKind.u32.wrap (0 + IntKind.u32.wrap (u.length : Int)) = u.length := by
        rw [wrapu32 (x := (u.length : Int)) (by omega) (by simp [Most] at h2; omega), Int.zero_add, wrapu32 (by omega) (by simp [Most] at h2; omega)]
      rw [e, Int.toNat_natCast, appD_ne Uv_pos, appD_appD]
    rw [ev_f, evs_cons, evs_cons, evs_nil, e10, hc, fe_ext, X_25, hL]
    cases u with
    | nil => show appD od (p ++ Uvarint 0) = appD od (p ++ (Uvarint 0 ++ [])); rw [List.append_nil]
    | cons a u =>
      rw [if_neg (by simp)]
      have ef : (((a :: u).map fun x => (x.key, encB x.val)).map fun x => tagB x.1.toNat x.2.asStr).flatten = ((a :: u).map unkB).flatten := by
        rw [List.map_map]
        congr 1
        apply List.map_congr_left
        intro y hy
        obtain ⟨q1, q2, q3⟩ := h3 y hy
        show tagB y.key.toNat (encB y.val).asStr = tagB (IntKind.u64.wrap y.key).toNat ((y.val.getD []).take Most)
        rw [asStr_encB, List.take_of_length_le q3, IntKind.wrap_u64, Int.emod_eq_of_lt q1 (by omega)]
      rw [ef]
      have hpos : 0 < (((a :: u).map unkB).flatten).length := by
        rw [List.map_cons, List.flatten_cons]
        exact cat_pos (by rw [unkB, tagB]; exact cat_pos (cat_pos Uv_pos))
      rw [appD_ne hpos, appD_appD, tagsW, List.append_assoc]
theorem fold1L {lv : Nat} {s i0 b : DE} {A : Type} {L : List A} {e : A → D} {h : A → D → D} (hs : (s.eval X δ).rows = L.map e) (hb : ∀ (i a : D) y, y ∈ L → b.eval X (δ.take lv ++ [i, e y, a]) = h y a) :
    (DE.fold lv s [i0] [b] 0).eval X δ = L.foldl (fun a y => h y a) (i0.eval X δ) := by
  rw [DE.eval]
  have key : ∀ (l : List A) (i : Nat) (a : D), (∀ y ∈ l, y ∈ L) → foldRows (fun i r acc => evals X [b] (δ.take lv ++ (.int i :: r :: acc))) i (l.map e) [a] = [l.foldl (fun a y => h y a) a] := by
    intro l
    induction l with
    | nil => intro i a _; rfl
    | cons y l ih =>
      intro i a hl
      simp only [List.map_cons, foldRows, List.foldl]
      have h1 := hb (.int i) a y (hl y (by simp))
      have e1 : evals X [b] (δ.take lv ++ (.int i :: e y :: [a])) = [h y a] := by rw [evs_cons, evs_nil, h1]
      rw [e1]
      exact ih (i + 1) _ (fun r hr => hl r (by simp [hr]))
  have e9 := key L 0 (i0.eval X δ) (fun _ h => h)
  rw [hs]
  show (foldRows (fun i r acc => evals X [b] (δ.take lv ++ (.int i :: r :: acc))) 0 (L.map e) [i0.eval X δ]).getD 0 .nil = _
  rw [e9]; rfl
end
theorem foldl_appD {A : Type} (w : A → List UInt8) : ∀ (l : List A) (o : D), l.foldl (fun a y => appD a (w y)) o = appD o ((l.map w).flatten)
  | [], o => rfl
  | y :: l, o => by
    rw [List.foldl, foldl_appD w l, appD_appD]; rfl
theorem evals_take (l : List DE) (n : Nat) (δ : List D) : evals X (l.take n) δ = (evals X l δ).take n := by rw [evals_eq, evals_eq, List.map_take]
theorem evals_drop (l : List DE) (n : Nat) (δ : List D) : evals X (l.drop n) δ = (evals X l δ).drop n := by rw [evals_eq, evals_eq, List.map_drop]
theorem dV_len (k nl : Int) (t : T) (sd : List D) (tg : Bool) (sub : Option (List Fl)) (h : sd.length = wdS tg sub) : (dV k nl t sd).length = wdV tg k sub := by
  unfold dV wdV
  by_cases h7 : k = 7
  · subst h7
    simp only [show ¬ ((7 : Int) = 0) by decide, show ¬ ((7 : Int) = 1) by decide, show ¬ ((7 : Int) = 2) by decide, show ¬ ((7 : Int) = 3) by decide, show ¬ ((7 : Int) = 5) by decide, if_true, if_false]
    exact u16_len _
  by_cases h10 : k = 10
  · subst h10
    simp only [show ¬ ((10 : Int) = 0) by decide, show ¬ ((10 : Int) = 1) by decide, show ¬ ((10 : Int) = 2) by decide, show ¬ ((10 : Int) = 3) by decide, show ¬ ((10 : Int) = 5) by decide, show ¬ ((10 : Int) = 7) by decide, show ¬ ((10 : Int) = 8) by decide, show ¬ ((10 : Int) = 9) by decide, if_true, if_false]
    exact h
  rw [if_neg h7, if_neg h7, if_neg h10, if_neg h10]
  repeat (first | rfl | split)
mutual
theorem dF_len (tg : Bool) : ∀ (f : Fl) (t : T), (dF tg f t).length = wdF tg f
  | .mk k a b nl c d of sub, t => by
    rw [dF, wdF]
    by_cases h : k = 11
    · subst h; rfl
    · rw [if_neg h, dV_len k nl t _ tg sub (dS_len tg sub t)]; rfl
theorem dS_len (tg : Bool) : ∀ (fs : Option (List Fl)) (t : T), (dS tg fs t).length = wdS tg fs
  | none, t => by rw [dS, wdS]; cases tg <;> rfl
  | some l, t => by rw [dS, wdS, List.length_append, dL_len tg l 0 t]; cases tg <;> rfl
theorem dL_len (tg : Bool) : ∀ (l : List Fl) (i : Nat) (t : T), (dL tg l i t).length = wdL tg l
  | [], _, _ => by rw [dL, wdL]; rfl
  | f :: r, i, t => by rw [dL, wdL, List.length_append, dF_len tg f, dL_len tg r]
end
end Go.Mx

namespace Go.Mx
open Go Go.Dx

theorem gets_all {δ : List D} {r : DE} {l : List D} (hr : (r.eval X δ).cells = l) : evals X (getsE r l.length) δ = l := by
  rw [getsE, evals_map]
  conv => rhs; rw [← range_getD l]
  apply List.map_congr_left
  intro j _
  rw [ev_f, evs_cons, evs_nil, fe_get, hr]
theorem cells_elD (k : Int) (t : T) (sd : List D) : (elD k (dV k (-1) t sd) t).cells = dV k (-1) t sd := by
  unfold elD
  by_cases h7 : k = 7
  · subst h7
    rw [if_pos rfl]; rfl
  rw [if_neg h7]
  by_cases h10 : k = 10
  · rw [if_pos h10]; rfl
  rw [if_neg h10]
  unfold dV
  rw [if_neg h7, if_neg h10]
  by_cases h8 : k = 8
  · subst h8; rfl
  by_cases h9 : k = 9
  · subst h9
    simp only [show ¬ ((9 : Int) = 0) by decide, show ¬ ((9 : Int) = 1) by decide, show ¬ ((9 : Int) = 2) by decide, show ¬ ((9 : Int) = 3) by decide, show ¬ ((9 : Int) = 5) by decide, show ¬ ((9 : Int) = 8) by decide, if_true, if_false]
    cases t.null <;> rfl
  rw [if_neg h8, if_neg h9]
  repeat (first | rfl | split)
theorem plainF_mk {k a b nl g d of : Int} {sub : Option (List Fl)} (h : plainF (.mk k a b nl g d of sub) = true) : g < 0 ∧ (k = 10 → nl < 0) ∧ (k = 11 → of ≠ 11) ∧ plainS sub = true := by
  simp only [plainF, Bool.and_eq_true, Bool.or_eq_true, decide_eq_true_eq] at h
  obtain ⟨⟨⟨h1, h2⟩, h3⟩, h4⟩ := h
  exact ⟨h1, fun e => by omega, fun e => by omega, h4⟩
theorem plainL_all : ∀ {l : List Fl}, plainL l = true → ∀ f ∈ l, plainF f = true
  | a :: l, h, f, hf => by
    simp only [plainL, Bool.and_eq_true] at h
    rcases List.mem_cons.1 hf with rfl | hf
    · exact h.1
    · exact plainL_all h.2 f hf
theorem plain_tag {f : Fl} (h : plainF f = true) : f.tag < 0 := by cases f; exact (plainF_mk h).1
theorem known_plain {l : List Fl} (h : plainL l = true) : known l = 0 := by
  unfold known
  have : ∀ (l : List Fl) (n : Nat), plainL l = true → l.foldl (fun n f => if 0 ≤ f.tag then max n (f.tag.toNat + 1) else n) n = n := by
    intro l
    induction l with
    | nil => intro n _; rfl
    | cons f r ih =>
      intro n h
      simp only [plainL, Bool.and_eq_true] at h
      have := plain_tag h.1
      rw [List.foldl, if_neg (by omega)]
      exact ih n h.2
  exact this l 0 h
theorem unk_self (fs : List Fl) (u : Option (List Tg)) (h : SrtT (u.getD [])) (hk : ∀ y ∈ u.getD [], (known fs : Int) ≤ y.key) (hl : (u.getD []).length ≤ Most) : unknown fs u = u.getD [] := by
  unfold unknown
  rw [List.take_of_length_le hl]
  have := unk_again (known fs) (u.getD []) [] (by simpa using h) hk
  simpa using this
theorem unk_plain {fs : Option (List Fl)} {t : T} (hp : plainS fs = true) (h : okTags t.U) : unknown (fs.getD []) t.u = t.U := by
  obtain ⟨h1, h2, h3⟩ := h
  have hk : known (fs.getD []) = 0 := by
    cases fs with
    | none => rfl
    | some l => exact known_plain hp
  exact unk_self _ t.u h1 (fun y hy => by rw [hk]; exact (h3 y hy).1) h2
theorem partS_plain {fs : Option (List Fl)} {t : T} (hp : plainS fs = true) (h : okTags t.U) (v : Int) (x : Bool) : partS fs v x t = if x then outP (fs.getD []) v x t ++ tagsW t.U else outP (fs.getD []) v x t := by
  have hk : known (fs.getD []) = 0 := by
    cases fs with
    | none => rfl
    | some l => exact known_plain hp
  cases x with
  | false => rw [partS_false]; rfl
  | true =>
    rw [partS_true, if_pos rfl]
    have e1 : tags1 (fs.getD []) v true t = [] := by rw [tags1, hk]; rfl
    rw [tagsP, e1, List.nil_append, tags2, unk_plain hp h, List.length_map, List.append_assoc]
    rfl
theorem okS_tags {v : Int} {fs : Option (List Fl)} {t : T} (h : okS v fs t) : okTags t.U := by
  cases fs with
  | none => exact h
  | some l => exact h.1
/-! ### what is written is what the protocol says -/
mutual
theorem ev_wrF {tg x : Bool} {v : Int} (hx : x = true → tg = true) : ∀ (f : Fl) (lv : Nat) (δ : List D) (cs : List DE) (o : DE) (t : T) (od : D), plainF f = true → lv ≤ δ.length → evals X cs δ = dF tg f t → o.eval X δ = od → okF v f t → (wrF tg v x lv f cs o).eval X δ = appD od (field f v x t)
  | .mk k a b nl g df of sub, lv, δ, cs, o, t, od, hp, hlv, hc, ho, hok => by
    obtain ⟨_, hp10, hp11, hps⟩ := plainF_mk hp
    rw [field_eq]
    simp only [Fl.kind, Fl.null, Fl.of, Fl.sub]
    rw [wrF]
    unfold fieldB
    by_cases h : k = 11
    · have hof := hp11 h
      subst h
      rw [if_pos rfl, if_pos rfl]
      rw [dF, if_pos rfl] at hc
      rw [okF, if_pos rfl] at hok
      obtain ⟨q1, q2, q3⟩ := hok
      have hh := ev_headE hc
      have hh : (headE cs).eval X δ = if t.null then .nil else .list (t.L.map fun y => elD of (dV of (-1) y (dS tg sub y)) y) := hh
      have hlen := ev_wrLen x hh ho q2 (b := Mx.null (.mk 11 a b nl g df of sub) v t) rfl
      have hbody : ∀ (i aa : D) (y : T), y ∈ t.L → (wrV x of (-1) v (getsE (.v (lv + 1)) (wdV tg of sub)) (.v (lv + 2)) (wrS tg v x (lv + 3) sub (getsE (.v (lv + 1)) (wdV tg of sub)) (.v (lv + 2)))).eval X (δ.take lv ++ [i, elD of (dV of (-1) y (dS tg sub y)) y, aa]) = appD aa (valueB of false x y (partS sub v x y)) := by
        intro i aa y hy
        obtain ⟨e1, e2, e3⟩ := env_row hlv i (elD of (dV of (-1) y (dS tg sub y)) y) aa
        have hcells := cells_elD of y (dS tg sub y)
        have hgets : evals X (getsE (.v (lv + 1)) (wdV tg of sub)) (δ.take lv ++ [i, elD of (dV of (-1) y (dS tg sub y)) y, aa]) = dV of (-1) y (dS tg sub y) := by
          have := gets_all (r := .v (lv + 1)) (δ := δ.take lv ++ [i, elD of (dV of (-1) y (dS tg sub y)) y, aa]) (l := dV of (-1) y (dS tg sub y)) (by rw [e1]; exact hcells)
          rwa [dV_len of (-1) y _ tg sub (dS_len tg sub y)] at this
        obtain ⟨o1, o2⟩ := q3 y hy
        refine ev_wrV x hgets e2 (fun h10 => ?_) o1 (fun _ => by simp)
        have hsd : dV of (-1) y (dS tg sub y) = dS tg sub y := by subst h10; rfl
        rw [hsd] at hgets
        exact ev_wrS hx sub (lv + 3) _ _ _ y _ hps e3 (by rw [hsd]; exact hgets) e2 (o2 h10)
      cases hn : t.null with
      | true =>
        obtain ⟨n1, n2⟩ := q2 hn
        have hb : Mx.null (.mk 11 a b nl g df of sub) v t = true := by rw [null_eq, hn]; simp [Fl.null, n1, n2]
        rw [hb] at hlen ⊢
        rw [hn] at hh
        rw [fold1L (L := ([] : List T)) (e := fun y => elD of (dV of (-1) y (dS tg sub y)) y) (h := fun y a => a) (by rw [hh]; rfl) (fun _ _ y hy => by cases hy)]
        show (wrLen x nl v (headE cs) o).eval X δ = _
        rw [hlen]
        simp
      | false =>
        have hb : Mx.null (.mk 11 a b nl g df of sub) v t = false := by rw [null_eq, hn]; rfl
        rw [hb] at hlen ⊢
        rw [hn] at hh
        rw [fold1L (L := t.L) (e := fun y => elD of (dV of (-1) y (dS tg sub y)) y) (h := fun y a => appD a (valueB of false x y (partS sub v x y))) (by rw [hh]; rfl) hbody]
        rw [foldl_appD, hlen, appD_appD]
        simp only [Bool.false_eq_true, if_false]
        rw [List.take_of_length_le q1]
    · rw [if_neg h, if_neg h]
      rw [dF, if_neg h] at hc
      rw [okF, if_neg h] at hok
      obtain ⟨o1, o2⟩ := hok
      rw [if_neg (fun e => by have := hp10 e.1; omega)]
      refine ev_wrV x hc ho (fun h10 => ?_) o1 (fun _ => rfl)
      have hsd : dV k nl t (dS tg sub t) = dS tg sub t := by subst h10; rfl
      rw [hsd] at hc
      exact ev_wrS hx sub lv δ cs o t od hps hlv hc ho (o2 h10)
theorem ev_wrS {tg x : Bool} {v : Int} (hx : x = true → tg = true) : ∀ (fs : Option (List Fl)) (lv : Nat) (δ : List D) (cs : List DE) (o : DE) (t : T) (od : D), plainS fs = true → lv ≤ δ.length → evals X cs δ = dS tg fs t → o.eval X δ = od → okS v fs t → (wrS tg v x lv fs cs o).eval X δ = appD od (partS fs v x t)
  | none, lv, δ, cs, o, t, od, hp, hlv, hc, ho, hok => by
    rw [partS_plain hp hok, wrS]
    refine ev_wrTags x (fun hxt => ?_) ho hok
    rw [dS, hx hxt, if_pos rfl] at hc
    exact ev_headE hc
  | some l, lv, δ, cs, o, t, od, hp, hlv, hc, ho, hok => by
    rw [partS_plain hp (okS_tags hok), wrS]
    rw [dS] at hc
    have h1 := ev_wrL hx l lv 0 δ cs o t od _ hp hlv hc ho hok.2
    refine ev_wrTags x (fun hxt => ?_) h1 (okS_tags hok)
    have hd : evals X (cs.drop (wdL tg l)) δ = [tagD t.U] := by
      rw [evals_drop, hc, hx hxt, if_pos rfl, ← dL_len true l 0 t, List.drop_left]
    exact ev_headE hd
theorem ev_wrL {tg x : Bool} {v : Int} (hx : x = true → tg = true) : ∀ (l : List Fl) (lv i : Nat) (δ : List D) (cs : List DE) (o : DE) (t : T) (od : D) (rest : List D), plainL l = true → lv ≤ δ.length → evals X cs δ = dL tg l i t ++ rest → o.eval X δ = od → okL v l i t → (wrL tg v x lv l cs o).eval X δ = appD od ((mapI (fun i f => cellO v (rowP v x t i f)) i l).flatten)
  | [], lv, i, δ, cs, o, t, od, rest, hp, hlv, hc, ho, hok => by rw [wrL, ho]; rfl
  | f :: r, lv, i, δ, cs, o, t, od, rest, hp, hlv, hc, ho, hok => by
    simp only [plainL, Bool.and_eq_true] at hp
    rw [okL] at hok
    rw [wrL]
    rw [dL, List.append_assoc] at hc
    have ht : evals X (cs.take (wdF tg f)) δ = dF tg f (at' t i) := by rw [evals_take, hc, ← dF_len tg f (at' t i), List.take_left]
    have hd : evals X (cs.drop (wdF tg f)) δ = dL tg r (i + 1) t ++ rest := by rw [evals_drop, hc, ← dF_len tg f (at' t i), List.drop_left]
    have h1 : (if f.tag < 0 ∧ has f v = true then wrF tg v x lv f (cs.take (wdF tg f)) o else o).eval X δ = appD od (cellO v (rowP v x t i f)) := by
      unfold cellO rowP
      by_cases h : f.tag < 0 ∧ has f v = true
      · rw [if_pos h, if_pos h]
        exact ev_wrF hx f lv δ _ o (at' t i) od hp.1 hlv ht ho hok.1
      · rw [if_neg h, if_neg h, ho]; rfl
    rw [ev_wrL hx r lv (i + 1) δ _ _ t _ rest hp.2 hlv hd h1 hok.2, appD_appD]
    rfl
end
end Go.Mx

namespace Go.Mx
open Go Go.Dx

/-! ## What is to be held on the way -/
mutual
/-- things that are not large -/
def smallF (tg : Bool) : Fl → Bool
  | .mk _ _ _ _ _ _ of sub => decide ((szV of (-1) (szS tg sub)).1 ≤ 100000) && smallS tg sub
def smallS (tg : Bool) : Option (List Fl) → Bool
  | none => true
  | some l => smallL tg l
def smallL (tg : Bool) : List Fl → Bool
  | [] => true
  | f :: r => smallF tg f && smallL tg r
end
section
variable {δ : List D} {P : Nat → List D → Prop}
theorem obs_nil : obsHold X P [] δ := trivial
theorem obs_one {o : Ob} (h : o.holds X P δ) : obsHold X P [o] δ := ⟨h, trivial⟩
theorem obs_cons {o : Ob} {l : List Ob} (h : o.holds X P δ) (h2 : obsHold X P l δ) : obsHold X P (o :: l) δ := ⟨h, h2⟩
theorem obs_app {a b : List Ob} (h : obsHold X P a δ) (h2 : obsHold X P b δ) : obsHold X P (a ++ b) δ := obsHold_append.2 ⟨h, h2⟩
theorem foldI_c {A S : Type} (f : A → S → S) (l : List A) (s : S) : foldI (fun _ a s => f a s) 0 l s = l.foldl (fun s a => f a s) s := foldI_const f l 0 s
theorem all1L {s i0 b : DE} {A : Type} {L : List A} {e : A → D} {h : A → D → D} {os : List Ob} (hs : (s.eval X δ).rows = L.map e) (hb : ∀ (i a : D) y, y ∈ L → b.eval X (δ ++ [i, e y, a]) = h y a)
    (ho : ∀ (k : Nat) (y : A), L[k]? = some y → obsHold X P os (δ ++ [.int k, e y, (L.take k).foldl (fun a y => h y a) (i0.eval X δ)])) : (Ob.all s [i0] [b] os).holds X P δ := by
  have hF : Folds X δ δ.length s [i0] [b] e (fun a => [a]) (fun _ y a => h y a) L (i0.eval X δ) := ⟨List.take_length, hs, rfl, fun i a st hi _ => by
    rw [evs_cons, evs_nil, hb _ _ _ (List.mem_of_getElem? hi)]⟩
  refine hF.all (fun k y hk => ?_)
  rw [foldI_c]
  exact ho k y hk
end
section
variable {δ : List D}
theorem insM_len (k : Int) (d : D) : ∀ l : List (Int × D), (insM k d l).length ≤ l.length + 1
  | [] => by simp [insM]
  | x :: r => by
    have := insM_len k d r
    rw [insM]
    split
    · simp; omega
    · split <;> simp
theorem tag_len : ∀ (u : List Tg) (a : D), (mapL (u.foldl (fun m x => D.map (insM x.key (encB x.val) (mapL m))) a)).length ≤ (mapL a).length + u.length
  | [], a => by simp
  | x :: u, a => by
    rw [List.foldl]
    have h1 := tag_len u (D.map (insM x.key (encB x.val) (mapL a)))
    have h2 := insM_len x.key (encB x.val) (mapL a)
    have h3 : (mapL (D.map (insM x.key (encB x.val) (mapL a)))).length = (insM x.key (encB x.val) (mapL a)).length := rfl
    simp only [List.length_cons]
    omega
theorem ob_tags {lv : Nat} {z : DE} {t : T} (hlv : lv = δ.length) (hz : z.eval X δ = t.d) (hu : okTags t.U) : (obTags lv z).holds X side δ := by
  subst hlv
  unfold obTags
  have env : ∀ (i r a : D), (DE.v (δ.length + 1)).eval X (δ ++ [i, r, a]) = r ∧ (DE.v (δ.length + 2)).eval X (δ ++ [i, r, a]) = a := fun i r a => by
    have := env_row (δ := δ) (Nat.le_refl _) i r a
    rw [List.take_length] at this
    exact ⟨this.1, this.2.1⟩
  refine all1L (L := t.U) (e := Tg.d) (h := fun y a => .map (insM y.key (encB y.val) (mapL a))) (by rw [ev_get4 hz, rows_encU]; rfl) (fun i a y _ => ?_) (fun k y hk => obs_one ?_)
  · obtain ⟨e1, e2⟩ := env i y.d a
    rw [ev_f, evs_cons, evs_cons, evs_cons, evs_nil, e2, ev_f, ev_f, evs_cons, evs_nil, e1, fe_get, fe_get, fe_ext, X_23]; rfl
  · simp only [Ob.holds]
    obtain ⟨e1, e2⟩ := env (.int k) y.d ((t.U.take k).foldl (fun a y => .map (insM y.key (encB y.val) (mapL a))) ((DE.k .nil).eval X δ))
    rw [evs_cons, evs_cons, evs_cons, evs_nil, e2]
    show (insM _ _ (mapL _)).length ≤ lim
    refine Nat.le_trans (insM_len _ _ _) ?_
    have h1 := tag_len (t.U.take k) ((DE.k .nil).eval X δ)
    have h2 : (mapL ((DE.k .nil).eval X δ)).length = 0 := rfl
    have h3 : (t.U.take k).length ≤ t.U.length := by simp; omega
    have h4 := hu.2.1
    simp only [Most] at h4
    simp only [lim]
    omega
theorem obs_tagsIf {tg : Bool} {lv : Nat} {z : DE} {t : T} (hlv : lv = δ.length) (hz : z.eval X δ = t.d) (hu : okTags t.U) : obsHold X side (if tg then [obTags lv z] else []) δ := by
  cases tg with
  | false => trivial
  | true => exact obs_one (ob_tags hlv hz hu)
theorem ob_pre1 {z : DE} (i : Nat) : (Ob.pre 1 [z, .k (.int i)]).holds X side δ := by
  simp only [Ob.holds, evs_cons, evs_nil, ev_k]
  rw [side_1]; simp only [int_i]; omega
theorem obs_obV {v k nl : Int} {z : DE} {t : T} {sub : List Ob} (hz : z.eval X δ = t.d) (hok : okV v k nl t) (hs : k = 10 → obsHold X side sub δ) : obsHold X side (obV k nl z sub) δ := by
  unfold obV
  by_cases h7 : k = 7
  · rw [if_pos h7]
    exact obs_one trivial
  rw [if_neg h7]
  by_cases h8 : k = 8
  · rw [if_pos h8]
    split
    · trivial
    · exact obs_one trivial
  rw [if_neg h8]
  by_cases h9 : k = 9
  · rw [if_pos h9]
    refine obs_one ?_
    simp only [Ob.holds, evs_cons, evs_nil]
    rw [hz]
    show (X 27 [t.d]).len ≤ lim
    rw [X_27, toT_d]
    have := (hok (.inr h9)).1
    simp only [Most] at this
    cases t.null
    · show t.S.length ≤ lim
      simp only [lim]; omega
    · exact Nat.zero_le _
  rw [if_neg h9]
  by_cases h10 : k = 10
  · rw [if_pos h10]; exact hs h10
  · rw [if_neg h10]; trivial
end
mutual
theorem obs_F {tg : Bool} {v : Int} : ∀ (f : Fl) (lv : Nat) (δ : List D) (s : DE) (t : T) (i : Nat), smallF tg f = true → lv = δ.length → s.eval X δ = t.d → okF v f (at' t i) → obsHold X side (obF tg lv f s i) δ
  | .mk k a b nl g df of sub, lv, δ, s, t, i, hsm, hlv, hs, hok => by
    have hz := ev_atE hs i
    simp only [smallF, Bool.and_eq_true, decide_eq_true_eq] at hsm
    rw [obF]
    by_cases h : k = 11
    · subst h
      rw [okF, if_pos rfl] at hok
      obtain ⟨q1, q2, q3⟩ := hok
      simp only [if_true]
      have hL : (at' t i).L.length ≤ 32767 := q1
      refine obs_cons ?_ (obs_one (ob_pre1 i))
      simp only [Ob.holds]
      intro _
      refine obs_cons ?_ (obs_cons (ob_pre1 i) (obs_cons ?_ (obs_one (ob_pre1 i))))
      · subst hlv
        have env : ∀ (i r a : D), (DE.v (δ.length + 1)).eval X (δ ++ [i, r, a]) = r ∧ (DE.v (δ.length + 2)).eval X (δ ++ [i, r, a]) = a := fun i r a => by
          have := env_row (δ := δ) (Nat.le_refl _) i r a
          rw [List.take_length] at this
          exact ⟨this.1, this.2.1⟩
        have hlen : ∀ (i r a : D), δ.length + 3 = (δ ++ [i, r, a]).length := fun i r a => by simp
        have hel : ∀ (i a : D) (y : T), (DE.f .app [.v (δ.length + 2), .f .mklist [elV of (cellV (δ.length + 3) of (-1) (.v (δ.length + 1)) (cellS tg (δ.length + 3) sub (.v (δ.length + 1)))) (.v (δ.length + 1))]]).eval X (δ ++ [i, y.d, a]) = a.appd (.list [elD of (dV of (-1) y (dS tg sub y)) y]) := fun i a y => by
          obtain ⟨e1, e2⟩ := env i y.d a
          rw [ev_f, evs_cons, evs_cons, evs_nil, e2, ev_f, evs_cons, evs_nil, fe_mklist, fe_app]
          rw [ev_elV of e1 (ev_cellV of (-1) e1 (fun _ => ev_cellS tg sub (δ.length + 3) _ _ y (Nat.le_of_eq (hlen _ _ _)) e1))]
        have acc : ∀ (l : List T) (a : List D), l.foldl (fun (a : D) (y : T) => a.appd (.list [elD of (dV of (-1) y (dS tg sub y)) y])) (.list a) = .list (a ++ l.map fun y => elD of (dV of (-1) y (dS tg sub y)) y) := by
          intro l
          induction l with
          | nil => intro a; simp
          | cons y l ih =>
            intro a
            rw [List.foldl]
            show List.foldl _ (D.list (a ++ [elD of (dV of (-1) y (dS tg sub y)) y])) l = _
            rw [ih]; simp
        refine all1L (L := (at' t i).L) (e := T.d) (h := fun y a => a.appd (.list [elD of (dV of (-1) y (dS tg sub y)) y])) (by rw [ev_get3 hz, rows_encT]; rfl) (fun j aa y _ => hel j aa y) (fun kk y hk => ?_)
        have hkl : kk < (at' t i).L.length := (List.getElem?_eq_some_iff.1 hk).1
        obtain ⟨o1, o2⟩ := q3 y (List.mem_of_getElem? hk)
        rw [ev_k, acc, List.nil_append]
        obtain ⟨e1, e2⟩ := env (.int kk) y.d (.list (((at' t i).L.take kk).map fun y => elD of (dV of (-1) y (dS tg sub y)) y))
        refine obs_cons ?_ (obs_obV e1 o1 (fun h10 => obs_S sub _ _ _ y hsm.2 (hlen _ _ _) e1 (o2 h10)))
        simp only [Ob.holds]
        rw [hel]
        show ((_ ++ [_] : List D)).length * _ ≤ LIM ∧ ((_ ++ [_] : List D)).length ≤ maxLen
        have hl2 : ((((at' t i).L.take kk).map fun y => elD of (dV of (-1) y (dS tg sub y)) y) ++ [elD of (dV of (-1) y (dS tg sub y)) y]).length ≤ 32767 := by simp; omega
        refine ⟨Nat.le_trans (Nat.mul_le_mul hl2 hsm.1) (by simp [LIM]), Nat.le_trans hl2 (by decide)⟩
      · simp only [Ob.holds]
        have e : (DE.f .len [.f (.get 3) [atE s i]]).eval X δ = .int (at' t i).L.length := by
          rw [ev_f, evs_cons, evs_nil, ev_get3 hz, fe_len, len_encT]; rfl
        rw [e]
        simp only [int_i, Int.toNat_natCast]
        exact ⟨Int.natCast_nonneg _, Nat.le_trans (Nat.mul_le_mul hL hsm.1) (by simp [LIM]), Nat.le_trans hL (by decide)⟩
    · rw [okF, if_neg h] at hok
      simp only [if_neg h]
      exact obs_app (obs_obV hz hok.1 (fun h10 => obs_S sub lv δ _ _ hsm.2 hlv hz (hok.2 h10))) (obs_one (ob_pre1 i))
theorem obs_S {tg : Bool} {v : Int} : ∀ (fs : Option (List Fl)) (lv : Nat) (δ : List D) (z : DE) (t : T), smallS tg fs = true → lv = δ.length → z.eval X δ = t.d → okS v fs t → obsHold X side (obS tg lv fs z) δ
  | none, lv, δ, z, t, hsm, hlv, hz, hok => by
    rw [obS]
    exact obs_tagsIf hlv hz hok
  | some l, lv, δ, z, t, hsm, hlv, hz, hok => by
    rw [obS]
    exact obs_app (obs_tagsIf hlv hz (okS_tags hok)) (obs_L l lv 0 δ z t hsm hlv hz hok.2)
theorem obs_L {tg : Bool} {v : Int} : ∀ (l : List Fl) (lv i : Nat) (δ : List D) (z : DE) (t : T), smallL tg l = true → lv = δ.length → z.eval X δ = t.d → okL v l i t → obsHold X side (obL tg lv l i z) δ
  | [], _, _, _, _, _, _, _, _, _ => by rw [obL]; trivial
  | f :: r, lv, i, δ, z, t, hsm, hlv, hz, hok => by
    simp only [smallL, Bool.and_eq_true] at hsm
    rw [okL] at hok
    rw [obL]
    exact obs_app (obs_L r lv (i + 1) δ z t hsm.2 hlv hz hok.2) (obs_F f lv δ z t i hsm.1 hlv hz hok.1)
end
end Go.Mx

namespace Go.Mx
open Go Go.Dx

/-! ## What is to be held when it is written -/
theorem app_len (o : D) (s : List UInt8) : (app o s).len = o.asStr.length + s.length := by simp [app, D.len]
theorem appD_le (o : D) {s : List UInt8} (h : 0 < s.length) : (appD o s).len = o.asStr.length + s.length := by
  rw [← appD_ne h, app_len]
section
variable {δ : List D} {o : DE} {od : D}
theorem ob_pre {n : Nat} {l : List DE} (h : side n (evals X l δ)) : obsHold X side [.pre n l] δ := obs_one h
theorem preOf_f (n : Nat) (l : List DE) : preOf (.f (.ext n) l) = [.pre n l] := rfl
theorem ev_ext (n : Nat) (l : List DE) : X n (evals X l δ) = (DE.f (.ext n) l).eval X δ := by rw [ev_f, fe_ext]
theorem side_d2 (a b : D) : side 2 [a, b] = ((X 2 [a, b]).len ≤ lim) := rfl
theorem side_d3 (a b : D) : side 3 [a, b] = ((X 3 [a, b]).len ≤ lim) := rfl
theorem side_d4 (a b : D) : side 4 [a, b] = ((X 4 [a, b]).len ≤ lim) := rfl
theorem side_d5 (a b : D) : side 5 [a, b] = ((X 5 [a, b]).len ≤ lim) := rfl
theorem side_d6 (a b : D) : side 6 [a, b] = ((X 6 [a, b]).len ≤ lim) := rfl
theorem side_d7 (a b : D) : side 7 [a, b] = ((X 7 [a, b]).len ≤ lim) := rfl
theorem side_d9 (a b : D) : side 9 [a, b] = ((X 9 [a, b]).len ≤ lim) := rfl
theorem side_d10 (a b : D) : side 10 [a, b] = ((X 10 [a, b]).len ≤ lim) := rfl
theorem side_d11 (a b : D) : side 11 [a, b] = ((X 11 [a, b]).len ≤ lim) := rfl
theorem side_d13 (a b : D) : side 13 [a, b] = ((X 13 [a, b]).len ≤ lim) := rfl
theorem side_d15 (a b : D) : side 15 [a, b] = ((X 15 [a, b]).len ≤ lim) := rfl
theorem side_d17 (a b : D) : side 17 [a, b] = ((X 17 [a, b]).len ≤ lim) := rfl
theorem side_d19 (a b : D) : side 19 [a, b] = ((X 19 [a, b]).len ≤ lim) := rfl
theorem side_d21 (a b c : D) : side 21 [a, b, c] = ((X 21 [a, b, c]).len ≤ lim) := rfl
theorem side_d25 (a b : D) : side 25 [a, b] = ((X 25 [a, b]).len ≤ lim ∧ ∀ x ∈ mapL a, x.2.len < 4294967296) := rfl
theorem valueB_pos (k : Int) (b x : Bool) (t : T) (p : List UInt8) (h : k ≠ 10) : 0 < (valueB k b x t p).length := by
  unfold valueB
  by_cases h0 : k = 0
  · rw [if_pos h0]; simp
  rw [if_neg h0]
  by_cases h7 : k = 7
  · rw [if_pos h7, sixteen_len]; omega
  rw [if_neg h7]
  by_cases h8 : k = 8
  · rw [if_pos h8]
    exact cat_pos (counted_pos _ _ _ _ (by omega))
  rw [if_neg h8]
  by_cases h9 : k = 9
  · rw [if_pos h9]
    exact cat_pos (counted_pos _ _ _ _ (by omega))
  rw [if_neg h9, if_neg h]
  refine Fx_pos _ _ ?_
  unfold width
  repeat (first | decide | split)
theorem S_le (b x : Bool) (t : T) (k : Int) (p : List UInt8) (h : k = 8 ∨ k = 9) (hS : t.S.length ≤ Most) (hb : b = false) : t.S.length ≤ (valueB k b x t p).length := by
  subst hb
  rcases h with rfl | rfl
  · simp only [valueB, show ¬ ((8 : Int) = 0) by decide, show ¬ ((8 : Int) = 7) by decide, if_true, if_false, Bool.false_eq_true]
    rw [List.take_of_length_le hS, List.length_append]; omega
  · simp only [valueB, show ¬ ((9 : Int) = 0) by decide, show ¬ ((9 : Int) = 7) by decide, show ¬ ((9 : Int) = 8) by decide, if_true, if_false, Bool.false_eq_true]
    rw [List.take_of_length_le hS, List.length_append]; omega
theorem obs_wrV {v k nl : Int} (x : Bool) {cs : List DE} {t : T} {sd : List D} {sub : DE} {p : List UInt8} {b : Bool} (hk : k ≠ 10) (hc : evals X cs δ = dV k nl t sd) (ho : o.eval X δ = od)
    (hok : okV v k nl t) (hb : (k = 8 ∨ k = 9) → b = (t.null && (decide (0 ≤ nl) && decide (nl ≤ v)))) (hlen : od.asStr.length + (valueB k b x t p).length + 16 ≤ lim) : obsHold X side (preOf (wrV x k nl v cs o sub)) δ := by
  have hev := ev_wrV x (p := p) (sub := sub) hc ho (fun h => absurd h hk) hok hb
  have hd := appD_le od (valueB_pos k b x t p hk)
  have hle : ((wrV x k nl v cs o sub).eval X δ).len ≤ lim := by rw [hev, hd]; omega
  have two : ∀ (n : Nat) (a c : DE), wrV x k nl v cs o sub = .f (.ext n) [a, c] → (∀ d e, (X n [d, e]).len ≤ lim → side n [d, e]) → obsHold X side (preOf (wrV x k nl v cs o sub)) δ := fun n a c e h => by
    rw [e] at hle ⊢
    refine ob_pre ?_
    rw [evs_cons, evs_cons, evs_nil]
    refine h _ _ ?_
    rw [← ev_ext, evs_cons, evs_cons, evs_nil] at hle
    exact hle
  have hh := ev_headE hc
  by_cases h0 : k = 0
  · exact two 2 o (headE cs) (by unfold wrV; rw [if_pos h0]) (fun d e h => h)
  by_cases h1 : k = 1
  · exact two 3 o (headE cs) (by unfold wrV; rw [if_neg h0, if_pos h1]) (fun d e h => h)
  by_cases h2 : k = 2
  · exact two 4 o (headE cs) (by unfold wrV; rw [if_neg h0, if_neg h1, if_pos h2]) (fun d e h => h)
  by_cases h3 : k = 3
  · exact two 6 o (headE cs) (by unfold wrV; rw [if_neg h0, if_neg h1, if_neg h2, if_pos h3]) (fun d e h => h)
  by_cases h5 : k = 5
  · exact two 5 o (headE cs) (by unfold wrV; rw [if_neg h0, if_neg h1, if_neg h2, if_neg h3, if_pos h5]) (fun d e h => h)
  by_cases h7 : k = 7
  · exact two 9 o (.f .mkrow cs) (by unfold wrV; rw [if_neg h0, if_neg h1, if_neg h2, if_neg h3, if_neg h5, if_pos h7]) (fun d e h => h)
  by_cases h8 : k = 8
  · obtain ⟨k1, k2⟩ := hok (.inl h8)
    have hbe := hb (.inl h8)
    have hm : t.S.length ≤ 32767 := k1
    have hS : b = false → t.S.length ≤ (valueB k b x t p).length := S_le b x t k p (.inl h8) k1
    subst h8
    by_cases hn : 0 ≤ nl ∧ nl ≤ v
    · have e : wrV x 8 nl v cs o sub = .f (.ext (if x then 14 else 13)) [o, headE cs] := by unfold wrV; rw [if_neg h0, if_neg h1, if_neg h2, if_neg h3, if_neg h5, if_neg h7, if_pos rfl, if_pos hn]
      cases x with
      | false => exact two 13 o (headE cs) e (fun d e h => h)
      | true =>
        have hbn : b = t.null := by rw [hbe]; simp [hn.1, hn.2]
        rw [e, if_pos rfl]
        refine ob_pre ?_
        rw [evs_cons, evs_cons, evs_nil, ho, hh, side_14]
        have hcell : dV 8 nl t sd = [if t.null then .nil else .ptr (.str t.S)] := by
          show (if nl < 0 then _ else _) = _
          rw [if_neg (by omega)]
        rw [hcell]
        cases htn : t.null with
        | true =>
          show (0 : Nat) < 2147483648 ∧ od.asStr.length + 0 + 5 ≤ lim
          exact ⟨by omega, by omega⟩
        | false =>
          show t.S.length < 2147483648 ∧ od.asStr.length + t.S.length + 5 ≤ lim
          have := hS (by rw [hbn, htn])
          exact ⟨by omega, by omega⟩
    · have hnl : t.null = false := by
        cases ht : t.null with
        | false => rfl
        | true => exact absurd (k2 ht) hn
      have e : wrV x 8 nl v cs o sub = .f (.ext (if x then 12 else 11)) [o, if nl < 0 then headE cs else .f .ite [.f .not [.f .isNil [headE cs]], .f (.get 0) [.f .deref [headE cs]], .k (.str [])]] := by unfold wrV; rw [if_neg h0, if_neg h1, if_neg h2, if_neg h3, if_neg h5, if_neg h7, if_pos rfl, if_neg hn]
      cases x with
      | false => exact two 11 o _ e (fun d e h => h)
      | true =>
        have ev : (if nl < 0 then headE cs else DE.f .ite [.f .not [.f .isNil [headE cs]], .f (.get 0) [.f .deref [headE cs]], .k (.str [])]).eval X δ = .str t.S := by
          have hcell : dV 8 nl t sd = if nl < 0 then [.str t.S] else [if t.null then .nil else .ptr (.str t.S)] := rfl
          rw [hcell] at hh
          by_cases hn0 : nl < 0
          · rw [if_pos hn0] at hh ⊢; rw [hh]; rfl
          · rw [if_neg hn0] at hh ⊢
            simp only [ev_f, evs_cons, evs_nil, ev_k]
            rw [hh, hnl]; rfl
        rw [e, if_pos rfl]
        refine ob_pre ?_
        rw [evs_cons, evs_cons, evs_nil, ho, ev, side_12]
        show t.S.length < 2147483648 ∧ od.asStr.length + t.S.length + 5 ≤ lim
        have := hS (by rw [hbe, hnl]; rfl)
        exact ⟨by omega, by omega⟩
  by_cases h9 : k = 9
  · obtain ⟨k1, k2⟩ := hok (.inr h9)
    have hbe := hb (.inr h9)
    have hm : t.S.length ≤ 32767 := k1
    have hS : b = false → t.S.length ≤ (valueB k b x t p).length := S_le b x t k p (.inr h9) k1
    subst h9
    have hcell : dV 9 nl t sd = [if t.null then .nil else .bytes t.S] := rfl
    rw [hcell] at hh
    by_cases hn : 0 ≤ nl ∧ nl ≤ v
    · have hbn : b = t.null := by rw [hbe]; simp [hn.1, hn.2]
      have e : wrV x 9 nl v cs o sub = .f (.ext (if x then 18 else 17)) [o, headE cs] := by unfold wrV; rw [if_neg h0, if_neg h1, if_neg h2, if_neg h3, if_neg h5, if_neg h7, if_neg h8, if_pos rfl, if_pos hn]
      cases x with
      | false => exact two 17 o (headE cs) e (fun d e h => h)
      | true =>
        rw [e, if_pos rfl]
        refine ob_pre ?_
        rw [evs_cons, evs_cons, evs_nil, ho, hh, side_18]
        cases htn : t.null with
        | true =>
          show (0 : Nat) < 2147483648 ∧ od.asStr.length + 0 + 5 ≤ lim
          exact ⟨by omega, by omega⟩
        | false =>
          show t.S.length < 2147483648 ∧ od.asStr.length + t.S.length + 5 ≤ lim
          have := hS (by rw [hbn, htn])
          exact ⟨by omega, by omega⟩
    · have hnl : t.null = false := by
        cases ht : t.null with
        | false => rfl
        | true => exact absurd (k2 ht) hn
      have e : wrV x 9 nl v cs o sub = .f (.ext (if x then 16 else 15)) [o, headE cs] := by unfold wrV; rw [if_neg h0, if_neg h1, if_neg h2, if_neg h3, if_neg h5, if_neg h7, if_neg h8, if_pos rfl, if_neg hn]
      cases x with
      | false => exact two 15 o (headE cs) e (fun d e h => h)
      | true =>
        rw [e, if_pos rfl]
        refine ob_pre ?_
        rw [evs_cons, evs_cons, evs_nil, ho, hh, side_16, hnl]
        show t.S.length < 2147483648 ∧ od.asStr.length + t.S.length + 5 ≤ lim
        have := hS (by rw [hbe, hnl]; rfl)
        exact ⟨by omega, by omega⟩
  exact two 7 o (headE cs) (by unfold wrV; rw [if_neg h0, if_neg h1, if_neg h2, if_neg h3, if_neg h5, if_neg h7, if_neg h8, if_neg h9, if_neg hk]) (fun d e h => h)
theorem obs_wrLen {v nl : Int} (x : Bool) {c : DE} {t : T} {g : T → D} (hc : c.eval X δ = if t.null then .nil else .list (t.L.map g)) (ho : o.eval X δ = od) (hL : t.L.length ≤ Most)
    (hn : t.null = true → 0 ≤ nl ∧ nl ≤ v) {b : Bool} (hb : b = (t.null && (decide (0 ≤ nl) && decide (nl ≤ v)))) (hlen : od.asStr.length + (counted x b (if b then 0 else t.L.length) 4).length + 16 ≤ lim) : obsHold X side (preOf (wrLen x nl v c o)) δ := by
  have hev := ev_wrLen x hc ho hn hb
  have hd := appD_le od (counted_pos x b (if b then 0 else t.L.length) 4 (by omega))
  have hle : ((wrLen x nl v c o).eval X δ).len ≤ lim := by rw [hev, hd]; omega
  have hl : (if t.null then D.nil else D.list (t.L.map g)).len ≤ 32767 := by
    cases t.null
    · show (t.L.map g).length ≤ _
      rw [List.length_map]; exact hL
    · exact Nat.zero_le _
  unfold wrLen at hle ⊢
  by_cases h : 0 ≤ nl ∧ nl ≤ v
  · rw [if_pos h] at hle ⊢
    refine ob_pre ?_
    rw [← ev_ext] at hle
    rw [evs_cons, evs_cons, evs_cons, evs_nil, ev_f, ev_f, evs_cons, evs_nil, fe_len, fe_isNil, ho, hc] at hle ⊢
    cases x with
    | false => exact hle
    | true =>
      show 0 ≤ (_ : Int) ∧ (_ : Int) < 2147483648 ∧ od.asStr.length + 5 ≤ lim
      simp only [int_i]
      exact ⟨Int.natCast_nonneg _, by omega, by omega⟩
  · rw [if_neg h] at hle ⊢
    refine ob_pre ?_
    rw [← ev_ext] at hle
    rw [evs_cons, evs_cons, evs_nil, ev_f, evs_cons, evs_nil, fe_len, ho, hc] at hle ⊢
    cases x with
    | false => exact hle
    | true =>
      show 0 ≤ (_ : Int) ∧ (_ : Int) < 2147483648 ∧ od.asStr.length + 5 ≤ lim
      simp only [int_i]
      exact ⟨Int.natCast_nonneg _, by omega, by omega⟩
theorem obs_wrTags (x : Bool) {c : DE} {u : List Tg} {p : List UInt8} (hc : x = true → c.eval X δ = tagD u) (ho : o.eval X δ = appD od p) (hu : okTags u) (hlen : x = true → od.asStr.length + (p ++ tagsW u).length + 16 ≤ lim) : obsHold X side (owTags x c o) δ := by
  cases x with
  | false => trivial
  | true =>
    have hev := ev_wrTags true hc ho hu
    have hlen := hlen rfl
    have hc := hc rfl
    have hpos : 0 < (p ++ tagsW u).length := by rw [List.length_append, tagsW, List.length_append]; have := Uv_pos (n := u.length); omega
    have hd := appD_le od hpos
    unfold wrTags at hev
    rw [if_pos rfl, if_pos rfl] at hev
    unfold owTags
    rw [if_pos rfl]
    have e24 : (DE.f (.add .u32) [.k (.int 0), .f (.wrap .u32) [.f (.ext 24) [c]]]).eval X δ = .int u.length := by
      simp only [ev_f, evs_cons, evs_nil, ev_k]
      have hL := tagD_L hu.1
      have h2 := hu.2.1
      rw [hc, fe_ext, X_24, hL, List.length_map, fe_wrap, fe_add]
      rw [wrapu32 (x := (u.length : Int)) (by omega) (by simp [Most] at h2; omega), Int.zero_add, wrapu32 (by omega) (by simp [Most] at h2; omega)]
    refine obs_cons ?_ (obs_cons ?_ (obs_one ?_))
    · simp only [Ob.holds]
      rw [evs_cons, evs_cons, evs_nil, side_d25]
      rw [ev_f, evs_cons, evs_cons, evs_nil, fe_ext] at hev
      refine ⟨by rw [hev, hd]; omega, fun x hx => ?_⟩
      rw [hc, tagD_L hu.1] at hx
      obtain ⟨y, hy, rfl⟩ := List.mem_map.1 hx
      have := (hu.2.2 y hy).2.2
      simp only [Most] at this
      show (encB y.val).len < _
      rw [len_encB]; omega
    · simp only [Ob.holds]
      rw [evs_cons, evs_cons, evs_nil, side_d10, e24, ho, X_10, app_len, int_i, Int.toNat_natCast, appD_str, List.length_append]
      rw [List.length_append, tagsW, List.length_append] at hlen
      omega
    · exact trivial
theorem obs_obNil (k nl v : Int) (c : DE) : obsHold X side (obNil k nl v c) δ := by
  unfold obNil
  split
  · refine obs_one ?_
    simp only [Ob.holds]
    intro h
    refine obs_one ?_
    simp only [Ob.holds]
    intro h2
    have e : (DE.f .not [.f .isNil [c]]).eval X δ = .bool (!(c.eval X δ).isNil) := by
      rw [ev_f, evs_cons, evs_nil, ev_f, evs_cons, evs_nil, fe_isNil, fe_not]
    have e2 : (DE.f .isNil [c]).eval X δ = .bool (c.eval X δ).isNil := by
      rw [ev_f, evs_cons, evs_nil, fe_isNil]
    rw [e, bool_b] at h
    rw [e2, bool_b] at h2
    rw [h2] at h
    cases h
  · trivial
end
end Go.Mx

namespace Go.Mx
open Go Go.Dx

mutual
theorem obs_owF {tg x : Bool} {v : Int} (hx : x = true → tg = true) : ∀ (f : Fl) (lv : Nat) (δ : List D) (cs : List DE) (o : DE) (t : T) (od : D), plainF f = true → lv = δ.length → evals X cs δ = dF tg f t → o.eval X δ = od → okF v f t → od.asStr.length + (field f v x t).length + 16 ≤ lim → obsHold X side (owF tg v x lv f cs o) δ
  | .mk k a b nl g df of sub, lv, δ, cs, o, t, od, hp, hlv, hc, ho, hok, hlen => by
    obtain ⟨_, hp10, hp11, hps⟩ := plainF_mk hp
    rw [field_eq] at hlen
    simp only [Fl.kind, Fl.null, Fl.of, Fl.sub] at hlen
    rw [owF]
    unfold fieldB at hlen
    by_cases h : k = 11
    · have hof := hp11 h
      subst h
      subst hlv
      simp only [if_true] at hlen ⊢
      rw [dF, if_pos rfl] at hc
      rw [okF, if_pos rfl] at hok
      obtain ⟨q1, q2, q3⟩ := hok
      have hh : (headE cs).eval X δ = if t.null then .nil else .list (t.L.map fun y => elD of (dV of (-1) y (dS tg sub y)) y) := ev_headE hc
      have hlenD := ev_wrLen x hh ho q2 (b := Mx.null (.mk 11 a b nl g df of sub) v t) rfl
      have hlv : δ.length ≤ δ.length := Nat.le_refl _
      have env : ∀ (i r a : D), (DE.v (δ.length + 1)).eval X (δ ++ [i, r, a]) = r ∧ (DE.v (δ.length + 2)).eval X (δ ++ [i, r, a]) = a ∧ δ.length + 3 = (δ ++ [i, r, a]).length := fun i r a => by
        have := env_row (δ := δ) (Nat.le_refl _) i r a
        rw [List.take_length] at this
        exact ⟨this.1, this.2.1, by simp⟩
      have hgets : ∀ (i aa : D) (y : T), evals X (getsE (.v (δ.length + 1)) (wdV tg of sub)) (δ ++ [i, elD of (dV of (-1) y (dS tg sub y)) y, aa]) = dV of (-1) y (dS tg sub y) := by
        intro i aa y
        obtain ⟨e1, e2, e3⟩ := env i (elD of (dV of (-1) y (dS tg sub y)) y) aa
        have hcells := cells_elD of y (dS tg sub y)
        have := gets_all (r := .v (δ.length + 1)) (δ := δ ++ [i, elD of (dV of (-1) y (dS tg sub y)) y, aa]) (l := dV of (-1) y (dS tg sub y)) (by rw [e1]; exact hcells)
        rwa [dV_len of (-1) y _ tg sub (dS_len tg sub y)] at this
      have hsd : of = 10 → ∀ y, dV of (-1) y (dS tg sub y) = dS tg sub y := fun h10 y => by subst h10; rfl
      have hbody : ∀ (i aa : D) (y : T), y ∈ t.L → (wrV x of (-1) v (getsE (.v (δ.length + 1)) (wdV tg of sub)) (.v (δ.length + 2)) (wrS tg v x (δ.length + 3) sub (getsE (.v (δ.length + 1)) (wdV tg of sub)) (.v (δ.length + 2)))).eval X (δ ++ [i, elD of (dV of (-1) y (dS tg sub y)) y, aa]) = appD aa (valueB of false x y (partS sub v x y)) := by
        intro i aa y hy
        obtain ⟨e1, e2, e3⟩ := env i (elD of (dV of (-1) y (dS tg sub y)) y) aa
        obtain ⟨o1, o2⟩ := q3 y hy
        refine ev_wrV x (hgets i aa y) e2 (fun h10 => ?_) o1 (fun _ => by simp)
        exact ev_wrS hx sub (δ.length + 3) _ _ _ y _ hps (Nat.le_of_eq e3) ((hgets i aa y).trans (hsd h10 y)) e2 (o2 h10)
      refine obs_app (obs_one ?_) ?_
      · cases hn : t.null with
        | true =>
          rw [hn] at hh
          exact all1L (L := ([] : List T)) (e := fun y => elD of (dV of (-1) y (dS tg sub y)) y) (h := fun y a => a) (by rw [hh]; rfl) (fun _ _ y hy => by cases hy) (fun k y hk => by simp at hk)
        | false =>
          have hb : Mx.null (.mk 11 a b nl g df of sub) v t = false := by rw [null_eq, hn]; rfl
          rw [hb] at hlenD hlen
          rw [hn] at hh
          simp only [Bool.false_eq_true, if_false] at hlen hlenD
          rw [List.take_of_length_le q1] at hlen
          refine all1L (L := t.L) (e := fun y => elD of (dV of (-1) y (dS tg sub y)) y) (h := fun y a => appD a (valueB of false x y (partS sub v x y))) (by rw [hh]; rfl) hbody (fun kk y hk => ?_)
          have hy := List.mem_of_getElem? hk
          obtain ⟨o1, o2⟩ := q3 y hy
          rw [foldl_appD, hlenD, appD_appD]
          have hw : (t.L.map fun y => valueB of false x y (partS sub v x y))[kk]? = some (valueB of false x y (partS sub v x y)) := by rw [List.getElem?_map, hk]; rfl
          obtain ⟨r, hr⟩ := flat_pre hw
          rw [hr, ← List.map_take] at hlen
          generalize hacc : appD od (counted x false t.L.length 4 ++ ((t.L.take kk).map fun y => valueB of false x y (partS sub v x y)).flatten) = acc
          have hal : acc.asStr.length + (valueB of false x y (partS sub v x y)).length + 16 ≤ lim := by
            rw [← hacc, appD_str]
            simp only [List.length_append] at hlen ⊢
            omega
          obtain ⟨e1, e2, e3⟩ := env (.int kk) (elD of (dV of (-1) y (dS tg sub y)) y) acc
          have hg := hgets (.int kk) acc y
          by_cases h10 : of = 10
          · rw [if_pos h10]
            have hv : valueB of false x y (partS sub v x y) = partS sub v x y := by subst h10; rfl
            rw [hv] at hal
            exact obs_owS hx sub (δ.length + 3) _ _ _ y acc hps e3 (hg.trans (hsd h10 y)) e2 (o2 h10) hal
          · rw [if_neg h10]
            exact obs_wrV x h10 hg e2 o1 (fun _ => by simp) hal
      · refine obs_wrLen x hh ho q1 q2 (b := Mx.null (.mk 11 a b nl g df of sub) v t) rfl ?_
        have hle : (counted x (Mx.null (.mk 11 a b nl g df of sub) v t) (if Mx.null (.mk 11 a b nl g df of sub) v t then 0 else t.L.length) 4).length = (counted x (Mx.null (.mk 11 a b nl g df of sub) v t) (if Mx.null (.mk 11 a b nl g df of sub) v t then ([] : List T) else t.L.take Most).length 4).length := by
          rw [List.take_of_length_le q1]
          cases Mx.null (.mk 11 a b nl g df of sub) v t <;> rfl
        rw [hle]
        simp only [List.length_append] at hlen
        omega
    · rw [if_neg h]
      rw [if_neg h] at hlen
      rw [dF, if_neg h] at hc
      rw [okF, if_neg h] at hok
      obtain ⟨o1, o2⟩ := hok
      rw [if_neg (fun e => by have := hp10 e.1; omega)] at hlen
      by_cases h10 : k = 10
      · rw [if_pos h10]
        have hsd : dV k nl t (dS tg sub t) = dS tg sub t := by subst h10; rfl
        rw [hsd] at hc
        have hv : ∀ b', valueB k b' x t (partS sub v x t) = partS sub v x t := fun b' => by subst h10; rfl
        rw [hv] at hlen
        exact obs_owS hx sub lv δ cs o t od hps hlv hc ho (o2 h10) hlen
      · rw [if_neg h10]
        exact obs_app (obs_wrV x h10 hc ho o1 (fun _ => rfl) hlen) (obs_obNil _ _ _ _)
theorem obs_owS {tg x : Bool} {v : Int} (hx : x = true → tg = true) : ∀ (fs : Option (List Fl)) (lv : Nat) (δ : List D) (cs : List DE) (o : DE) (t : T) (od : D), plainS fs = true → lv = δ.length → evals X cs δ = dS tg fs t → o.eval X δ = od → okS v fs t → od.asStr.length + (partS fs v x t).length + 16 ≤ lim → obsHold X side (owS tg v x lv fs cs o) δ
  | none, lv, δ, cs, o, t, od, hp, hlv, hc, ho, hok, hlen => by
    rw [partS_plain hp hok] at hlen
    rw [owS]
    refine obs_wrTags (od := od) (p := []) x (fun hxt => ?_) ho hok (fun hxt => ?_)
    · rw [dS, hx hxt, if_pos rfl] at hc
      exact ev_headE hc
    · rw [hxt, if_pos rfl] at hlen
      exact hlen
  | some l, lv, δ, cs, o, t, od, hp, hlv, hc, ho, hok, hlen => by
    rw [partS_plain hp (okS_tags hok)] at hlen
    rw [owS]
    rw [dS] at hc
    have h1 := ev_wrL hx l lv 0 δ cs o t od _ hp (Nat.le_of_eq hlv) hc ho hok.2
    refine obs_app (obs_wrTags x (fun hxt => ?_) h1 (okS_tags hok) (fun hxt => ?_)) (obs_owL hx l lv 0 δ cs o t od _ hp hlv hc ho hok.2 ?_)
    · have hd : evals X (cs.drop (wdL tg l)) δ = [tagD t.U] := by
        rw [evals_drop, hc, hx hxt, if_pos rfl, ← dL_len true l 0 t, List.drop_left]
      exact ev_headE hd
    · rw [hxt, if_pos rfl] at hlen
      rw [hxt]
      exact hlen
    · cases x with
      | true =>
        rw [if_pos rfl, List.length_append] at hlen
        have : (outP ((some l).getD []) v true t).length = ((mapI (fun i f => cellO v (rowP v true t i f)) 0 l).flatten).length := rfl
        omega
      | false => exact hlen
theorem obs_owL {tg x : Bool} {v : Int} (hx : x = true → tg = true) : ∀ (l : List Fl) (lv i : Nat) (δ : List D) (cs : List DE) (o : DE) (t : T) (od : D) (rest : List D), plainL l = true → lv = δ.length → evals X cs δ = dL tg l i t ++ rest → o.eval X δ = od → okL v l i t → od.asStr.length + ((mapI (fun i f => cellO v (rowP v x t i f)) i l).flatten).length + 16 ≤ lim → obsHold X side (owL tg v x lv l cs o) δ
  | [], lv, i, δ, cs, o, t, od, rest, hp, hlv, hc, ho, hok, hlen => by rw [owL]; trivial
  | f :: r, lv, i, δ, cs, o, t, od, rest, hp, hlv, hc, ho, hok, hlen => by
    simp only [plainL, Bool.and_eq_true] at hp
    rw [okL] at hok
    rw [owL]
    rw [dL, List.append_assoc] at hc
    have ht : evals X (cs.take (wdF tg f)) δ = dF tg f (at' t i) := by rw [evals_take, hc, ← dF_len tg f (at' t i), List.take_left]
    have hd : evals X (cs.drop (wdF tg f)) δ = dL tg r (i + 1) t ++ rest := by rw [evals_drop, hc, ← dF_len tg f (at' t i), List.drop_left]
    rw [mapI, List.flatten_cons, List.length_append] at hlen
    by_cases h : f.tag < 0 ∧ has f v = true
    · rw [if_pos h]
      have hce : cellO v (rowP v x t i f) = field f v x (at' t i) := by unfold cellO rowP; rw [if_pos h]
      rw [hce] at hlen
      have h1 := ev_wrF hx f lv δ _ o (at' t i) od hp.1 (Nat.le_of_eq hlv) ht ho hok.1
      refine obs_app (obs_owL hx r lv (i + 1) δ _ _ t _ rest hp.2 hlv hd h1 hok.2 ?_) (obs_owF hx f lv δ _ o (at' t i) od hp.1 hlv ht ho hok.1 (by omega))
      rw [appD_str, List.length_append]
      omega
    · rw [if_neg h]
      exact obs_owL hx r lv (i + 1) δ _ _ t od rest hp.2 hlv hd ho hok.2 (by omega)
end

/-! ## A message's making -/
/-- what is asked of a message's fields -/
def okMsg (m : Msg) : Bool := plainS m.fs && smallS m.tg m.fs && (m.tg || decide (m.fx < 0))
theorem msgX {m : Msg} (h : okMsg m = true) (v : Int) : Flexible m.fx v = true → m.tg = true := by
  simp only [okMsg, Bool.and_eq_true, Bool.or_eq_true, decide_eq_true_eq] at h
  intro hx
  rcases h.2 with h | h
  · exact h
  · simp only [Flexible, Bool.and_eq_true, decide_eq_true_eq] at hx
    omega
theorem start_eval (m : Msg) (v : Int) (δ : List D) : (startE m v).eval X δ = appD .nil (startB m v) := by
  unfold startE startB
  cases m.kept
  · rfl
  · rw [if_pos rfl, if_pos rfl, ev_f, evs_cons, evs_cons, evs_nil, ev_k, ev_k, fe_ext, X_4, int_i]
    exact appD_ne (Fx_pos _ _ (by omega))
theorem msg_eval {m : Msg} (h : okMsg m = true) {v : Int} {t : T} (hok : okS v m.fs t) : (msgE m v).eval X [.int v, t.d] = appD .nil (bytesM m v t) := by
  have hx := msgX h v
  simp only [okMsg, Bool.and_eq_true] at h
  unfold msgE
  rw [ev_wrS hx m.fs 2 [.int v, t.d] _ _ t _ h.1.1 (Nat.le_refl _) (ev_cellS m.tg m.fs 2 [.int v, t.d] (.v 1) t (Nat.le_refl _) rfl) (start_eval m v _) hok, appD_appD]
  rfl
theorem msg_obs {m : Msg} (h : okMsg m = true) {v : Int} {t : T} (hok : okS v m.fs t) (hlen : (bytesM m v t).length + 16 ≤ lim) : obsHold X side (msgO m v) [.int v, t.d] := by
  have hx := msgX h v
  simp only [okMsg, Bool.and_eq_true] at h
  unfold bytesM at hlen
  rw [List.length_append] at hlen
  unfold msgO
  refine obs_app (obs_app ?_ ?_) (obs_S m.fs 2 [.int v, t.d] (.v 1) t h.1.2 rfl rfl hok)
  · refine obs_owS hx m.fs 2 [.int v, t.d] _ _ t _ h.1.1 rfl (ev_cellS m.tg m.fs 2 [.int v, t.d] (.v 1) t (Nat.le_refl _) rfl) (start_eval m v _) hok ?_
    rw [appD_str]
    simp only [D.asStr, List.nil_append]
    omega
  · unfold startB at hlen
    cases hk : m.kept
    · trivial
    · rw [hk, if_pos rfl] at hlen
      rw [if_pos rfl]
      refine obs_one ?_
      simp only [Ob.holds]
      rw [evs_cons, evs_cons, evs_nil, ev_k, ev_k, side_d4, X_4, app_len, int_i]
      simp only [D.asStr, List.length_nil]
      omega
end Go.Mx

namespace Go.Mx
open Go Go.Dx

/-! ## The messages' numbers -/
theorem X_101 (v t : D) : X 101 [v, t] = mX M101 v t := rfl
theorem side_101 (v t : D) : side 101 [v, t] = mSide M101 v t := rfl
theorem X_102 (v t : D) : X 102 [v, t] = mX M102 v t := rfl
theorem side_102 (v t : D) : side 102 [v, t] = mSide M102 v t := rfl
theorem X_103 (v t : D) : X 103 [v, t] = mX M103 v t := rfl
theorem side_103 (v t : D) : side 103 [v, t] = mSide M103 v t := rfl
theorem X_104 (v t : D) : X 104 [v, t] = mX M104 v t := rfl
theorem side_104 (v t : D) : side 104 [v, t] = mSide M104 v t := rfl
theorem X_105 (v t : D) : X 105 [v, t] = mX M105 v t := rfl
theorem side_105 (v t : D) : side 105 [v, t] = mSide M105 v t := rfl
theorem X_106 (v t : D) : X 106 [v, t] = mX M106 v t := rfl
theorem side_106 (v t : D) : side 106 [v, t] = mSide M106 v t := rfl
theorem X_107 (v t : D) : X 107 [v, t] = mX M107 v t := rfl
theorem side_107 (v t : D) : side 107 [v, t] = mSide M107 v t := rfl
theorem X_108 (v t : D) : X 108 [v, t] = mX M108 v t := rfl
theorem side_108 (v t : D) : side 108 [v, t] = mSide M108 v t := rfl
theorem X_109 (v t : D) : X 109 [v, t] = mX M109 v t := rfl
theorem side_109 (v t : D) : side 109 [v, t] = mSide M109 v t := rfl
theorem X_110 (v t : D) : X 110 [v, t] = mX M110 v t := rfl
theorem side_110 (v t : D) : side 110 [v, t] = mSide M110 v t := rfl
theorem X_111 (v t : D) : X 111 [v, t] = mX M111 v t := rfl
theorem side_111 (v t : D) : side 111 [v, t] = mSide M111 v t := rfl
theorem X_112 (v t : D) : X 112 [v, t] = mX M112 v t := rfl
theorem side_112 (v t : D) : side 112 [v, t] = mSide M112 v t := rfl
theorem X_113 (v t : D) : X 113 [v, t] = mX M113 v t := rfl
theorem side_113 (v t : D) : side 113 [v, t] = mSide M113 v t := rfl
theorem X_114 (v t : D) : X 114 [v, t] = mX M114 v t := rfl
theorem side_114 (v t : D) : side 114 [v, t] = mSide M114 v t := rfl
theorem X_115 (v t : D) : X 115 [v, t] = mX M115 v t := rfl
theorem side_115 (v t : D) : side 115 [v, t] = mSide M115 v t := rfl
theorem X_116 (v t : D) : X 116 [v, t] = mX M116 v t := rfl
theorem side_116 (v t : D) : side 116 [v, t] = mSide M116 v t := rfl
theorem X_117 (v t : D) : X 117 [v, t] = mX M117 v t := rfl
theorem side_117 (v t : D) : side 117 [v, t] = mSide M117 v t := rfl
theorem X_118 (v t : D) : X 118 [v, t] = mX M118 v t := rfl
theorem side_118 (v t : D) : side 118 [v, t] = mSide M118 v t := rfl
theorem X_119 (v t : D) : X 119 [v, t] = mX M119 v t := rfl
theorem side_119 (v t : D) : side 119 [v, t] = mSide M119 v t := rfl
theorem X_120 (v t : D) : X 120 [v, t] = mX M120 v t := rfl
theorem side_120 (v t : D) : side 120 [v, t] = mSide M120 v t := rfl
theorem X_121 (v t : D) : X 121 [v, t] = mX M121 v t := rfl
theorem side_121 (v t : D) : side 121 [v, t] = mSide M121 v t := rfl
theorem X_122 (v t : D) : X 122 [v, t] = mX M122 v t := rfl
theorem side_122 (v t : D) : side 122 [v, t] = mSide M122 v t := rfl
end Go.Mx

namespace Go.Mx
open Go Go.Dx

/-! ## What is fitted and given may be made -/
theorem okL_nl {v : Int} {a b : T} (hl : a.L = b.L) : ∀ (l : List Fl) (i : Nat), okL v l i a → okL v l i b
  | [], _, _ => trivial
  | f :: r, i, h => by
    rw [okL] at h ⊢
    have : at' a i = at' b i := by unfold at'; rw [hl]
    exact ⟨this ▸ h.1, okL_nl hl r (i + 1) h.2⟩
theorem okS_nl {v : Int} {fs : Option (List Fl)} {a b : T} (hl : a.L = b.L) (hu : a.U = b.U) (h : okS v fs a) : okS v fs b := by
  cases fs with
  | none => rw [okS] at h ⊢; rwa [← hu]
  | some l => rw [okS] at h ⊢; exact ⟨hu ▸ h.1, okL_nl hl l 0 h.2⟩
theorem wfT_L {t : T} (h : wfT t = true) : ∀ y ∈ t.L, wfT y = true := by
  obtain ⟨n, s, b, l, u⟩ := t
  simp only [wfT, Bool.and_eq_true] at h
  cases l with
  | none => intro y hy; simp [T.L, T.l] at hy
  | some l => exact wfTl_all.1 h.1.2
theorem wfT_zero : wfT T.zero = true := by decide
theorem wfT_at {t : T} (h : wfT t = true) (i : Int) : wfT (at' t i) = true := by
  unfold at'
  split
  · rw [List.getD_eq_getElem?_getD]
    cases hg : t.L[i.toNat]? with
    | none => exact wfT_zero
    | some y => exact wfT_L h y (List.mem_of_getElem? hg)
  · exact wfT_zero
theorem wfT_U {t : T} (h : wfT t = true) : ∀ y ∈ t.U, 0 ≤ y.key ∧ y.key < 4294967296 := by
  obtain ⟨n, s, b, l, u⟩ := t
  simp only [wfT, Bool.and_eq_true] at h
  intro y hy
  have := List.all_eq_true.1 h.2 y hy
  simpa [wfTg] using this
theorem tags_gF (fs : Option (List Fl)) (v : Int) (t : T) (h : wfT t = true) : okTags (given (FitS fs v t)).U := by
  have e : (given (FitS fs v t)).U = (unknown (fs.getD []) t.u).map cut := by
    rw [gF]; exact nz_getD _
  rw [e]
  obtain ⟨a, b⟩ := unk_spec (fs.getD []) t.u
  refine ⟨srt_cut a, by rw [List.length_map]; exact unknown_len _ _, fun y hy => ?_⟩
  obtain ⟨z, hz, rfl⟩ := List.mem_map.1 hy
  obtain ⟨k1, k2⟩ := wfT_U h z (b z hz).2
  refine ⟨k1, k2, ?_⟩
  show ((whole z.val).getD []).length ≤ Most
  rw [whole_getD, List.length_take]; omega
theorem okV_gB {v k nl : Int} {b : Bool} {sub : Option (List Fl)} {t : T} (hb : b = true → 0 ≤ nl ∧ nl ≤ v) : okV v k nl (gB k b sub v t) := by
  intro hk
  refine ⟨?_, fun h => ?_⟩
  · rw [gB_S _ _ _ _ _ (by omega), if_pos hk, List.length_take]; omega
  · rw [gB_null, if_pos (by omega)] at h
    exact hb h
mutual
theorem okF_given : ∀ (f : Fl) (v : Int) (t : T), plainF f = true → wfT t = true → okF v f (given (fitted f v t))
  | .mk k a b nl g df of sub, v, t, hp, hw => by
    obtain ⟨hg, _, hof, hs⟩ := plainF_mk hp
    have hsub : ∀ (b : Bool) (y : T), wfT y = true → okS v sub (gB 10 b sub v y) := fun b y hy => by
      have := okS_given sub v y hs hy
      obtain ⟨e1, e2⟩ := gB_10 b sub v y
      exact okS_nl e1.symm (by unfold T.U; rw [e2]) this
    by_cases h : k = 11
    · have hof := hof h
      subst h
      rw [okF, if_pos rfl, fitted_11, mk_L]
      refine ⟨by rw [List.length_map, List.length_take]; omega, fun hn => ?_, fun y hy => ?_⟩
      · simp only [T.null] at hn
        have hz : decide (0 ≤ g) = false := by simp; omega
        rw [hz, Bool.false_and, Bool.or_false, null_eq] at hn
        simp only [Bool.and_eq_true, decide_eq_true_eq, Fl.null] at hn
        exact ⟨of_decide_eq_true hn.2.1, of_decide_eq_true hn.2.2⟩
      · obtain ⟨z, hz, rfl⟩ := List.mem_map.1 hy
        refine ⟨okV_gB (fun h => by cases h), fun h10 => ?_⟩
        subst h10
        exact hsub false z (wfT_L hw z (List.mem_of_mem_take hz))
    · rw [okF, if_neg h, fitted_ne _ _ _ _ _ _ _ _ _ _ h]
      refine ⟨okV_gB (fun hn => ?_), fun h10 => ?_⟩
      · rw [null_eq] at hn
        simp only [Bool.and_eq_true, decide_eq_true_eq, Fl.null] at hn
        exact ⟨of_decide_eq_true hn.2.1, of_decide_eq_true hn.2.2⟩
      · subst h10
        exact hsub _ t hw
theorem okS_given : ∀ (fs : Option (List Fl)) (v : Int) (t : T), plainS fs = true → wfT t = true → okS v fs (given (FitS fs v t))
  | none, v, t, _, hw => tags_gF none v t hw
  | some l, v, t, hp, hw => by
    rw [okS]
    refine ⟨tags_gF (some l) v t hw, ?_⟩
    have hl := okL_given l v hp
    have key : ∀ (r : List Fl) (i : Nat), (∀ (k : Nat) f, r[k]? = some f → l[i + k]? = some f) → okL v r i (given (FitS (some l) v t)) := by
      intro r
      induction r with
      | nil => intro i _; trivial
      | cons f r ih =>
        intro i h
        rw [okL]
        refine ⟨?_, ih (i + 1) (fun k g hg => by
          have := h (k + 1) g hg
          rwa [show i + (k + 1) = i + 1 + k by omega] at this)⟩
        have hf : l[i]? = some f := h 0 f rfl
        rw [at_gF (some l) v t i f hf]
        exact hl f (List.mem_of_getElem? hf) _ (wfT_at hw _)
    exact key l 0 (fun k f hk => by rwa [Nat.zero_add])
theorem okL_given : ∀ (l : List Fl) (v : Int), plainL l = true → ∀ f ∈ l, ∀ t, wfT t = true → okF v f (given (fitted f v t))
  | [], _, _, f, hf, _, _ => by cases hf
  | g :: r, v, hp, f, hf, t, hw => by
    simp only [plainL, Bool.and_eq_true] at hp
    rcases List.mem_cons.1 hf with h1 | h1
    · rw [h1]; exact okF_given g v t hp.1 hw
    · exact okL_given r v hp.2 f h1 t hw
end

/-! ## A law about what is made -/
def okAll (M : Msg) : Bool := okMsg M && wfFs M.fs && okGs M.fs && decide (0 ≤ M.most) && decide (M.most ≤ 1000)
def verM (M : Msg) : DE := if M.kept then .f .tmod [.f (.wrap .i64) [.v 0], .k (.int (M.most + 1))] else .f (.ext 58) [.v 0, .k (.int M.most)]
def fitM (M : Msg) : DE := .f (.ext 43) [scE M.fs, verM M, .v 1]
def giveM (M : Msg) : DE := .f (.ext 44) [fitM M]
def specM (M : Msg) : DE := .f .mkrow [scE M.fs, .k (.int M.fx)]
def wrN (M : Msg) : Nat := if M.kept then 60 else 59
def lawE' (M : Msg) (m : Nat) : DE := .f .ite [.f .not [.f (.ext 54) [.v 1]], .k (.bool true), .f (.ext 52) [.f (.ext m) [verM M, giveM M], .f (.ext (wrN M)) [specM M, verM M, .v 1]]]
def lawO' (M : Msg) (m : Nat) : List Ob := [.when (.f .not [.f (.ext 54) [.v 1]]) false ([.pre 52 [.f (.ext m) [verM M, giveM M], .f (.ext (wrN M)) [specM M, verM M, .v 1]], .pre (wrN M) [specM M, verM M, .v 1], .pre m [verM M, giveM M], .pre 44 [fitM M], .pre 43 [scE M.fs, verM M, .v 1]] ++ (if M.kept then [] else [.pre 58 [.v 0, .k (.int M.most)]])), .pre 54 [.v 1]]
theorem law_okM {M : Msg} {m : Nat} (h : okAll M = true) (hX : ∀ v t, X m [v, t] = mX M v t) (hS : ∀ v t, side m [v, t] = mSide M v t) (n : Int) (t : T) (hn0 : 0 ≤ n) (hn1 : n < 256) (hw : wfT t = true)
    (hl : fitsTo t = true → ∀ v, 0 ≤ v → v ≤ M.most → (bytesM M v t).length + 16 ≤ lim) : obsHold X side (lawO' M m) [.int n, t.d] ∧ (lawE' M m).eval X [.int n, t.d] = .bool true := by
  simp only [okAll, Bool.and_eq_true, decide_eq_true_eq] at h
  obtain ⟨⟨⟨⟨hm, hwf⟩, hG⟩, hm0⟩, hm1⟩ := h
  have hp : plainS M.fs = true := by
    simp only [okMsg, Bool.and_eq_true] at hm; exact hm.1.1
  have hv0 : 0 ≤ n % (M.most + 1) := Int.emod_nonneg _ (by omega)
  have hv1 : n % (M.most + 1) ≤ M.most := by have := Int.emod_lt_of_pos n (b := M.most + 1) (by omega); omega
  have eV : (verM M).eval X [.int n, t.d] = .int (n % (M.most + 1)) := by
    unfold verM
    cases M.kept
    · rw [if_neg (by decide), ev_f, evs_cons, evs_cons, evs_nil, ev_v, ev_k, List.getD_cons_zero, fe_ext, X_58, int_i, int_i]
    · rw [if_pos rfl, ev_f, evs_cons, evs_cons, evs_nil, ev_f, evs_cons, evs_nil, ev_v, ev_k, List.getD_cons_zero, fe_wrap]
      show D.int ((IntKind.i64.wrap n).tmod (M.most + 1)) = _
      rw [IntKind.wrap_i64, show (n + 9223372036854775808) % 18446744073709551616 - 9223372036854775808 = n by omega, Int.tmod_eq_emod_of_nonneg hn0]
  generalize n % (M.most + 1) = v at hv0 hv1 eV
  have e54 : (DE.f .not [.f (.ext 54) [.v 1]]).eval X [.int n, t.d] = .bool (!fitsTo t) := by
    simp only [ev_f, evs_cons, evs_nil, ev_v, List.getD_cons_zero, List.getD_cons_succ, fe_ext, X_54, toT_d, fe_not]
  have eF : (fitM M).eval X [.int n, t.d] = (FitS M.fs v t).d := by
    rw [fitM, ev_f]
    simp only [evs_cons, evs_nil, eV, scE_eval, ev_v, List.getD_cons_zero, List.getD_cons_succ, fe_ext, X_43, decF_enc, toT_d, int_i]
  have eG : (giveM M).eval X [.int n, t.d] = (given (FitS M.fs v t)).d := by
    rw [giveM, ev_f]
    simp only [evs_cons, evs_nil, eF, fe_ext, X_44, toT_d]
  have hbytes : bytesM M v (given (FitS M.fs v t)) = bytesM M v t := by
    unfold bytesM
    rw [partG M.fs v _ t hv0 hG]
  have eM : (DE.f (.ext m) [verM M, giveM M]).eval X [.int n, t.d] = appD .nil (bytesM M v t) := by
    rw [ev_f]
    simp only [evs_cons, evs_nil, eV, eG, fe_ext]
    rw [hX, mX, toT_d, int_i, hbytes]
  have eK : (specM M).eval X [.int n, t.d] = .row [encF M.fs, .int M.fx] := by
    rw [specM, ev_f]
    simp only [evs_cons, evs_nil, scE_eval, ev_k, fe_mkrow]
  have eW : (DE.f (.ext (wrN M)) [specM M, verM M, .v 1]).eval X [.int n, t.d] = encN (bytesM M v t) := by
    rw [ev_f]
    simp only [evs_cons, evs_nil, eK, eV, ev_v, List.getD_cons_zero, List.getD_cons_succ, fe_ext]
    unfold wrN bytesM startB
    cases M.kept
    · rw [if_neg (by decide), if_neg (by decide), X_59, decF_enc, toT_d, int_i, int_i, List.nil_append]
    · rw [if_pos rfl, if_pos rfl, X_60, decF_enc, toT_d, int_i, int_i]
  constructor
  · refine ⟨fun hc => ?_, trivial, trivial⟩
    rw [e54, bool_b] at hc
    have hf : fitsTo t = true := by simpa using hc
    have hlen := hl hf v hv0 hv1
    refine obs_app ⟨trivial, ?_, ?_, ?_, ?_, trivial⟩ ?_
    · simp only [Ob.holds, evs_cons, evs_nil, eK, eV, ev_v, List.getD_cons_zero, List.getD_cons_succ]
      unfold bytesM startB at hlen
      unfold wrN
      cases hk : M.kept
      · rw [if_neg (by decide), side_59, decF_enc, int_i, int_i, toT_d]
        rw [hk, if_neg (by decide), List.nil_append] at hlen
        exact ⟨hwf, by omega⟩
      · rw [if_pos rfl, side_60, decF_enc, int_i, int_i, toT_d]
        rw [hk, if_pos rfl, List.length_append, Fixed_len] at hlen
        exact ⟨hwf, by omega⟩
    · simp only [Ob.holds, evs_cons, evs_nil, eV, eG]
      rw [hS]
      refine ⟨⟨hv0, hv1⟩, ?_, ?_⟩
      · rw [int_i, toT_d]; exact okS_given M.fs v t hp hw
      · rw [int_i, toT_d, hbytes]; exact hlen
    · simp only [Ob.holds, evs_cons, evs_nil, eF]
      rw [side_44, toT_d]
      exact smS M.fs v t hwf
    · simp only [Ob.holds, evs_cons, evs_nil, scE_eval, eV]
      rw [side_43, decF_enc]; exact hwf
    · cases M.kept
      · rw [if_neg (by decide)]
        refine obs_one ?_
        simp only [Ob.holds, evs_cons, evs_nil, ev_v, ev_k, List.getD_cons_zero]
        rw [side_58]
        exact ⟨hn0, hm0, hm1⟩
      · trivial
  · rw [lawE', ev_f]
    simp only [evs_cons, evs_nil]
    rw [e54, ev_k, fe_ite]
    cases hf : fitsTo t with
    | false => rfl
    | true =>
      simp only [Bool.not_true, Bool.false_eq_true, if_false]
      rw [ev_f]
      simp only [evs_cons, evs_nil]
      rw [eM, eW, fe_ext, X_52, asStr_encN, appD_str]
      simp [D.asStr]
/-- a message's making, as a run gives it back -/
theorem make_evM {M : Msg} {m : Nat} (h : okAll M = true) (hX : ∀ v t, X m [v, t] = mX M v t) (hS : ∀ v t, side m [v, t] = mSide M v t) (v : Int) (t : T) (hs : side m [.int v, t.d]) :
    obsHold X side (msgO M v) [.int v, t.d] ∧ (msgE M v).eval X [.int v, t.d] = X m [.int v, t.d] := by
  rw [hS] at hs
  obtain ⟨_, h2, h3⟩ := hs
  rw [int_i, toT_d] at h2 h3
  simp only [okAll, Bool.and_eq_true] at h
  have hm := h.1.1.1.1
  refine ⟨msg_obs hm h2 h3, ?_⟩
  rw [msg_eval hm h2, hX, mX, toT_d, int_i]
end Go.Mx

namespace Go.Mx
open Go Go.Dx

noncomputable def runsTo (P : Program) (C : Cfg) (f : Nat) (c : Ctr) (ks : List (Nat × Int)) (d : DE) (os : List Ob) : Bool :=
  match P.funcs[f]? with
  | some fn => match runFK C 100000 8 c fn ks with
    | some (d', os') => d'.beq d && obbeqs os' os
    | none => false
  | none => false
theorem runsTo_eq {P : Program} {C : Cfg} {f : Nat} {c : Ctr} {ks : List (Nat × Int)} {d : DE} {os : List Ob} (h : runsTo P C f c ks d os = true) : ∃ fn, P.funcs[f]? = some fn ∧ runFK C 100000 8 c fn ks = some (d, os) := by
  unfold runsTo at h
  split at h
  · rename_i fn hf
    split at h
    · rename_i d' os' hr
      simp only [Bool.and_eq_true] at h
      have e1 := DE.beq_eq h.1
      have e2 := obbeqs_eq h.2
      subst e1; subst e2
      exact ⟨fn, hf, hr⟩
    · cases h
  · cases h
def hasBody (P : Program) (f : Nat) : Bool := match P.funcs[f]? with | some fn => fn.body.isSome | none => false
theorem hasBody_eq {P : Program} {f : Nat} (h : hasBody P f = true) : ∃ fn b, P.funcs[f]? = some fn ∧ fn.body = some b := by
  unfold hasBody at h
  split at h
  · rename_i fn hf
    obtain ⟨b, hb⟩ := Option.isSome_iff_exists.1 h
    exact ⟨fn, b, hf, hb⟩
  · cases h
/-- A message's making, by its versions: each run gives data that is what is meant -/
theorem make_okR {P : Program} (hnm : NamesOk P) (hord : P.follows .mixedOrders = true) {f : FuncId} {c : Ctr} {M : Msg} (hf : hasBody P f = true)
    (hpre : c.pre = true) (hsig : areA P [.int .i64, .tree] c.args = true) (hS : ∀ v t, side c.fn [v, t] = mSide M v t)
    (hrun : ∀ v, 0 ≤ v → v ≤ M.most → ∃ C : Cfg, C.P = P ∧ (∀ f c, C.ctr f = some c → CtrOk P X side f c) ∧ ∃ de os, runsTo P C f c [(0, v)] de os = true ∧ ∀ t : T, side c.fn [.int v, t.d] → obsHold X side os [.int v, t.d] ∧ de.eval X [.int v, t.d] = X c.fn [.int v, t.d]) : CtrOk P X side f c := by
  obtain ⟨fn, b, hf, hb⟩ := hasBody_eq hf
  refine ⟨⟨fn, b, hf, hb⟩, fun ok w vs ds hA hok hRd hp => ?_⟩
  have hk := areA_ok hsig hA
  have hs := hp hpre
  obtain @⟨⟩ | @⟨_, d1, _, _, k1, hk⟩ := hk
  obtain @⟨⟩ | @⟨_, d2, _, _, k2, hk⟩ := hk
  cases hk
  obtain ⟨v, rfl, _⟩ := k1
  obtain ⟨t, rfl⟩ := k2
  have hs' := hs
  rw [hS] at hs'
  obtain ⟨C, hP, hall, de, os, hr, he⟩ := hrun v hs'.1.1 hs'.1.2
  subst hP
  obtain ⟨fn', hf', hr⟩ := runsTo_eq hr
  rw [hf] at hf'; cases hf'
  obtain ⟨h1, h2⟩ := he t hs
  refine callK hnm hord hall hf hr hA hok (fun j k hjk => ?_) h1 h2
  simp only [lk] at hjk
  split at hjk
  · rename_i hj; cases hjk; rw [beq_iff_eq] at hj; subst hj; rfl
  · cases hjk
theorem make_okM {P : Program} (hnm : NamesOk P) (hord : P.follows .mixedOrders = true) {f : FuncId} {c : Ctr} {M : Msg} (hf : hasBody P f = true)
    (hpre : c.pre = true) (hsig : areA P [.int .i64, .tree] c.args = true) (hM : okAll M = true) (hX : ∀ v t, X c.fn [v, t] = mX M v t) (hS : ∀ v t, side c.fn [v, t] = mSide M v t)
    (hrun : ∀ v, 0 ≤ v → v ≤ M.most → ∃ C : Cfg, C.P = P ∧ (∀ f c, C.ctr f = some c → CtrOk P X side f c) ∧ runsTo P C f c [(0, v)] (msgE M v) (msgO M v) = true) : CtrOk P X side f c :=
  make_okR hnm hord hf hpre hsig hS (fun v h0 h1 => by
    obtain ⟨C, hP, hc, hr⟩ := hrun v h0 h1
    exact ⟨C, hP, hc, _, _, hr, fun t hs => make_evM hM hX hS v t hs⟩)
/-- the law's function returns true, and writes nothing that was there -/
theorem law_calls {P : Program} {C : Cfg} (hP : C.P = P) (hnm : NamesOk P) (hord : P.follows .mixedOrders = true) (hctr : ∀ f c, C.ctr f = some c → CtrOk P X side f c) {f : Nat} {tu tt tb m : Nat} {M : Msg}
    (hrun : runsTo P C f ⟨[.val tu, .val tt], .val tb, 200, false⟩ [] (lawE' M m) (lawO' M m) = true) (hu : isI P .u8 tu = true) (htree : isTree P tt = true) (hbo : isBo P tb = true)
    (hM : okAll M = true) (hX : ∀ v t, X m [v, t] = mX M v t) (hS : ∀ v t, side m [v, t] = mSide M v t) {ok : Nat → Prop} {w : World} {n : Int} {tv : Value} {d : D} (hn : (Lit.int .u8 n).wf = true) (ht : Rep P ok w tt tv d) (hok : ∀ b, ok b → b < w.heap.size)
    (hl : ∀ t : T, d = t.d → wfT t = true → fitsTo t = true → ∀ v, 0 ≤ v → v ≤ M.most → (bytesM M v t).length + 16 ≤ lim) :
    Calls P f #[.int .u8 n, tv] w fun e w' => e = .returned (.bool true) ∧ Fr (fun _ => False) w w' := by
  subst hP
  obtain ⟨fn, hf, hr⟩ := runsTo_eq hrun
  have hA : ArgsOk C.P ok w [.val tu, .val tt] [.int .u8 n, tv] [.int n, d] := .cons (.val (.int (isI_eq hu) hn)) (.cons (.val ht) .nil)
  obtain ⟨t, rfl⟩ := (rep_tree0 ht).1 htree
  have hw := (rep_treeW ht).1 htree t rfl
  obtain ⟨hn0, hn1⟩ := wf_u8 hn
  have hlaw := law_okM hM hX hS n t hn0 hn1 hw (hl t rfl hw)
  have hW : ∀ b, ¬ Wr w [AK.val tu, .val tt] [.int .u8 n, tv] b := fun b h => by simp [Wr, wrA] at h
  have := callK (C := C) (c := ⟨[.val tu, .val tt], .val tb, 200, false⟩) hnm hord hctr hf hr hA (fun b hb => ⟨hok b hb, hW b⟩) (fun j k hj => by simp [lk] at hj) hlaw.1 (by rw [hlaw.2]; exact (X_200 _).symm)
  refine Calls.mono this (fun e w' he => ?_)
  obtain ⟨v, rfl, hfr, hres⟩ := he
  have e1 : Rep C.P (fun b => ok b ∨ w.heap.size ≤ b) w' tb v (X 200 [.int n, t.d]) := hres (fun b => ok b ∨ w.heap.size ≤ b) (fun _ h => .inl h) (fun _ h _ => .inr h)
  rw [X_200] at e1
  refine ⟨?_, hfr.mono (fun b _ hb => (hW b hb).elim)⟩
  cases e1; rfl
noncomputable def namesOk? (l : List Func) : Bool := l.all fun fn => !(fn.name == "runtime.NumGoroutine")
theorem names_ok {P : Program} (h : namesOk? P.funcs.toList = true) : NamesOk P := fun f fn hf => by
  have := List.all_eq_true.1 h fn (by
    rw [← Array.getElem?_toList] at hf
    exact List.mem_of_getElem? hf)
  simpa using this
end Go.Mx

namespace Go.Mx
open Go Go.Dx

/-! ## How many octets a message has at most -/
mutual
def WT : T → Nat
  | .mk _ s _ l u => 1 + (s.getD []).length + WTo l + ((u.getD []).map fun x => 1 + (x.val.getD []).length).sum
def WTo : Option (List T) → Nat
  | none => 0
  | some l => WTl l
def WTl : List T → Nat
  | [] => 0
  | t :: r => WT t + WTl r
end
theorem WTl_map : ∀ l : List T, WTl l = (l.map WT).sum
  | [] => rfl
  | t :: r => by rw [WTl, WTl_map r]; rfl
theorem WT_pos (t : T) : 1 ≤ WT t := by obtain ⟨n, s, b, l, u⟩ := t; rw [WT]; omega
theorem WT_S (t : T) : t.S.length + 1 ≤ WT t := by obtain ⟨n, s, b, l, u⟩ := t; rw [WT]; show (s.getD []).length + 1 ≤ _; omega
theorem WT_L (t : T) : (t.L.map WT).sum + 1 ≤ WT t := by
  obtain ⟨n, s, b, l, u⟩ := t
  rw [WT]
  cases l with
  | none => show 0 + 1 ≤ _; omega
  | some l => rw [WTo, WTl_map]; show (l.map WT).sum + 1 ≤ _; omega
def WU (u : List Tg) : Nat := (u.map fun x => 1 + (x.val.getD []).length).sum
theorem WT_U (t : T) : WU t.U + 1 ≤ WT t := by
  obtain ⟨n, s, b, l, u⟩ := t
  rw [WT]; show ((u.getD []).map fun x => 1 + (x.val.getD []).length).sum + 1 ≤ _; omega
theorem mem_sum {A : Type} (f : A → Nat) : ∀ {l : List A} {a : A}, a ∈ l → f a ≤ (l.map f).sum
  | b :: l, a, h => by
    rw [List.map_cons, List.sum_cons]
    rcases List.mem_cons.1 h with rfl | h
    · omega
    · have := mem_sum f h; omega
theorem WT_at (t : T) (i : Int) : WT (at' t i) ≤ WT t := by
  have h1 := WT_pos t
  have h0 : WT T.zero = 1 := rfl
  unfold at'
  split
  · rw [List.getD_eq_getElem?_getD]
    cases hg : t.L[i.toNat]? with
    | none => show WT T.zero ≤ _; omega
    | some y =>
      show WT y ≤ _
      have := mem_sum WT (List.mem_of_getElem? hg)
      have := WT_L t
      omega
  · omega
theorem sum_take {A : Type} (f : A → Nat) : ∀ (l : List A) (n : Nat), ((l.take n).map f).sum ≤ (l.map f).sum
  | [], n => by simp
  | a :: l, 0 => by simp
  | a :: l, n + 1 => by
    have := sum_take f l n
    simp only [List.take_succ_cons, List.map_cons, List.sum_cons]
    omega
theorem insTag_W (x : Tg) : ∀ l : List Tg, WU (insTag x l) ≤ WU l + (1 + (x.val.getD []).length)
  | [] => by simp [insTag, WU]
  | t :: r => by
    have := insTag_W x r
    rw [insTag]
    unfold WU at this ⊢
    split
    · simp only [List.map_cons, List.sum_cons] at this ⊢; omega
    · split
      · omega
      · simp only [List.map_cons, List.sum_cons]; omega
theorem unk_W (k : Int) : ∀ (l out : List Tg), WU (l.foldl (fun out t => if t.key < k then out else insTag t out) out) ≤ WU out + WU l
  | [], out => by simp [WU]
  | t :: l, out => by
    have h3 : WU (t :: l) = (1 + (t.val.getD []).length) + WU l := by simp [WU]
    rw [List.foldl]
    by_cases c : t.key < k
    · rw [if_pos c]
      have h1 := unk_W k l out
      omega
    · rw [if_neg c]
      have h1 := unk_W k l (insTag t out)
      have h2 := insTag_W t out
      omega
theorem unknown_W (fs : List Fl) (u : Option (List Tg)) : WU (unknown fs u) ≤ WU (u.getD []) := by
  have h1 := unk_W (known fs) ((u.getD []).take Most) []
  have h2 := sum_take (fun x : Tg => 1 + (x.val.getD []).length) (u.getD []) Most
  unfold unknown
  unfold WU at *
  simp only [List.map_nil, List.sum_nil] at h1
  omega
theorem Uv_le {n : Nat} (h : n < 18446744073709551616) : (Uvarint n).length ≤ 10 := by
  have key : ∀ (k n : Nat), n < 128 ^ (k + 1) → (Uvarint n).length ≤ k + 1 := by
    intro k
    induction k with
    | zero => intro n hn; rw [Uvarint, if_neg (by omega)]; simp
    | succ k ih =>
      intro n hn
      rw [Uvarint]
      split
      · rw [List.length_cons]
        have := ih (n / 128) (by rw [Nat.pow_succ] at hn; exact Nat.div_lt_of_lt_mul (by rw [Nat.mul_comm]; exact hn))
        omega
      · simp
  exact key 9 n (Nat.lt_trans h (by decide))
theorem unkB_le (x : Tg) : (unkB x).length ≤ 20 + (x.val.getD []).length := by
  rw [unkB, tagB, List.length_append, List.length_append]
  have h1 : (Uvarint (IntKind.u64.wrap x.key).toNat).length ≤ 10 := Uv_le (by rw [IntKind.wrap_u64]; omega)
  have h2 : ((x.val.getD []).take Most).length ≤ (x.val.getD []).length := by rw [List.length_take]; omega
  have h3 : (Uvarint ((x.val.getD []).take Most).length).length ≤ 10 := Uv_le (by rw [List.length_take]; simp only [Most]; omega)
  omega
theorem unks_le : ∀ l : List Tg, ((l.map unkB).flatten).length ≤ 20 * WU l
  | [] => by simp
  | x :: l => by
    have h1 := unkB_le x
    have h2 := unks_le l
    have h3 : WU (x :: l) = (1 + (x.val.getD []).length) + WU l := by simp [WU]
    rw [List.map_cons, List.flatten_cons, List.length_append]
    omega
mutual
def cF : Fl → Nat
  | .mk k _ _ _ _ _ of sub => if k = 11 then 10 + 2 * cV of (cS sub) else 1 + cV k (cS sub)
def cS : Option (List Fl) → Nat
  | none => 30
  | some l => cL l + 30
def cL : List Fl → Nat
  | [] => 0
  | f :: r => cF f + cL r
def cV (k : Int) (s : Nat) : Nat := if k = 10 then s else 16
end
theorem counted_le (x b : Bool) {n k : Nat} (h : n < 18446744073709551615) (hk : k ≤ 4) : (counted x b n k).length ≤ 10 := by
  cases x <;> cases b <;> simp [counted, Fixed_len]
  · omega
  · omega
  · exact Uv_le (by omega)
theorem valueB_le (k : Int) (b x : Bool) (t : T) (p : List UInt8) (s : Nat) (hp : p.length ≤ s * (1 + WT t)) : (valueB k b x t p).length ≤ cV k s * (1 + WT t) := by
  unfold valueB cV
  have hw := WT_S t
  by_cases h10 : k = 10
  · subst h10
    simp only [show ¬ ((10 : Int) = 0) by decide, show ¬ ((10 : Int) = 7) by decide, show ¬ ((10 : Int) = 8) by decide, show ¬ ((10 : Int) = 9) by decide, if_true, if_false]
    exact hp
  rw [if_neg h10, if_neg h10]
  have hS : (if b then [] else t.S.take Most).length ≤ t.S.length ∧ (if b then [] else t.S.take Most).length ≤ 32767 := by cases b <;> simp [Most] <;> omega
  by_cases h0 : k = 0
  · rw [if_pos h0]; simp; omega
  rw [if_neg h0]
  by_cases h7 : k = 7
  · rw [if_pos h7, sixteen_len]; omega
  rw [if_neg h7]
  by_cases h8 : k = 8
  · rw [if_pos h8]
    have := counted_le x b (n := (if b then [] else t.S.take Most).length) (k := 2) (by omega) (by omega)
    simp only [List.length_append]
    omega
  rw [if_neg h8]
  by_cases h9 : k = 9
  · rw [if_pos h9]
    have := counted_le x b (n := (if b then [] else t.S.take Most).length) (k := 4) (by omega) (by omega)
    simp only [List.length_append]
    omega
  rw [if_neg h9, Fixed_len]
  have : (width k).toNat ≤ 8 := by
    unfold width
    repeat (first | decide | split)
  omega
theorem flat_W {A : Type} (g : A → List UInt8) (w : A → Nat) (c : Nat) : ∀ l : List A, (∀ y ∈ l, (g y).length ≤ c * (1 + w y)) → (∀ y ∈ l, 1 ≤ w y) → ((l.map g).flatten).length ≤ 2 * c * (l.map w).sum
  | [], _, _ => by simp
  | y :: l, h, hw => by
    have h1 := h y (by simp)
    have h2 := flat_W g w c l (fun z hz => h z (by simp [hz])) (fun z hz => hw z (by simp [hz]))
    have h3 := hw y (by simp)
    rw [List.map_cons, List.flatten_cons, List.length_append, List.map_cons, List.sum_cons, Nat.mul_add]
    have h4 : c * (1 + w y) ≤ 2 * c * w y := by
      have : 1 + w y ≤ 2 * w y := by omega
      calc c * (1 + w y) ≤ c * (2 * w y) := Nat.mul_le_mul_left _ this
        _ = 2 * c * w y := by rw [← Nat.mul_assoc, Nat.mul_comm c 2]
    omega
theorem tail_le (fs : Option (List Fl)) (v : Int) (x : Bool) (t : T) (hp : plainS fs = true) {c : Nat} (h : (outP (fs.getD []) v x t).length ≤ c * (1 + WT t)) : (partS fs v x t).length ≤ (c + 30) * (1 + WT t) := by
  have hk : known (fs.getD []) = 0 := by
    cases fs with
    | none => rfl
    | some l => exact known_plain hp
  rw [Nat.add_mul]
  cases x with
  | false => rw [partS_false]; omega
  | true =>
    rw [partS_true, List.length_append, List.length_append]
    have e1 : tags1 (fs.getD []) v true t = [] := by rw [tags1, hk]; rfl
    rw [tagsP, e1, List.nil_append, tags2, List.length_map]
    have h1 := unks_le (unknown (fs.getD []) t.u)
    have h2 := unknown_W (fs.getD []) t.u
    have h3 := WT_U t
    have h4 := unknown_len (fs.getD []) t.u
    have h5 := Uv_le (n := (unknown (fs.getD []) t.u).length) (by omega)
    have h6 : WU (t.u.getD []) = WU t.U := rfl
    omega
mutual
theorem field_le : ∀ (f : Fl) (v : Int) (x : Bool) (t : T), plainF f = true → (field f v x t).length ≤ cF f * (1 + WT t)
  | .mk k a b nl g df of sub, v, x, t, hp => by
    obtain ⟨_, _, _, hps⟩ := plainF_mk hp
    rw [field_eq]
    simp only [Fl.kind, Fl.null, Fl.of, Fl.sub]
    generalize Mx.null (.mk k a b nl g df of sub) v t = bn
    have hw := WT_pos t
    unfold fieldB
    rw [cF]
    by_cases h : k = 11
    · rw [if_pos h, if_pos h, List.length_append]
      have hl : (if bn then ([] : List T) else t.L.take Most).length ≤ 32767 := by cases bn <;> simp [Most]; omega
      have h1 := counted_le x bn (n := (if bn then ([] : List T) else t.L.take Most).length) (k := 4) (by omega) (by omega)
      have h2 := flat_W (fun y => valueB of false x y (partS sub v x y)) WT (cV of (cS sub)) (if bn then ([] : List T) else t.L.take Most) (fun y _ => valueB_le of false x y _ _ (part_le sub v x y hps)) (fun y _ => WT_pos y)
      have h3 : ((if bn then ([] : List T) else t.L.take Most).map WT).sum ≤ WT t := by
        have := WT_L t
        have := sum_take WT t.L Most
        cases bn
        · simp only [Bool.false_eq_true, if_false]; omega
        · simp
      have h4 : 2 * cV of (cS sub) * ((if bn then ([] : List T) else t.L.take Most).map WT).sum ≤ 2 * cV of (cS sub) * WT t := Nat.mul_le_mul_left _ h3
      have e : (10 + 2 * cV of (cS sub)) * (1 + WT t) = 10 * (1 + WT t) + 2 * cV of (cS sub) * (1 + WT t) := Nat.add_mul _ _ _
      have e2 : 2 * cV of (cS sub) * WT t ≤ 2 * cV of (cS sub) * (1 + WT t) := Nat.mul_le_mul_left _ (by omega)
      have h2' : ((((if bn then ([] : List T) else t.L.take Most)).map fun y => valueB of false x y (partS sub v x y)).flatten).length ≤ 2 * cV of (cS sub) * ((if bn then ([] : List T) else t.L.take Most).map WT).sum := h2
      have h5 : ((((if bn then ([] : List T) else t.L.take Most)).map fun x_1 => valueB of false x x_1 ((fun x_2 => partS sub v x x_2) x_1)).flatten).length = ((((if bn then ([] : List T) else t.L.take Most)).map fun y => valueB of false x y (partS sub v x y)).flatten).length := rfl
      simp only at *
      omega
    · rw [if_neg h, if_neg h]
      have h1 := valueB_le k bn x t (partS sub v x t) (cS sub) (part_le sub v x t hps)
      have e : (1 + cV k (cS sub)) * (1 + WT t) = (1 + WT t) + cV k (cS sub) * (1 + WT t) := by rw [Nat.add_mul, Nat.one_mul]
      split
      · rename_i hc
        have h2 : (partS sub v x t).length ≤ cV k (cS sub) * (1 + WT t) := by rw [cV, if_pos hc.1]; exact part_le sub v x t hps
        split
        · rw [Fixed_len]; omega
        · rw [List.length_append, Fixed_len]
          omega
      · refine Nat.le_trans h1 ?_
        omega
theorem part_le : ∀ (fs : Option (List Fl)) (v : Int) (x : Bool) (t : T), plainS fs = true → (partS fs v x t).length ≤ cS fs * (1 + WT t)
  | none, v, x, t, hp => by
    have h := tail_le (c := 0) none v x t hp (by simp [outP, mapI])
    rw [cS]
    simpa using h
  | some l, v, x, t, hp => by
    have hl := fields_le l v x t hp 0
    have h := tail_le (some l) v x t hp hl
    rw [cS]
    exact h
theorem fields_le : ∀ (l : List Fl) (v : Int) (x : Bool) (t : T), plainL l = true → ∀ i, ((mapI (fun i f => cellO v (rowP v x t i f)) i l).flatten).length ≤ cL l * (1 + WT t)
  | [], _, _, _, _, _ => by simp [mapI]
  | f :: r, v, x, t, hp, i => by
    simp only [plainL, Bool.and_eq_true] at hp
    have h1 := field_le f v x (at' t i) hp.1
    have h2 := fields_le r v x t hp.2 (i + 1)
    have h3 := WT_at t i
    have h4 : cF f * (1 + WT (at' t i)) ≤ cF f * (1 + WT t) := Nat.mul_le_mul_left _ (by omega)
    have h5 : (cellO v (rowP v x t i f)).length ≤ (field f v x (at' t i)).length := by
      unfold cellO rowP
      split
      · exact Nat.le_refl _
      · simp
    rw [mapI, List.flatten_cons, List.length_append, cL, Nat.add_mul]
    omega
end
/-- a message has no more octets than so many a value that it holds -/
theorem bytes_le {M : Msg} (h : okAll M = true) {t : T} {B : Nat} (hb : WT t ≤ B) (hc : 2 + cS M.fs * (1 + B) + 16 ≤ lim) (v : Int) : (bytesM M v t).length + 16 ≤ lim := by
  simp only [okAll, okMsg, Bool.and_eq_true] at h
  have h1 := part_le M.fs v (Flexible M.fx v) t h.1.1.1.1.1.1
  have h2 : cS M.fs * (1 + WT t) ≤ cS M.fs * (1 + B) := Nat.mul_le_mul_left _ (by omega)
  have h3 : (startB M v).length ≤ 2 := by unfold startB; split <;> simp [Fixed_len]
  unfold bytesM
  rw [List.length_append]
  omega
theorem WU_wDs : ∀ (l : List Tg), (l.map fun x => 1 + (x.val.getD []).length).sum ≤ wDs (l.map Tg.d)
  | [] => by simp
  | x :: r => by
    have h2 := WU_wDs r
    have h1 : 1 + (x.val.getD []).length ≤ wD x.d := by
      rw [Tg.d, wD, wDs, wDs, wDs]
      cases x.val with
      | none => simp [encB, wD]
      | some s => simp only [encB, wD, Option.getD_some]; omega
    rw [List.map_cons, List.sum_cons, List.map_cons, wDs]; omega
mutual
theorem WT_wD : ∀ t : T, WT t ≤ wD t.d
  | .mk n s b l u => by
    have h1 := WTo_wD l
    rw [WT, T.d, wD, wDs, wDs, wDs, wDs, wDs, wDs]
    have h2 : ((u.getD []).map fun x => 1 + (x.val.getD []).length).sum ≤ wD (encU u) := by
      cases u with
      | none => simp
      | some u => have := WU_wDs u; rw [encU, wD]; simp only [Option.getD_some]; omega
    have h3 : (s.getD []).length ≤ wD (encB s) := by
      cases s with
      | none => simp
      | some s => rw [encB, wD]; simp
    have h4 : wD (D.int n) = 1 := rfl
    omega
theorem WTo_wD : ∀ l : Option (List T), WTo l ≤ wD (encT l)
  | none => by rw [WTo]; exact Nat.zero_le _
  | some l => by
    rw [WTo, encT, wD]
    have := WTs_wD l
    omega
theorem WTs_wD : ∀ l : List T, WTl l ≤ wDs (tds l)
  | [] => by rw [WTl, tds, wDs]; exact Nat.le_refl _
  | t :: r => by
    have h1 := WT_wD t
    have h2 := WTs_wD r
    rw [WTl, tds, wDs]; omega
end

/-! ## ConnectMemberMetadata: its octets are written as such that may be null -/
def K101 : Msg := ⟨false, true, some [.mk 8 0 (-1) (-1) (-1) 0 0 none, .mk 4 0 (-1) (-1) (-1) 0 0 none, .mk 9 1 (-1) 0 (-1) 0 0 none], (-1), 1⟩
theorem make_ev101 (v : Int) (t : T) (hs : side 101 [.int v, t.d]) : obsHold X side (msgO K101 v) [.int v, t.d] ∧ (msgE K101 v).eval X [.int v, t.d] = X 101 [.int v, t.d] := by
  rw [side_101] at hs
  obtain ⟨⟨h0, _⟩, h2, h3⟩ := hs
  rw [int_i] at h0
  rw [int_i, toT_d] at h2 h3
  have hok : okMsg K101 = true := by decide
  have hK : okS v K101.fs t := by
    refine ⟨h2.1, h2.2.1, h2.2.2.1, ⟨fun hk => ?_, fun hk => by cases hk⟩, trivial⟩
    obtain ⟨a, b⟩ := h2.2.2.2.1.1 hk
    exact ⟨a, fun hn => by have := (b hn).1; omega⟩
  have hnull : (at' t 2).null = false := by
    cases hn : (at' t 2).null with
    | false => rfl
    | true => have := (h2.2.2.2.1.1 (.inr rfl)).2 hn; omega
  have hb : bytesM K101 v t = bytesM M101 v t := by
    have hn1 : Mx.null (.mk 9 1 (-1) 0 (-1) 0 0 none) v (at' t 2) = false := by rw [null_eq, hnull]; rfl
    have hn2 : Mx.null (.mk 9 1 (-1) (-1) (-1) 0 0 none) v (at' t 2) = false := by rw [null_eq, hnull]; rfl
    have hf : field (.mk 9 1 (-1) 0 (-1) 0 0 none) v false (at' t 2) = field (.mk 9 1 (-1) (-1) (-1) 0 0 none) v false (at' t 2) := by
      rw [field_eq, field_eq, hn1, hn2]; rfl
    show startB K101 v ++ partS K101.fs v false t = startB M101 v ++ partS M101.fs v false t
    rw [partS_false, partS_false]
    have e : ∀ f, has f v = has (.mk f.kind f.frm f.to (-1) f.tag f.dflt f.of f.sub) v := fun f => rfl
    show startB M101 v ++ (cellO v _ ++ (cellO v _ ++ (cellO v (rowP v false t 2 (.mk 9 1 (-1) 0 (-1) 0 0 none)) ++ []))) = startB M101 v ++ (cellO v _ ++ (cellO v _ ++ (cellO v (rowP v false t 2 (.mk 9 1 (-1) (-1) (-1) 0 0 none)) ++ [])))
    have hc : cellO v (rowP v false t 2 (.mk 9 1 (-1) 0 (-1) 0 0 none)) = cellO v (rowP v false t 2 (.mk 9 1 (-1) (-1) (-1) 0 0 none)) := by
      show (if (-1 : Int) < 0 ∧ has (.mk 9 1 (-1) 0 (-1) 0 0 none) v = true then field (.mk 9 1 (-1) 0 (-1) 0 0 none) v false (at' t 2) else []) = (if (-1 : Int) < 0 ∧ has (.mk 9 1 (-1) 0 (-1) 0 0 none) v = true then field (.mk 9 1 (-1) (-1) (-1) 0 0 none) v false (at' t 2) else [])
      rw [hf]
    rw [hc]
  refine ⟨msg_obs hok hK (by rw [hb]; exact h3), ?_⟩
  rw [msg_eval hok hK, hb, X_101, mX, toT_d, int_i]
end Go.Mx

namespace Go.Mx
open Go Go.Dx


/-! ## Maps of tags -/
theorem insM_srt (k : Int) (d : D) : ∀ l : List (Int × D), (l.map (·.1)).Pairwise (· < ·) → ((insM k d l).map (·.1)).Pairwise (· < ·) ∧ ∀ y ∈ insM k d l, y = (k, d) ∨ (y ∈ l ∧ y.1 ≠ k)
  | [], _ => by simp [insM]
  | x :: r, h => by
    rw [List.map_cons] at h
    obtain ⟨h1, h2⟩ := List.pairwise_cons.1 h
    have hx : ∀ y ∈ r, x.1 < y.1 := fun y hy => h1 _ (List.mem_map.2 ⟨y, hy, rfl⟩)
    obtain ⟨i1, i2⟩ := insM_srt k d r h2
    rw [insM]
    split
    · rename_i hlt
      refine ⟨?_, fun y hy => ?_⟩
      · rw [List.map_cons]
        refine List.pairwise_cons.2 ⟨fun z hz => ?_, i1⟩
        obtain ⟨y, hy, rfl⟩ := List.mem_map.1 hz
        rcases i2 y hy with rfl | ⟨hy, _⟩
        · exact hlt
        · exact hx y hy
      · rcases List.mem_cons.1 hy with rfl | hy
        · exact .inr ⟨by simp, by omega⟩
        · rcases i2 y hy with h | ⟨h, hn⟩
          · exact .inl h
          · exact .inr ⟨by simp [h], hn⟩
    · split
      · rename_i heq
        refine ⟨?_, fun y hy => ?_⟩
        · rw [List.map_cons]
          exact List.pairwise_cons.2 ⟨fun z hz => by rw [← heq]; exact h1 z hz, h2⟩
        · rcases List.mem_cons.1 hy with rfl | hy
          · exact .inl rfl
          · exact .inr ⟨by simp [hy], by have := hx y hy; omega⟩
      · refine ⟨?_, fun y hy => ?_⟩
        · rw [List.map_cons, List.map_cons]
          refine List.pairwise_cons.2 ⟨fun z hz => ?_, List.pairwise_cons.2 ⟨h1, h2⟩⟩
          rcases List.mem_cons.1 hz with rfl | hz
          · show k < x.1; omega
          · have := h1 z hz; show k < z; omega
        · rcases List.mem_cons.1 hy with rfl | hy
          · exact .inl rfl
          · refine .inr ⟨hy, ?_⟩
            rcases List.mem_cons.1 hy with rfl | hy
            · omega
            · have := hx y hy; omega
theorem insM_new (k : Int) (d : D) : ∀ l : List (Int × D), (∀ y ∈ l, y.1 ≠ k) → ((insM k d l).map (·.1)).Perm (k :: l.map (·.1))
  | [], _ => by simp [insM]
  | x :: r, h => by
    rw [insM]
    split
    · rw [List.map_cons, List.map_cons]
      exact ((insM_new k d r (fun y hy => h y (by simp [hy]))).cons x.1).trans (List.Perm.swap _ _ _)
    · rw [if_neg (h x (by simp))]
      exact List.Perm.refl _
theorem insM_old (k : Int) (d : D) : ∀ l : List (Int × D), (l.map (·.1)).Pairwise (· < ·) → (∃ y ∈ l, y.1 = k) → (insM k d l).map (·.1) = l.map (·.1)
  | [], _, h => by obtain ⟨y, hy, _⟩ := h; cases hy
  | x :: r, h, hk => by
    rw [List.map_cons] at h
    obtain ⟨h1, h2⟩ := List.pairwise_cons.1 h
    obtain ⟨y, hy, rfl⟩ := hk
    rw [insM]
    rcases List.mem_cons.1 hy with rfl | hy
    · rw [if_neg (by omega), if_pos rfl]; rfl
    · have hlt : x.1 < y.1 := h1 _ (List.mem_map.2 ⟨y, hy, rfl⟩)
      rw [if_pos hlt, List.map_cons, List.map_cons, insM_old y.1 d r h2 ⟨y, hy, rfl⟩]
section
variable {P : Program} {ok : Nat → Prop} {w : World} {m k e r : Nat} {ds : List (Int × D)} {clock : Nat} {es : Array MapEntry}
theorem keys_read (hk : P.underlying k = some (.int .u32)) (hkeys : (es.toList.map (·.key)).Perm (ds.map fun d => Value.int .u32 d.1)) (hkw : ∀ d ∈ ds, (Lit.int .u32 d.1).wf = true) : ∀ x ∈ es.toList, ∃ d ∈ ds, x.key = .int .u32 d.1 ∧ keyOf P k x.key = some (.int .u32 d.1) := by
  intro x hx
  have h1 : x.key ∈ ds.map fun d => Value.int .u32 d.1 := hkeys.subset (List.mem_map.2 ⟨x, hx, rfl⟩)
  obtain ⟨d, hd, he⟩ := List.mem_map.1 h1
  refine ⟨d, hd, he.symm, ?_⟩
  rw [← he]
  exact Maps.keyOf_int_mk hk (hkw d hd)
theorem set_same {A : Type} {l : List A} {j : Nat} {a : A} (h : l[j]? = some a) : l.set j a = l := by
  apply List.ext_getElem (by simp)
  intro i h1 h2
  rw [List.getElem_set]
  split
  · rename_i e; subst e; exact (List.getElem?_eq_some_iff.1 h).2.symm
  · rfl
theorem modify_list {A : Type} (es : Array A) (j : Nat) (e0 : A) (f : A → A) (h : es.toList[j]? = some e0) : (es.modify j f).toList = es.toList.set j (f e0) := by
  rw [Array.toList_modify, ChangeMaps.modify_eq_set _ _ _ _ h]
/-- m[n] = v -/
theorem tags_update {n : Int} {v : Value} {dv : D} (h : TagsAt P ok w m (.map (some r)) (.map ds)) (hm : P.underlying m = some (.map k e)) (hn : (Lit.int .u32 n).wf = true) (hv : Rep P ok w e v dv) :
    ∃ es' clock', (Instr.mapUpdate m (.map (some r)) (.int .u32 n) v).run P w = .ok () (ChangeMaps.setBlock w r (.map es' clock')) ∧
      ∀ (ok' : Nat → Prop) (w' : World), w'.heap[r]? = some (.map es' clock') → (∀ b, ok b → ok' b ∧ w'.heap[b]? = w.heap[b]?) → TagsAt P ok' w' m (.map (some r)) (.map (insM n dv ds)) := by
  cases h with
  | map hu hk hh hkeys hkw hs hborn hclock hr =>
    rw [hm] at hu; cases hu
    rename_i clock es
    have K := Maps.int_keyed hk
    have hkey := Maps.keyOf_int_mk hk hn
    have hkr := keys_read hk hkeys hkw
    obtain ⟨s1, s2⟩ := insM_srt n dv ds hs
    have hin : ∀ d' ∈ ds, d'.1 ≠ n → True := fun _ _ _ => trivial
    rcases K.find w hkey es.toList (fun x hx => by obtain ⟨d, _, _, h⟩ := hkr x hx; exact ⟨_, h⟩) with ⟨h1, h2⟩ | ⟨j, e0, h1, h2, h3⟩
    · refine ⟨es.push ⟨.int .u32 n, v, clock⟩, clock + 1, ?_, fun ok' w' hw' hok' => ?_⟩
      · simp [Instr.mapUpdate, run_underlying hm, Go.MapKept.run_getObj_map hh, K.check w false hkey, h1, Go.MapKept.run_setObj_map _ hh, Result.andThen, ChangeMaps.setBlock]
      · have hnew : ∀ y ∈ ds, y.1 ≠ n := fun y hy he => by
          have : Value.int .u32 n ∈ es.toList.map (·.key) := hkeys.symm.subset (List.mem_map.2 ⟨y, hy, by rw [he]⟩)
          obtain ⟨x, hx, hxe⟩ := List.mem_map.1 this
          exact h2 x hx hxe
        refine .map hm hk hw' ?_ (fun d hd => ?_) s1 ?_ ?_ ?_
        · have hp := (insM_new n dv ds hnew).map (fun i => Value.int .u32 i)
          rw [List.map_map] at hp
          have e1 : (ds.map fun d => Value.int .u32 d.1) = (ds.map (·.1)).map (fun i => Value.int .u32 i) := by rw [List.map_map]; rfl
          simp only [Array.toList_push, List.map_append, List.map_cons, List.map_nil]
          refine List.Perm.trans ?_ hp.symm
          rw [List.map_cons, ← e1]
          exact (hkeys.append_right _).trans (List.perm_append_singleton _ _)
        · rcases s2 d hd with rfl | ⟨hd, _⟩
          · exact hn
          · exact hkw d hd
        · simp only [Array.toList_push, List.map_append, List.map_cons, List.map_nil]
          refine List.nodup_append.2 ⟨hborn, by simp, fun a ha b hb => ?_⟩
          obtain ⟨x, hx, rfl⟩ := List.mem_map.1 ha
          rw [List.mem_singleton] at hb
          have := hclock x hx
          omega
        · intro x hx
          simp only [Array.toList_push, List.mem_append, List.mem_singleton] at hx
          rcases hx with hx | rfl
          · have := hclock x hx; omega
          · show clock < clock + 1; omega
        · intro x hx n' d' hxn hd'
          simp only [Array.toList_push, List.mem_append, List.mem_singleton] at hx
          rcases hx with hx | rfl
          · have hne : n' ≠ n := fun e1 => h2 x hx (by rw [hxn, e1])
            rcases s2 _ hd' with h4 | ⟨h4, _⟩
            · cases h4; exact absurd rfl hne
            · exact (hr x hx n' d' hxn h4).mono (fun b hb => (hok' b hb).1) (fun b hb => (hok' b hb).2)
          · have hxn : Value.int .u32 n = .int .u32 n' := hxn
            cases hxn
            rcases s2 _ hd' with h4 | ⟨_, h4⟩
            · cases h4; exact hv.mono (fun b hb => (hok' b hb).1) (fun b hb => (hok' b hb).2)
            · exact absurd rfl h4
    · have hj : es[j]? = some e0 := by simpa using h2
      have hlist : (es.modify j (fun e' => { e' with key := .int .u32 n, val := v })).toList = es.toList.set j { e0 with key := .int .u32 n, val := v } := modify_list es j e0 _ h2
      have hjl : j < es.toList.length := (List.getElem?_eq_some_iff.1 h2).1
      have hkeyS : (es.toList.set j { e0 with key := .int .u32 n, val := v }).map (·.key) = es.toList.map (·.key) := by
        rw [List.map_set]
        exact set_same (by rw [List.getElem?_map, h2]; simp [h3])
      have hbornS : (es.toList.set j { e0 with key := .int .u32 n, val := v }).map (·.born) = es.toList.map (·.born) := by
        rw [List.map_set]
        exact set_same (by rw [List.getElem?_map, h2]; rfl)
      have hold : ∃ y ∈ ds, y.1 = n := by
        obtain ⟨d, hd, he, _⟩ := hkr e0 (List.mem_of_getElem? h2)
        rw [h3] at he
        cases he
        exact ⟨d, hd, rfl⟩
      refine ⟨es.modify j (fun e' => { e' with key := .int .u32 n, val := v }), clock, ?_, fun ok' w' hw' hok' => ?_⟩
      · simp [Instr.mapUpdate, run_underlying hm, Go.MapKept.run_getObj_map hh, K.check w false hkey, h1, hj, h3, K.stays w hkey, Go.MapKept.run_setObj_map _ hh, Result.andThen, ChangeMaps.setBlock]
      · refine .map hm hk hw' ?_ (fun d hd => ?_) s1 ?_ ?_ ?_
        · rw [hlist, hkeyS]
          have e1 : (ds.map fun d => Value.int .u32 d.1) = (ds.map (·.1)).map (fun i => Value.int .u32 i) := by rw [List.map_map]; rfl
          have e2 : ((insM n dv ds).map fun d => Value.int .u32 d.1) = ((insM n dv ds).map (·.1)).map (fun i => Value.int .u32 i) := by rw [List.map_map]; rfl
          rw [e2, insM_old n dv ds hs hold, ← e1]
          exact hkeys
        · rcases s2 d hd with rfl | ⟨hd, _⟩
          · exact hn
          · exact hkw d hd
        · rw [hlist, hbornS]; exact hborn
        · intro x hx
          have : x.born ∈ es.toList.map (·.born) := by
            rw [← hbornS]
            rw [hlist] at hx
            exact List.mem_map.2 ⟨x, hx, rfl⟩
          obtain ⟨y, hy, hye⟩ := List.mem_map.1 this
          rw [← hye]
          exact hclock y hy
        · intro x hx n' d' hxn hd'
          rw [hlist] at hx
          obtain ⟨i, hi, hxi⟩ := List.mem_iff_getElem.1 hx
          rw [List.getElem_set] at hxi
          split at hxi
          · subst hxi
            have hxn : Value.int .u32 n = .int .u32 n' := hxn
            cases hxn
            rcases s2 _ hd' with h4 | ⟨_, h4⟩
            · cases h4; exact hv.mono (fun b hb => (hok' b hb).1) (fun b hb => (hok' b hb).2)
            · exact absurd rfl h4
          · rename_i hne
            have hil : i < es.toList.length := by rw [List.length_set] at hi; exact hi
            have hxm : x ∈ es.toList := hxi ▸ List.getElem_mem hil
            have hne2 : n' ≠ n := fun e1 => by
              have hnd : (es.toList.map (·.key)).Nodup := by
                refine hkeys.nodup_iff.2 ?_
                have : (ds.map (·.1)).Nodup := hs.imp (fun {a b} h => by omega)
                have e1 : (ds.map fun d => Value.int .u32 d.1) = (ds.map (·.1)).map (fun i => Value.int .u32 i) := by rw [List.map_map]; rfl
                rw [e1]
                exact List.Pairwise.map _ (fun a b (hab : a ≠ b) hc => hab (by cases hc; rfl)) this
              have hi2 : i < (es.toList.map (·.key)).length := by rw [List.length_map]; exact hil
              have hj2 : j < (es.toList.map (·.key)).length := by rw [List.length_map]; exact hjl
              have : (es.toList.map (·.key))[i] = (es.toList.map (·.key))[j] := by
                rw [List.getElem_map, List.getElem_map, hxi, hxn, e1]
                have := (List.getElem?_eq_some_iff.1 h2).2
                rw [this, h3]
              exact hne ((List.getElem_inj hnd).1 this).symm
            rcases s2 _ hd' with h4 | ⟨h4, _⟩
            · cases h4; exact absurd rfl hne2
            · exact (hr x hxm n' d' hxn h4).mono (fun b hb => (hok' b hb).1) (fun b hb => (hok' b hb).2)
end
end Go.Mx
