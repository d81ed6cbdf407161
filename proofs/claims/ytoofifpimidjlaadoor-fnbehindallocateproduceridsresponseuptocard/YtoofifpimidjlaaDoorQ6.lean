/- Part of a verified symbolic run of the program's code (no condition of its own). -/
import Derived.Test.YtoofifpimidjlaaDoorQ5
import Derived.ChangeArms
import Derived.ChangeShapes
import Derived.Maps.RangeWalk
import Derived.Maps.OwnSet
import Derived.WalkKit
import Derived.Shelf.Bin.BEUint64
import Derived.Shelf.Bin.BEUint32
set_option linter.unusedVariables false
set_option linter.unusedSimpArgs false
namespace Go.Mx
open Go Go.Dx
theorem wfTo_nz {l : List T} (h : ∀ y ∈ l, wfT y = true) : wfTo (nz l) = true := by
 cases l with
 | nil => rfl
 | cons a l => exact wfTl_all.2 h
theorem all_nz {u : List Tg} (h : ∀ y ∈ u, 0 <= y.key /\ y.key < 4294967296) : ((nz u).getD []).all wfTg = true := by
 rw [nz_getD]
 exact List.all_eq_true.2 fun y hy => by simp [wfTg, h y hy]
theorem wfT_mk {n : Int} {s : Option (List UInt8)} {b : Bool} {l : Option (List T)} {u : Option (List Tg)} (h1 : (Lit.int .i64 n).wf = true) (h2 : wfTo l = true) (h3 : (u.getD []).all wfTg = true) : wfT (.mk n s b l u) = true := by
 rw [wfT, h1, h2, h3]; rfl
theorem wfT_un {n : Int} {s : Option (List UInt8)} {b : Bool} {l : Option (List T)} {u : Option (List Tg)} (h : wfT (.mk n s b l u) = true) : (Lit.int .i64 n).wf = true /\ wfTo l = true /\ (u.getD []).all wfTg = true := by
 simp only [wfT, Bool.and_eq_true] at h
 exact ⟨h.1.1, h.1.2, h.2⟩
theorem wfT_fittedB {kind : Int} {b : Bool} {t ft : T} (h : wfT t = true) (hf : wfT ft = true) : wfT (fittedB kind b t ft) = true := by
 obtain ⟨n, s, nb, l, u⟩ := t
 obtain ⟨n', s', nb', l', u'⟩ := ft
 unfold fittedB
 split
 ·exact wfT_mk (by decide) rfl rfl
 ·split
  ·obtain ⟨a1, a2, a3⟩ := wfT_un hf
   exact wfT_mk a1 a2 a3
  ·exact wfT_mk (wfT_un h).1 rfl rfl
mutual
theorem wfT_fitted : ∀ (f : Fl) (v : Int) (t : T), wfT t = true -> wfT (fitted f v t) = true
 | .mk k fr to nl tg df of sub, v, t, h => by
  rw [fitted]
  split
  ·refine wfT_mk (by decide) (wfTo_nz fun y hy => ?_) rfl
   obtain ⟨z, hz, rfl⟩ := List.mem_map.1 hy
   have hz' := wfT_L h z (List.mem_of_mem_take hz)
   exact wfT_fittedB hz' (wfT_FitS sub v z hz')
  ·exact wfT_fittedB h (wfT_FitS sub v t h)
theorem wfT_FitS : ∀ (fs : Option (List Fl)) (v : Int) (t : T), wfT t = true -> wfT (FitS fs v t) = true
 | none, v, t, h => by
  have hu := (tags_gF none v t h).2.2
  rw [FitS]
  refine wfT_mk (by decide) rfl (all_nz fun y hy => ?_)
  have e : (given (FitS none v t)).U = (unknown [] t.u).map fun x => (⟨x.key, whole x.val⟩ : Tg) := by
   unfold T.U; rw [given_u, nz_getD, FitS]; exact nz_getD _
  have := hu y (by rw [e]; exact hy)
  exact ⟨this.1, this.2.1⟩
 | some l, v, t, h => by
  have hu := (tags_gF (some l) v t h).2.2
  rw [FitS]
  refine wfT_mk (by decide) (wfTo_nz (wfT_fitL l 0 v t h)) (all_nz fun y hy => ?_)
  have e : (given (FitS (some l) v t)).U = (unknown l t.u).map fun x => (⟨x.key, whole x.val⟩ : Tg) := by
   unfold T.U; rw [given_u, nz_getD, FitS]; exact nz_getD _
  have := hu y (by rw [e]; exact hy)
  exact ⟨this.1, this.2.1⟩
theorem wfT_fitL : ∀ (l : List Fl) (i : Nat) (v : Int) (t : T), wfT t = true -> ∀ y ∈ fitL l i v t, wfT y = true
 | [], _, _, _, _, y, hy => by cases hy
 | f :: r, i, v, t, h, y, hy => by
  rw [fitL] at hy
  rcases List.mem_cons.1 hy with rfl | hy
  ·exact wfT_fitted f v _ (wfT_at h i)
  ·exact wfT_fitL r (i + 1) v t h y hy
end
mutual
theorem wfT_given : ∀ t : T, wfT t = true -> wfT (given t) = true
 | .mk n s b l u, h => by
  obtain ⟨h1, h2, h3⟩ := wfT_un h
  rw [given]
  refine wfT_mk h1 (wfT_givenO l h2) ?_
  rw [nz_getD]; exact h3
theorem wfT_givenO : ∀ l : Option (List T), wfTo l = true -> wfTo (givenO l) = true
 | none, _ => rfl
 | some l, h => by
  rw [givenO]
  exact wfTo_nz (wfT_givenL l h)
theorem wfT_givenL : ∀ l : List T, wfTl l = true -> ∀ y ∈ givenL l, wfT y = true
 | [], _, y, hy => by cases hy
 | t :: r, h, y, hy => by
  rw [givenL] at hy
  simp only [wfTl, Bool.and_eq_true] at h
  rcases List.mem_cons.1 hy with rfl | hy
  ·exact wfT_given t h.1
  ·exact wfT_givenL r h.2 y hy
end
mutual
theorem okF_al {v : Int} : ∀ (f : Fl) (t : T), okF true v f t -> okF false v f t
 | .mk k fr to nl g df of sub, t, h => by
  rw [okF] at h ⊢
  by_cases h11 : k = 11
  ·rw [if_pos h11] at h ⊢
   obtain ⟨h1, h2, h3⟩ := h
   refine ⟨h1, fun hn => ?_, fun y hy => ⟨(h3 y hy).1, fun h10 => okS_al sub y ((h3 y hy).2 h10)⟩⟩
   rcases h2 hn with h | ⟨h, _⟩
   ·exact .inl h
   ·cases h
  ·rw [if_neg h11] at h ⊢
   exact ⟨h.1, fun h10 => okS_al sub t (h.2 h10)⟩
theorem okS_al {v : Int} : ∀ (fs : Option (List Fl)) (t : T), okS true v fs t -> okS false v fs t
 | none, _, h => h
 | some l, t, h => ⟨h.1, okL_al l 0 t h.2⟩
theorem okL_al {v : Int} : ∀ (l : List Fl) (i : Nat) (t : T), okL true v l i t -> okL false v l i t
 | [], _, _, _ => trivial
 | f :: r, i, t, h => by
  rw [okL] at h ⊢
  exact ⟨fun _ => okF_al f _ (h.1 (.inl rfl)), okL_al r (i + 1) t h.2⟩
end
def okB (M : Msg) : Bool := okAll M && !M.kept && (List.range (M.most.toNat + 1)).all fun v => rkS (v : Nat) (Flexible M.fx (v : Nat)) M.fs
theorem okB_rk {M : Msg} (h : okB M = true) {v : Int} (h0 : 0 <= v) (h1 : v <= M.most) : rkS v (Flexible M.fx v) M.fs = true := by
 simp only [okB, Bool.and_eq_true] at h
 have := List.all_eq_true.1 h.2 v.toNat (List.mem_range.2 (by omega))
 rwa [Int.toNat_of_nonneg h0] at this
theorem src_encB (s : Option (List UInt8)) : D.appd .nil (encB s) = encN (s.getD []) := by
 cases s with
 | none => rfl
 | some b => cases b <;> rfl
theorem asStr_encB' (s : Option (List UInt8)) : (encB s).asStr = s.getD [] := by cases s <;> rfl
theorem beh_ev {M : Msg} (h : okB M = true) (v : Int) (dst src : Option (List UInt8)) (hs : bSide M (.int v) (encB dst) (encB src)) :
  obsHold X side (behO M v) [.int v, encB dst, encB src] /\ (behE M v).eval X [.int v, encB dst, encB src] = bX (encB dst) (encB src) := by
 obtain ⟨⟨h0, h1⟩, t, hw, hok, hsrc, hlen⟩ := hs
 rw [int_i] at h0 h1 hok hsrc
 have hrk := okB_rk h h0 h1
 simp only [okB, Bool.and_eq_true] at h
 have hm : okMsg M = true := by have := h.1.1; simp only [okAll, Bool.and_eq_true] at this; exact this.1.1.1.1
 have hx := msgX hm v
 simp only [okMsg, Bool.and_eq_true] at hm
 obtain ⟨⟨hp, hsm⟩, _⟩ := hm
 have e2 : (DE.f .app [.k .nil, .v 2]).eval X [.int v, encB dst, encB src] = encN (src.getD []) := by
  rw [ev_f, evs_cons, evs_cons, evs_nil, ev_k, ev_v, fe_app]
  exact src_encB src
 have e1 : (DE.f .app [.k .nil, .v 1]).eval X [.int v, encB dst, encB src] = D.appd .nil (encB dst) := by
  rw [ev_f, evs_cons, evs_cons, evs_nil, ev_k, ev_v, fe_app]; rfl
 have hsg : src.getD [] = partS M.fs v (Flexible M.fx v) t := by rw [<- hsrc, asStr_encB']
 have hS : SrcIs (.f .app [.k .nil, .v 2]) [.int v, encB dst, encB src] (partS M.fs v (Flexible M.fx v) t ++ []) := fun hne => by
  rw [List.append_nil] at hne ⊢
  rw [e2, hsg]
  unfold encN
  cases hq : partS M.fs v (Flexible M.fx v) t with
  | nil => exact absurd hq hne
  | cons a l => rfl
 obtain ⟨r1, r2⟩ := rd_M hx M.fs [.int v, encB dst, encB src] (.f .app [.k .nil, .v 2]) t [] hp hsm hrk hw hok hS
 obtain ⟨b1, b2⟩ := part_back v (Flexible M.fx v) M.fs t hrk hp hok
 have r1' : evals X (rdM M.tg v (Flexible M.fx v) 3 M.fs (.f .app [.k .nil, .v 2])) [.int v, encB dst, encB src] = dS M.tg M.fs (backS v (Flexible M.fx v) M.fs t) := r1
 have hL : (D.appd .nil (encB dst)).asStr = (encB dst).asStr := by rw [src_encB, asStr_encN, asStr_encB']
 have hlim : lim = 1099511627776 := rfl
 rw [hsrc] at hlen
 constructor
 ·unfold behO
  refine obs_app ?_ (obs_cons ?_ (obs_app r2 (obs_one ?_)))
  ·refine obs_owS hx M.fs 3 [.int v, encB dst, encB src] _ _ (backS v (Flexible M.fx v) M.fs t) _ hp rfl r1' e1 b2 ?_
   rw [hL, b1]; omega
  ·simp only [Ob.holds]
   rw [e1, src_encB, len_encN, Nat.mul_one]
   rw [asStr_encB'] at hlen
   simp only [LIM, maxLen]; omega
  ·simp only [Ob.holds]
   rw [e2, len_encN, Nat.mul_one, hsg]
   simp only [LIM, maxLen]; omega
 ·unfold behE
  rw [ev_wrS hx M.fs 3 [.int v, encB dst, encB src] _ _ (backS v (Flexible M.fx v) M.fs t) _ hp (Nat.le_refl _) r1' e1 b2, b1, bX, hsrc]
end Go.Mx
namespace Go.Mx
open Go Go.Dx
noncomputable def runsTo (P : Program) (C : Cfg) (f : Nat) (c : Ctr) (ks : List (Nat × Int)) (d : DE) (os : List Ob) : Bool :=
 match P.funcs[f]? with
 | some fn => match runFK C 100000 8 c fn ks with
  | some (d', os') => d'.beq d && obbeqs os' os
  | none => false
 | none => false
theorem runsTo_eq {P : Program} {C : Cfg} {f : Nat} {c : Ctr} {ks : List (Nat × Int)} {d : DE} {os : List Ob} (h : runsTo P C f c ks d os = true) : ∃ fn, P.funcs[f]? = some fn /\ runFK C 100000 8 c fn ks = some (d, os) := by
 unfold runsTo at h
 split at h
 ·rename_i fn hf
  split at h
  ·rename_i d' os' hr
   simp only [Bool.and_eq_true] at h
   have e1 := DE.beq_eq h.1
   have e2 := obbeqs_eq h.2
   subst e1; subst e2
   exact ⟨fn, hf, hr⟩
  ·cases h
 ·cases h
def hasBody (P : Program) (f : Nat) : Bool := match P.funcs[f]? with | some fn => fn.body.isSome | none => false
theorem hasBody_eq {P : Program} {f : Nat} (h : hasBody P f = true) : ∃ fn b, P.funcs[f]? = some fn /\ fn.body = some b := by
 unfold hasBody at h
 split at h
 ·rename_i fn hf
  obtain ⟨b, hb⟩ := Option.isSome_iff_exists.1 h
  exact ⟨fn, b, hf, hb⟩
 ·cases h
noncomputable def namesOk? (l : List Func) : Bool := l.all fun fn => !(fn.name == "runtime.NumGoroutine")
theorem names_ok {P : Program} (h : namesOk? P.funcs.toList = true) : NamesOk P := fun f fn hf => by
 have := List.all_eq_true.1 h fn (by
  rw [<- Array.getElem?_toList] at hf
  exact List.mem_of_getElem? hf)
 simpa using this
end Go.Mx
namespace Go.Mx
open Go Go.Dx
def verB (M : Msg) : DE := .f (.ext 58) [.v 0, .k (.int M.most)]
def wrB (M : Msg) : DE := .f (.ext 59) [specM M, verB M, .v 2]
def inB (M : Msg) (m : Nat) : DE := .f (.ext m) [verB M, .v 1, wrB M]
def riB (M : Msg) : DE := .f .app [.f .app [.f .mkbytes [], .v 1], wrB M]
def longB : DE := .f .ite [.f .ltI [.k (.int 2147483647), .f .len [.v 1]], .k (.bool true), .f .not [.f (.ext 54) [.v 2]]]
def longC : DE := .f .ltI [.k (.int 1000), .f .len [.v 1]]
def lawEB (M : Msg) (m : Nat) : DE := .f .ite [longB, .k (.bool true), .f .ite [longC, .k (.bool true), .f (.ext 52) [inB M m, riB M]]]
def lawOB (M : Msg) (m : Nat) : List Ob :=
 [.when longB false [.when longC false [.pre 52 [inB M m, riB M], .room (riB M) 1, .room (.f .app [.f .mkbytes [], .v 1]) 1, .pre m [verB M, .v 1, wrB M], .pre 59 [specM M, verB M, .v 2]], .pre 58 [.v 0, .k (.int M.most)]],
  .when (.f .ltI [.k (.int 2147483647), .f .len [.v 1]]) false [.pre 54 [.v 2]]]
theorem ksB {ds : List D} (hk : KsOk [.int .i64, .byts, .byts] ds) : ∃ (v : Int) (a b : Option (List UInt8)), ds = [.int v, encB a, encB b] := by
 obtain @⟨⟩ | @⟨_, d1, _, _, k1, hk⟩ := hk
 obtain @⟨⟩ | @⟨_, d2, _, _, k2, hk⟩ := hk
 obtain @⟨⟩ | @⟨_, d3, _, _, k3, hk⟩ := hk
 cases hk
 obtain ⟨v, rfl, _⟩ := k1
 obtain ⟨a, rfl⟩ := k2
 obtain ⟨b, rfl⟩ := k3
 exact ⟨v, a, b, rfl⟩
theorem law_okB {M : Msg} {m : Nat} (h : okB M = true) (hX : ∀ v a b, X m [v, a, b] = bX a b) (hS : ∀ v a b, side m [v, a, b] = bSide M v a b) (n : Int) (dst : Option (List UInt8)) (t : T) (hn0 : 0 <= n) (hn1 : n < 256) (hw : wfT t = true)
  (hl : fitsTo t = true -> ∀ v, 0 <= v -> v <= M.most -> (partS M.fs v (Flexible M.fx v) t).length + 2000 <= lim) : obsHold X side (lawOB M m) [.int n, encB dst, t.d] /\ (lawEB M m).eval X [.int n, encB dst, t.d] = .bool true := by
 have hB := h
 simp only [okB, Bool.and_eq_true] at h
 have hA := h.1.1
 simp only [okAll, Bool.and_eq_true, decide_eq_true_eq] at hA
 obtain ⟨⟨⟨⟨hm, hwf⟩, hG⟩, hm0⟩, hm1⟩ := hA
 have hp : plainS M.fs = true := by
  simp only [okMsg, Bool.and_eq_true] at hm; exact hm.1.1
 have hv0 : 0 <= n % (M.most + 1) := Int.emod_nonneg _ (by omega)
 have hv1 : n % (M.most + 1) <= M.most := by have := Int.emod_lt_of_pos n (b := M.most + 1) (by omega); omega
 have eV : (verB M).eval X [.int n, encB dst, t.d] = .int (n % (M.most + 1)) := by
  unfold verB
  rw [ev_f, evs_cons, evs_cons, evs_nil, ev_v, ev_k, List.getD_cons_zero, fe_ext, X_58, int_i, int_i]
 generalize n % (M.most + 1) = v at hv0 hv1 eV
 have e1 : (DE.v 1).eval X [.int n, encB dst, t.d] = encB dst := rfl
 have e2 : (DE.v 2).eval X [.int n, encB dst, t.d] = t.d := rfl
 have hlen1 : (encB dst).len = (dst.getD []).length := by cases dst <;> rfl
 have eL : ∀ k : Int, (DE.f .ltI [.k (.int k), .f .len [.v 1]]).eval X [.int n, encB dst, t.d] = .bool (decide (k < ((dst.getD []).length : Nat))) := fun k => by
  rw [ev_f, evs_cons, evs_cons, evs_nil, ev_k, ev_f, evs_cons, evs_nil, e1, fe_len, hlen1, fe_ltI]
 have e54 : (DE.f .not [.f (.ext 54) [.v 2]]).eval X [.int n, encB dst, t.d] = .bool (!fitsTo t) := by
  rw [ev_f, evs_cons, evs_nil, ev_f, evs_cons, evs_nil, e2, fe_ext, X_54, toT_d, fe_not]
 have eB : longB.eval X [.int n, encB dst, t.d] = .bool (decide ((2147483647 : Int) < ((dst.getD []).length : Nat)) || !fitsTo t) := by
  unfold longB
  rw [ev_f, evs_cons, evs_cons, evs_cons, evs_nil, eL, ev_k, e54, fe_ite]
  cases decide ((2147483647 : Int) < ((dst.getD []).length : Nat)) <;> rfl
 have eC : longC.eval X [.int n, encB dst, t.d] = .bool (decide ((1000 : Int) < ((dst.getD []).length : Nat))) := eL 1000
 have eK : (specM M).eval X [.int n, encB dst, t.d] = .row [encF M.fs, .int M.fx] := by
  rw [specM, ev_f]
  simp only [evs_cons, evs_nil, scE_eval, ev_k, fe_mkrow]
 have eW : (wrB M).eval X [.int n, encB dst, t.d] = encN (partS M.fs v (Flexible M.fx v) t) := by
  rw [wrB, ev_f]
  simp only [evs_cons, evs_nil, eK, eV, e2, fe_ext]
  rw [X_59, decF_enc, toT_d, int_i, int_i]
 have eI : (inB M m).eval X [.int n, encB dst, t.d] = bX (encB dst) (encN (partS M.fs v (Flexible M.fx v) t)) := by
  rw [inB, ev_f]
  simp only [evs_cons, evs_nil, eV, e1, eW, fe_ext]
  exact hX _ _ _
 have encNB : ∀ s : List UInt8, encN s = encB (match s with | [] => none | s => some s) := fun s => by cases s <;> rfl
 have eR0 : (DE.f .app [.f .mkbytes [], .v 1]).eval X [.int n, encB dst, t.d] = D.appd (.bytes []) (encB dst) := by
  rw [ev_f, evs_cons, evs_cons, evs_nil, ev_f, evs_nil, e1, fe_app]; rfl
 have eR1 : D.appd (.bytes []) (encB dst) = .bytes (dst.getD []) := by
  cases dst <;> rfl
 have eR : (riB M).eval X [.int n, encB dst, t.d] = .bytes (dst.getD [] ++ partS M.fs v (Flexible M.fx v) t) := by
  rw [riB, ev_f, evs_cons, evs_cons, evs_nil, eR0, eR1, eW, fe_app]
  cases hq : partS M.fs v (Flexible M.fx v) t with
  | nil => show D.bytes _ = D.bytes _; rw [List.append_nil]
  | cons a l => rfl
 constructor
 ·refine ⟨fun hc => ?_, fun _ => ?_, trivial⟩
  ·rw [eB, bool_b] at hc
   simp only [Bool.or_eq_false_iff, Bool.not_eq_false'] at hc
   have hlen := hl hc.2 v hv0 hv1
   refine ⟨fun hc2 => ?_, ?_, trivial⟩
   ·rw [eC, bool_b, decide_eq_false_iff_not] at hc2
    have hd : (dst.getD []).length <= 1000 := by omega
    have hlim : lim = 1099511627776 := rfl
    refine ⟨trivial, ?_, ?_, ?_, ?_, trivial⟩
    ·simp only [Ob.holds]
     rw [eR]
     simp only [D.len, List.length_append, LIM, maxLen]; omega
    ·simp only [Ob.holds]
     rw [eR0, eR1]
     simp only [D.len, LIM, maxLen]; omega
    ·simp only [Ob.holds, evs_cons, evs_nil, eV, e1, eW]
     rw [hS]
     refine ⟨⟨hv0, hv1⟩, given (FitS M.fs v t), wfT_given _ (wfT_FitS M.fs v t hw), okS_al _ _ (okS_given M.fs v t hp hw), ?_, ?_⟩
     ·rw [int_i, asStr_encN, partG M.fs v _ t hv0 hG]
     ·rw [asStr_encN, asStr_encB']; omega
    ·simp only [Ob.holds, evs_cons, evs_nil, eK, eV, e2]
     rw [side_59, decF_enc, int_i, int_i, toT_d]
     exact ⟨hwf, by omega⟩
   ·simp only [Ob.holds, evs_cons, evs_nil, ev_v, ev_k, List.getD_cons_zero]
    rw [side_58]
    exact ⟨hn0, hm0, hm1⟩
  ·exact ⟨trivial, trivial⟩
 ·rw [lawEB, ev_f, evs_cons, evs_cons, evs_cons, evs_nil, eB, ev_k, fe_ite]
  cases hc : (decide ((2147483647 : Int) < ((dst.getD []).length : Nat)) || !fitsTo t) with
  | true => rfl
  | false =>
   rw [if_neg (by decide), ev_f, evs_cons, evs_cons, evs_cons, evs_nil, eC, ev_k, fe_ite]
   cases decide ((1000 : Int) < ((dst.getD []).length : Nat)) with
   | true => rfl
   | false =>
    rw [if_neg (by decide), ev_f, evs_cons, evs_cons, evs_nil, eI, eR, fe_ext, X_52]
    have : (bX (encB dst) (encN (partS M.fs v (Flexible M.fx v) t))).asStr = dst.getD [] ++ partS M.fs v (Flexible M.fx v) t := by
     rw [bX, appD_str, src_encB, asStr_encN, asStr_encN]
    rw [this]
    simp [D.asStr]
end Go.Mx
namespace Go.Mx
open Go Go.Dx
def fldOk (P : Program) (good : List TypeId) (i : Nat) (f : Field) : Bool := decide (f.offset = i) && decide (P.cellsOf f.type = 1) && good.elem f.type && !agg P f.type
def fldsOk (P : Program) (good : List TypeId) : Nat -> List Field -> Bool
 | _, [] => true
 | i, f :: r => fldOk P good i f && fldsOk P good (i + 1) r
def okT (P : Program) (good : List TypeId) (t : TypeId) : Bool :=
 match P.underlying t with
 | some .bool => true
 | some (.int _) => true
 | some .string => true
 | some (.slice e) => (P.info? e).isSome && decide (0 < P.cellsOf e) && good.elem e && (!isI P .u8 e || decide (P.cellsOf e = 1))
 | some (.struct fs) => decide (P.cellsOf t = fs.size) && decide (tys P t = fs.toList.map (·.type)) && fldsOk P good 0 fs.toList
 | _ => false
section
variable {H : Type} {enc : TypeId × Value -> H} {P : Program} {w : World} {sp : Nat -> Bool} {held : Bool} {good : List TypeId}
theorem fldsOk_get : ∀ {l : List Field} {i j : Nat} {f : Field}, fldsOk P good i l = true -> l[j]? = some f -> fldOk P good (i + j) f = true
 | g :: r, i, 0, f, h, hj => by
  simp only [List.getElem?_cons_zero, Option.some.injEq] at hj; subst hj
  simp only [fldsOk, Bool.and_eq_true] at h; exact h.1
 | g :: r, i, j + 1, f, h, hj => by
  simp only [List.getElem?_cons_succ] at hj
  simp only [fldsOk, Bool.and_eq_true] at h
  have := fldsOk_get h.2 hj
  rwa [show i + 1 + j = i + (j + 1) by omega] at this
theorem cell_lt {a : Addr} {v : Value} (h : w.cell? a = some v) : a.spot = none /\ a.block < w.heap.size := by
 unfold World.cell? at h
 split at h
 ·rename_i c t fr hb
  split at h
  ·cases h
  ·rename_i hs
   exact ⟨by simpa using hs, (Array.getElem?_eq_some_iff.1 hb).1⟩
 ·cases h
theorem size_of {e : TypeId} {i : TypeInfo} (h : P.info? e = some i) : P.cellsOf e = i.size := by simp [Program.cellsOf, h]
theorem elem_good {t : TypeId} (h : good.elem t = true) : t ∈ good := by simpa using h
structure Bulk (bk : DataW H -> Nat) : Prop where
 one : ∀ d, 1 <= bk d
 sl : ∀ es sp, (es.map bk).sum + 1 <= bk (.slice es sp)
 ag : ∀ ps, (ps.map bk).sum + 1 <= bk (.agg ps)
mutual
def wD : D -> Nat
 | .bytes s => s.length + 1
 | .list l => wDs l + 1
 | .row l => wDs l + 1
 | _ => 1
def wDs : List D -> Nat
 | [] => 0
 | d :: r => wD d + wDs r
end
theorem wDs_le : ∀ (l : List D) (m : List Nat), l.length = m.length -> (∀ (j : Nat) d n, l[j]? = some d -> m[j]? = some n -> wD d <= n) -> wDs l <= m.sum
 | [], _, _, _ => by simp [wDs]
 | d :: l, [], h, _ => by simp at h
 | d :: l, n :: m, h, hp => by
  simp only [wDs, List.sum_cons]
  have h1 := hp 0 d n rfl rfl
  have h2 := wDs_le l m (by simpa using h) (fun j d' n' hd hn => hp (j + 1) d' n' hd hn)
  omega
theorem sum_ge : ∀ (m : List Nat), (∀ n ∈ m, 1 <= n) -> m.length <= m.sum
 | [], _ => by simp
 | n :: m, h => by
  have h1 := h n (by simp)
  have h2 := sum_ge m (fun k hk => h k (by simp [hk]))
  simp only [List.length_cons, List.sum_cons]; omega
theorem rep_trod {bk : DataW H -> Nat} (hbk : Bulk bk) (hg : ∀ t ∈ good, okT P good t = true) (hsp : ∀ b, sp b = true) : ∀ (fuel : Nat) (t : TypeId) (cs : List Value) (x : DataW H × List MemPlace), t ∈ good -> DataW.trod enc P w 0 sp held fuel t cs = some x ->
  ∃ v d, v.cells.toList = cs /\ Rep P (fun b => b < w.heap.size) w t v d /\ (agg P t = false -> cs = [v]) /\ wD d <= bk x.1 := by
 intro fuel
 induction fuel using Nat.strongRecOn with
 | _ fuel ih =>
  intro t cs x ht h
  have hok := hg t ht
  unfold okT at hok
  split at hok
  ·rename_i hu
   obtain ⟨b, rfl, _⟩ := DataW.trod_bool hu h
   exact ⟨.bool b, _, rfl, .bool hu, fun _ => rfl, hbk.one _⟩
  ·rename_i k hu
   obtain ⟨n, rfl, _, hw⟩ := DataW.trod_int hu h
   exact ⟨.int k n, _, rfl, .int hu hw, fun _ => rfl, hbk.one _⟩
  ·rename_i hu
   obtain ⟨s, rfl, _, hs⟩ := DataW.trod_string hu h
   exact ⟨.string s, _, rfl, .str hu hs, fun _ => rfl, hbk.one _⟩
  ·rename_i e hu
   simp only [Bool.and_eq_true, decide_eq_true_eq] at hok
   obtain ⟨⟨⟨hinf, hpos⟩, hge⟩, hu8⟩ := hok
   obtain ⟨i, hi⟩ := Option.isSome_iff_exists.1 hinf
   have hsz := size_of hi
   rcases DataW.trod_slice hu h with ⟨rfl, _⟩ | ⟨a, len, cap, elems, rest, n, rfl, rfl, rfl, hb, hlc, hcm, hlen, hel, hrest, _⟩
   ·exact ⟨.slice none 0 0, _, rfl, .snil hu, fun _ => rfl, hbk.one _⟩
   ·refine ⟨.slice (some a) len cap, ?_⟩
    have hel' : ∀ j, j < len -> ∃ cj yj, w.cells? 0 (a.add (j * P.cellsOf e)) (P.cellsOf e) = some cj /\ DataW.trod enc P w 0 sp held n e cj = some yj /\ elems[j]? = some yj := fun j hj => by
     have := hel j hj
     have hej : elems[j]? = some elems[j] := List.getElem?_eq_getElem (by omega)
     rw [hej] at this
     obtain ⟨cj, h1, h2⟩ := Option.bind_eq_some_iff.1 this
     exact ⟨cj, _, h1, h2, hej⟩
    have hspot : 0 < cap -> a.spot = none /\ a.block < w.heap.size := fun h0 => by
     have hread : ∃ cj, w.cells? 0 a (P.cellsOf e) = some cj := by
      by_cases hl0 : 0 < len
      ·obtain ⟨cj, _, h1, _⟩ := hel' 0 hl0
       exact ⟨cj, by simpa [Addr.add] using h1⟩
      ·have hl : len = 0 := by omega
       obtain ⟨hr1, hr2⟩ := hrest (hsp _)
       have := hr2 0 (by omega)
       rw [List.getElem?_eq_getElem (by omega)] at this
       obtain ⟨cj, h1, _⟩ := Option.bind_eq_some_iff.1 this
       exact ⟨cj, by simpa [Addr.add, hl] using h1⟩
     obtain ⟨cj, hcj⟩ := hread
     obtain ⟨_, hlj, hcell⟩ := World.cells?_some hcj
     have h1 := hcell 0 hpos
     rw [List.getElem?_eq_getElem (by omega)] at h1
     have h2 := cell_lt h1
     simpa [Addr.add] using h2
    have hch : ∀ j : Nat, ∃ q : Value × D, j < len -> (∀ i, i < P.cellsOf e -> w.cell? ((a.add (j * P.cellsOf e)).add i) = q.1.cells.toList[i]?) /\ q.1.cells.size = P.cellsOf e /\ Rep P (fun b => b < w.heap.size) w e q.1 q.2 /\ (agg P e = false -> q.1.cells = #[q.1]) /\ ∀ y, elems[j]? = some y -> wD q.2 <= bk y.1 := fun j => by
     by_cases hj : j < len
     ·obtain ⟨cj, yj, h1, h2, h3⟩ := hel' j hj
      obtain ⟨_, hlj, hcell⟩ := World.cells?_some h1
      obtain ⟨v, d, k1, k2, k3, k4⟩ := ih n (by omega) e cj yj (elem_good hge) h2
      refine ⟨(v, d), fun _ => ⟨fun i hi => by rw [hcell i hi, <- k1], by rw [<- Array.length_toList, k1, hlj], k2, fun ha => ?_, fun y hy => by rw [h3] at hy; cases hy; exact k4⟩⟩
      have := k3 ha
      rw [<- k1] at this
      exact Array.toList_inj.1 (by rw [this])
     ·exact ⟨(undef, .nil), fun h => absurd h hj⟩
    obtain ⟨q, hq⟩ := Classical.axiomOfChoice hch
    cases h8 : isI P .u8 e with
    | true =>
     have hue := isI_eq h8
     rw [h8] at hu8
     have hs1 : P.cellsOf e = 1 := by simpa using hu8
     have hag : agg P e = false := by simp [agg, hue, isAggD]
     have hb8 : ∀ j, j < len -> ∃ x : UInt8, (q j).1 = .int .u8 x.toNat := fun j hj => by
      obtain ⟨_, _, hr, _⟩ := hq j hj
      generalize (q j).1 = v at hr
      generalize (q j).2 = d at hr
      obtain ⟨m, rfl, hw⟩ := rep_int h8 hr
      cases hr with
      | int hu' hw' =>
       rw [hue] at hu'; cases hu'
       have hb : 0 <= m /\ m < 256 := by
        simp [Lit.wf, IntKind.min, IntKind.max, IntKind.signed, IntKind.bits] at hw; omega
       refine ⟨UInt8.ofNat m.toNat, ?_⟩
       have : (UInt8.ofNat m.toNat).toNat = m.toNat := by simp [UInt8.toNat_ofNat']; omega
       rw [this]; congr 1; omega
     obtain ⟨y, hy⟩ := Classical.axiomOfChoice (r := fun (j : Nat) (x : UInt8) => j < len -> (q j).1 = .int .u8 x.toNat) (fun j => by
      by_cases hj : j < len
      ·obtain ⟨x, hx⟩ := hb8 j hj; exact ⟨x, fun _ => hx⟩
      ·exact ⟨0, fun h => absurd h hj⟩)
     have hl : ((List.range len).map y).length = len := by simp
     have := Rep.bytes (ok := fun b => b < w.heap.size) (w := w) (s := (List.range len).map y) (ad := a) (cap := cap) hu hue hspot (by rw [hl]; exact hlc) hcm (fun j v hj => by
      rw [List.getElem?_map, List.getElem?_map] at hj
      have hjl : j < len := by
       by_cases hh : j < len
       ·exact hh
       ·rw [List.getElem?_eq_none (by simp; omega)] at hj; cases hj
      rw [List.getElem?_range hjl] at hj
      simp only [Option.map_some, Option.some.injEq] at hj
      subst hj
      obtain ⟨h1, h2, _, h3, _⟩ := hq j hjl
      have h4 := h1 0 (by omega)
      rw [h3 hag, hs1, Nat.mul_one] at h4
      have hcap : 0 < cap := by omega
      rw [at_add (hspot hcap).1, addr_add, Nat.add_zero] at h4
      rw [h4, hy j hjl]; rfl)
     rw [hl] at this
     refine ⟨_, rfl, this, fun _ => rfl, ?_⟩
     show ((List.range len).map y).length + 1 <= _
     refine Nat.le_trans ?_ (hbk.sl _ _)
     rw [hl]
     have := sum_ge ((elems.map (·.1)).map bk) (fun n hn => by obtain ⟨d, _, rfl⟩ := List.mem_map.1 hn; exact hbk.one d)
     simp only [List.length_map] at this
     omega
    | false =>
     have hne : P.underlying e ≠ some (.int .u8) := fun hh => by simp [isI, hh] at h8
     have hl : ((List.range len).map fun j => (q j).2).length = len := by simp
     have hget : ∀ {A : Type} (f : Nat -> A) (j : Nat) (v : A), ((List.range len).map f)[j]? = some v -> j < len /\ v = f j := fun f j v hj => by
      rw [List.getElem?_map] at hj
      have hjl : j < len := by
       by_cases hh : j < len
       ·exact hh
       ·rw [List.getElem?_eq_none (by simp; omega)] at hj; cases hj
      rw [List.getElem?_range hjl] at hj
      simp only [Option.map_some, Option.some.injEq] at hj
      exact ⟨hjl, hj.symm⟩
     have := Rep.list (ok := fun b => b < w.heap.size) (w := w) (vs := (List.range len).map fun j => (q j).1) (ds := (List.range len).map fun j => (q j).2) (ad := a) (cap := cap) hu hne hi hspot (by simp) (by rw [hl]; exact hlc) hcm
      (fun v hv => by
       obtain ⟨j, hj, rfl⟩ := List.mem_map.1 hv
       rw [(hq j (List.mem_range.1 hj)).2.1, hsz])
      (fun j v hj i u hi' => by
       obtain ⟨hjl, rfl⟩ := hget _ j v hj
       obtain ⟨h1, h2, _, _, _⟩ := hq j hjl
       have hil : i < P.cellsOf e := by
        rw [<- h2]
        have := (List.getElem?_eq_some_iff.1 hi').1
        simpa using this
       have h4 := h1 i hil
       have hcap : 0 < cap := by omega
       rw [at_add (hspot hcap).1, addr_add, hsz] at h4
       rw [h4]; exact hi')
      (fun j v d h1 h2 => by
       obtain ⟨hjl, rfl⟩ := hget _ j v h1
       obtain ⟨_, rfl⟩ := hget _ j d h2
       exact (hq j hjl).2.2.1)
     rw [hl] at this
     refine ⟨_, rfl, this, fun _ => rfl, ?_⟩
     show wDs _ + 1 <= _
     refine Nat.le_trans (Nat.succ_le_succ (wDs_le _ ((elems.map (·.1)).map bk) (by simp; omega) (fun j d n h1 h2 => ?_))) (hbk.sl _ _)
     obtain ⟨hjl, rfl⟩ := hget _ j d h1
     rw [List.map_map, List.getElem?_map] at h2
     obtain ⟨y, hy, rfl⟩ := Option.map_eq_some_iff.1 h2
     exact (hq j hjl).2.2.2.2 y hy
  ·rename_i fs hu
   simp only [Bool.and_eq_true, decide_eq_true_eq] at hok
   obtain ⟨⟨hcs, hty⟩, hfl⟩ := hok
   obtain ⟨xs, n, rfl, rfl, hlen, hxl, hel⟩ := DataW.trod_struct hu h
   have hag : agg P t = true := by simp [agg, hu, isAggD]
   have hl1 : cs.length = fs.size := by rw [hlen, hcs]
   have hch : ∀ j : Nat, ∃ d : D, ∀ (f : Field) (v : Value), fs[j]? = some f -> cs[j]? = some v -> Rep P (fun b => b < w.heap.size) w f.type v d /\ v.cells = #[v] /\ ∀ y, xs[j]? = some y -> wD d <= bk y.1 := fun j => by
    by_cases hj : j < fs.size
    ·have hfj : fs[j]? = some fs[j] := Array.getElem?_eq_getElem hj
     have hfo := fldsOk_get (i := 0) hfl (by rw [Array.getElem?_toList]; exact hfj)
     unfold fldOk at hfo
     simp only [Bool.and_eq_true, decide_eq_true_eq, Nat.zero_add, Bool.not_eq_true'] at hfo
     obtain ⟨⟨⟨o1, o2⟩, o3⟩, o4⟩ := hfo
     have h1 := hel j _ hfj
     rw [o1, o2, List.getElem?_eq_getElem (by omega)] at h1
     obtain ⟨v, d, k1, k2, k3, k5⟩ := ih n (by omega) _ _ _ (elem_good o3) h1
     have k4 := k3 o4
     refine ⟨d, fun f u hf hu' => ?_⟩
     rw [hfj] at hf; cases hf
     have : (cs.drop j).take 1 = [u] := by
      rw [List.drop_eq_getElem_cons (by omega)]
      have := (List.getElem?_eq_some_iff.1 hu').2
      simp [this]
     rw [this] at k4 k1
     cases k4
     exact ⟨k2, Array.toList_inj.1 (by rw [k1]), fun y hy => by rw [List.getElem?_eq_getElem (by omega)] at hy; cases hy; exact k5⟩
    ·exact ⟨.nil, fun f v hf => by rw [Array.getElem?_eq_none (by omega)] at hf; cases hf⟩
   obtain ⟨q, hq⟩ := Classical.axiomOfChoice hch
   have htl : (tys P t).length = fs.size := by rw [hty]; simp
   refine ⟨.agg cs.toArray, .row ((List.range fs.size).map q), rfl, ?_, (fun h => by rw [hag] at h; cases h), ?_⟩
   rotate_left
   ·show wDs _ + 1 <= _
    refine Nat.le_trans (Nat.succ_le_succ (wDs_le _ ((xs.map (·.1)).map bk) (by simp; omega) (fun j d n h1 h2 => ?_))) (hbk.ag _)
    rw [List.getElem?_map] at h1
    have hjf : j < fs.size := by
     by_cases hh : j < fs.size
     ·exact hh
     ·rw [List.getElem?_eq_none (by simp; omega)] at h1; cases h1
    rw [List.getElem?_range hjf] at h1
    simp only [Option.map_some, Option.some.injEq] at h1
    subst h1
    rw [List.map_map, List.getElem?_map] at h2
    obtain ⟨y, hy, rfl⟩ := Option.map_eq_some_iff.1 h2
    exact (hq j fs[j] _ (Array.getElem?_eq_getElem hjf) (List.getElem?_eq_getElem (by omega))).2.2 y hy
   refine .row hu rfl (by rw [htl, hl1]) (by simp [htl]) (fun v hv => ?_) (fun j u v d hj hv hd => ?_)
   ·obtain ⟨j, hj, rfl⟩ := List.mem_iff_getElem.1 hv
    have hjf : j < fs.size := by omega
    exact (hq j fs[j] _ (Array.getElem?_eq_getElem hjf) (List.getElem?_eq_getElem hj)).2.1
   ·rw [hty, List.getElem?_map, Array.getElem?_toList] at hj
    obtain ⟨f, hf, rfl⟩ := Option.map_eq_some_iff.1 hj
    rw [List.getElem?_map] at hd
    have hjf := (Array.getElem?_eq_some_iff.1 hf).1
    rw [List.getElem?_range hjf] at hd
    simp only [Option.map_some, Option.some.injEq] at hd
    subst hd
    exact (hq j f v hf hv).1
  ·cases hok
end
end Go.Mx
namespace Go.Mx
open Go Go.Dx
mutual
def WT : T -> Nat
 | .mk _ s _ l u => 1 + (s.getD []).length + WTo l + ((u.getD []).map fun x => 1 + (x.val.getD []).length).sum
def WTo : Option (List T) -> Nat
 | none => 0
 | some l => WTl l
def WTl : List T -> Nat
 | [] => 0
 | t :: r => WT t + WTl r
end
theorem WTl_map : ∀ l : List T, WTl l = (l.map WT).sum
 | [] => rfl
 | t :: r => by rw [WTl, WTl_map r]; rfl
theorem WT_pos (t : T) : 1 <= WT t := by obtain ⟨n, s, b, l, u⟩ := t; rw [WT]; omega
theorem WT_S (t : T) : t.S.length + 1 <= WT t := by obtain ⟨n, s, b, l, u⟩ := t; rw [WT]; show (s.getD []).length + 1 <= _; omega
theorem WT_L (t : T) : (t.L.map WT).sum + 1 <= WT t := by
 obtain ⟨n, s, b, l, u⟩ := t
 rw [WT]
 cases l with
 | none => show 0 + 1 <= _; omega
 | some l => rw [WTo, WTl_map]; show (l.map WT).sum + 1 <= _; omega
def WU (u : List Tg) : Nat := (u.map fun x => 1 + (x.val.getD []).length).sum
theorem WT_U (t : T) : WU t.U + 1 <= WT t := by
 obtain ⟨n, s, b, l, u⟩ := t
 rw [WT]; show ((u.getD []).map fun x => 1 + (x.val.getD []).length).sum + 1 <= _; omega
theorem mem_sum {A : Type} (f : A -> Nat) : ∀ {l : List A} {a : A}, a ∈ l -> f a <= (l.map f).sum
 | b :: l, a, h => by
  rw [List.map_cons, List.sum_cons]
  rcases List.mem_cons.1 h with rfl | h
  ·omega
  ·have := mem_sum f h; omega
theorem WT_at (t : T) (i : Int) : WT (at' t i) <= WT t := by
 have h1 := WT_pos t
 have h0 : WT T.zero = 1 := rfl
 unfold at'
 split
 ·rw [List.getD_eq_getElem?_getD]
  cases hg : t.L[i.toNat]? with
  | none => show WT T.zero <= _; omega
  | some y =>
   show WT y <= _
   have := mem_sum WT (List.mem_of_getElem? hg)
   have := WT_L t
   omega
 ·omega
theorem sum_take {A : Type} (f : A -> Nat) : ∀ (l : List A) (n : Nat), ((l.take n).map f).sum <= (l.map f).sum
 | [], n => by simp
 | a :: l, 0 => by simp
 | a :: l, n + 1 => by
  have := sum_take f l n
  simp only [List.take_succ_cons, List.map_cons, List.sum_cons]
  omega
theorem insTag_W (x : Tg) : ∀ l : List Tg, WU (insTag x l) <= WU l + (1 + (x.val.getD []).length)
 | [] => by simp [insTag, WU]
 | t :: r => by
  have := insTag_W x r
  rw [insTag]
  unfold WU at this ⊢
  split
  ·simp only [List.map_cons, List.sum_cons] at this ⊢; omega
  ·split
   ·omega
   ·simp only [List.map_cons, List.sum_cons]; omega
theorem unk_W (k : Int) : ∀ (l out : List Tg), WU (l.foldl (fun out t => if t.key < k then out else insTag t out) out) <= WU out + WU l
 | [], out => by simp [WU]
 | t :: l, out => by
  have h3 : WU (t :: l) = (1 + (t.val.getD []).length) + WU l := by simp [WU]
  rw [List.foldl]
  by_cases c : t.key < k
  ·rw [if_pos c]
   have h1 := unk_W k l out
   omega
  ·rw [if_neg c]
   have h1 := unk_W k l (insTag t out)
   have h2 := insTag_W t out
   omega
theorem unknown_W (fs : List Fl) (u : Option (List Tg)) : WU (unknown fs u) <= WU (u.getD []) := by
 have h1 := unk_W (known fs) ((u.getD []).take Most) []
 have h2 := sum_take (fun x : Tg => 1 + (x.val.getD []).length) (u.getD []) Most
 unfold unknown
 unfold WU at *
 simp only [List.map_nil, List.sum_nil] at h1
 omega
theorem Uv_le {n : Nat} (h : n < 18446744073709551616) : (Uvarint n).length <= 10 := by
 have key : ∀ (k n : Nat), n < 128 ^ (k + 1) -> (Uvarint n).length <= k + 1 := by
  intro k
  induction k with
  | zero => intro n hn; rw [Uvarint, if_neg (by omega)]; simp
  | succ k ih =>
   intro n hn
   rw [Uvarint]
   split
   ·rw [List.length_cons]
    have := ih (n / 128) (by rw [Nat.pow_succ] at hn; exact Nat.div_lt_of_lt_mul (by rw [Nat.mul_comm]; exact hn))
    omega
   ·simp
 exact key 9 n (Nat.lt_trans h (by decide))
theorem unkB_le (x : Tg) : (unkB x).length <= 20 + (x.val.getD []).length := by
 rw [unkB, tagB, List.length_append, List.length_append]
 have h1 : (Uvarint (IntKind.u64.wrap x.key).toNat).length <= 10 := Uv_le (by rw [IntKind.wrap_u64]; omega)
 have h2 : ((x.val.getD []).take Most).length <= (x.val.getD []).length := by rw [List.length_take]; omega
 have h3 : (Uvarint ((x.val.getD []).take Most).length).length <= 10 := Uv_le (by rw [List.length_take]; simp only [Most]; omega)
 omega
theorem unks_le : ∀ l : List Tg, ((l.map unkB).flatten).length <= 20 * WU l
 | [] => by simp
 | x :: l => by
  have h1 := unkB_le x
  have h2 := unks_le l
  have h3 : WU (x :: l) = (1 + (x.val.getD []).length) + WU l := by simp [WU]
  rw [List.map_cons, List.flatten_cons, List.length_append]
  omega
mutual
def cF : Fl -> Nat
 | .mk k _ _ _ _ _ of sub => if k = 11 then 10 + 2 * cV of (cS sub) else 1 + cV k (cS sub)
def cS : Option (List Fl) -> Nat
 | none => 30
 | some l => cL l + 30
def cL : List Fl -> Nat
 | [] => 0
 | f :: r => cF f + cL r
def cV (k : Int) (s : Nat) : Nat := if k = 10 then s else 16
end
theorem counted_le (x b : Bool) {n k : Nat} (h : n < 18446744073709551615) (hk : k <= 4) : (counted x b n k).length <= 10 := by
 cases x <;> cases b <;> simp [counted, Fixed_len]
 ·omega
 ·omega
 ·exact Uv_le (by omega)
theorem valueB_le (k : Int) (b x : Bool) (t : T) (p : List UInt8) (s : Nat) (hp : p.length <= s * (1 + WT t)) : (valueB k b x t p).length <= cV k s * (1 + WT t) := by
 unfold valueB cV
 have hw := WT_S t
 by_cases h10 : k = 10
 ·subst h10
  simp only [show ¬ ((10 : Int) = 0) by decide, show ¬ ((10 : Int) = 7) by decide, show ¬ ((10 : Int) = 8) by decide, show ¬ ((10 : Int) = 9) by decide, if_true, if_false]
  exact hp
 rw [if_neg h10, if_neg h10]
 have hS : (if b then [] else t.S.take Most).length <= t.S.length /\ (if b then [] else t.S.take Most).length <= 32767 := by cases b <;> simp [Most] <;> omega
 by_cases h0 : k = 0
 ·rw [if_pos h0]; simp; omega
 rw [if_neg h0]
 by_cases h7 : k = 7
 ·rw [if_pos h7, sixteen_len]; omega
 rw [if_neg h7]
 by_cases h8 : k = 8
 ·rw [if_pos h8]
  have := counted_le x b (n := (if b then [] else t.S.take Most).length) (k := 2) (by omega) (by omega)
  simp only [List.length_append]
  omega
 rw [if_neg h8]
 by_cases h9 : k = 9
 ·rw [if_pos h9]
  have := counted_le x b (n := (if b then [] else t.S.take Most).length) (k := 4) (by omega) (by omega)
  simp only [List.length_append]
  omega
 rw [if_neg h9, Fixed_len]
 have : (width k).toNat <= 8 := by
  unfold width
  repeat (first | decide | split)
 omega
theorem flat_W {A : Type} (g : A -> List UInt8) (w : A -> Nat) (c : Nat) : ∀ l : List A, (∀ y ∈ l, (g y).length <= c * (1 + w y)) -> (∀ y ∈ l, 1 <= w y) -> ((l.map g).flatten).length <= 2 * c * (l.map w).sum
 | [], _, _ => by simp
 | y :: l, h, hw => by
  have h1 := h y (by simp)
  have h2 := flat_W g w c l (fun z hz => h z (by simp [hz])) (fun z hz => hw z (by simp [hz]))
  have h3 := hw y (by simp)
  rw [List.map_cons, List.flatten_cons, List.length_append, List.map_cons, List.sum_cons, Nat.mul_add]
  have h4 : c * (1 + w y) <= 2 * c * w y := by
   have : 1 + w y <= 2 * w y := by omega
   calc c * (1 + w y) <= c * (2 * w y) := Nat.mul_le_mul_left _ this
    _ = 2 * c * w y := by rw [<- Nat.mul_assoc, Nat.mul_comm c 2]
  omega
theorem tail_le (fs : Option (List Fl)) (v : Int) (x : Bool) (t : T) (hp : plainS fs = true) {c : Nat} (h : (outP (fs.getD []) v x t).length <= c * (1 + WT t)) : (partS fs v x t).length <= (c + 30) * (1 + WT t) := by
 have hk : known (fs.getD []) = 0 := by
  cases fs with
  | none => rfl
  | some l => exact known_plain hp
 rw [Nat.add_mul]
 cases x with
 | false => rw [partS_false]; omega
 | true =>
  rw [partS_true, List.length_append, List.length_append]
  have e1 : tags1 (fs.getD []) v true t = [] := by rw [tags1, hk]; rfl
  rw [tagsP, e1, List.nil_append, tags2, List.length_map]
  have h1 := unks_le (unknown (fs.getD []) t.u)
  have h2 := unknown_W (fs.getD []) t.u
  have h3 := WT_U t
  have h4 := unknown_len (fs.getD []) t.u
  have h5 := Uv_le (n := (unknown (fs.getD []) t.u).length) (by omega)
  have h6 : WU (t.u.getD []) = WU t.U := rfl
  omega
mutual
theorem field_le : ∀ (f : Fl) (v : Int) (x : Bool) (t : T), plainF f = true -> (field f v x t).length <= cF f * (1 + WT t)
 | .mk k a b nl g df of sub, v, x, t, hp => by
  obtain ⟨_, _, _, hps⟩ := plainF_mk hp
  rw [field_eq]
  simp only [Fl.kind, Fl.null, Fl.of, Fl.sub]
  generalize Mx.null (.mk k a b nl g df of sub) v t = bn
  have hw := WT_pos t
  unfold fieldB
  rw [cF]
  by_cases h : k = 11
  ·rw [if_pos h, if_pos h, List.length_append]
   have hl : (if bn then ([] : List T) else t.L.take Most).length <= 32767 := by cases bn <;> simp [Most]; omega
   have h1 := counted_le x bn (n := (if bn then ([] : List T) else t.L.take Most).length) (k := 4) (by omega) (by omega)
   have h2 := flat_W (fun y => valueB of false x y (partS sub v x y)) WT (cV of (cS sub)) (if bn then ([] : List T) else t.L.take Most) (fun y _ => valueB_le of false x y _ _ (part_le sub v x y hps)) (fun y _ => WT_pos y)
   have h3 : ((if bn then ([] : List T) else t.L.take Most).map WT).sum <= WT t := by
    have := WT_L t
    have := sum_take WT t.L Most
    cases bn
    ·simp only [Bool.false_eq_true, if_false]; omega
    ·simp
   have h4 : 2 * cV of (cS sub) * ((if bn then ([] : List T) else t.L.take Most).map WT).sum <= 2 * cV of (cS sub) * WT t := Nat.mul_le_mul_left _ h3
   have e : (10 + 2 * cV of (cS sub)) * (1 + WT t) = 10 * (1 + WT t) + 2 * cV of (cS sub) * (1 + WT t) := Nat.add_mul _ _ _
   have e2 : 2 * cV of (cS sub) * WT t <= 2 * cV of (cS sub) * (1 + WT t) := Nat.mul_le_mul_left _ (by omega)
   have h2' : ((((if bn then ([] : List T) else t.L.take Most)).map fun y => valueB of false x y (partS sub v x y)).flatten).length <= 2 * cV of (cS sub) * ((if bn then ([] : List T) else t.L.take Most).map WT).sum := h2
   have h5 : ((((if bn then ([] : List T) else t.L.take Most)).map fun x_1 => valueB of false x x_1 ((fun x_2 => partS sub v x x_2) x_1)).flatten).length = ((((if bn then ([] : List T) else t.L.take Most)).map fun y => valueB of false x y (partS sub v x y)).flatten).length := rfl
   simp only at *
   omega
  ·rw [if_neg h, if_neg h]
   have h1 := valueB_le k bn x t (partS sub v x t) (cS sub) (part_le sub v x t hps)
   have e : (1 + cV k (cS sub)) * (1 + WT t) = (1 + WT t) + cV k (cS sub) * (1 + WT t) := by rw [Nat.add_mul, Nat.one_mul]
   split
   ·rename_i hc
    have h2 : (partS sub v x t).length <= cV k (cS sub) * (1 + WT t) := by rw [cV, if_pos hc.1]; exact part_le sub v x t hps
    split
    ·rw [Fixed_len]; omega
    ·rw [List.length_append, Fixed_len]
     omega
   ·refine Nat.le_trans h1 ?_
    omega
theorem part_le : ∀ (fs : Option (List Fl)) (v : Int) (x : Bool) (t : T), plainS fs = true -> (partS fs v x t).length <= cS fs * (1 + WT t)
 | none, v, x, t, hp => by
  have h := tail_le (c := 0) none v x t hp (by simp [outP, mapI])
  rw [cS]
  simpa using h
 | some l, v, x, t, hp => by
  have hl := fields_le l v x t hp 0
  have h := tail_le (some l) v x t hp hl
  rw [cS]
  exact h
theorem fields_le : ∀ (l : List Fl) (v : Int) (x : Bool) (t : T), plainL l = true -> ∀ i, ((mapI (fun i f => cellO v (rowP v x t i f)) i l).flatten).length <= cL l * (1 + WT t)
 | [], _, _, _, _, _ => by simp [mapI]
 | f :: r, v, x, t, hp, i => by
  simp only [plainL, Bool.and_eq_true] at hp
  have h1 := field_le f v x (at' t i) hp.1
  have h2 := fields_le r v x t hp.2 (i + 1)
  have h3 := WT_at t i
  have h4 : cF f * (1 + WT (at' t i)) <= cF f * (1 + WT t) := Nat.mul_le_mul_left _ (by omega)
  have h5 : (cellO v (rowP v x t i f)).length <= (field f v x (at' t i)).length := by
   unfold cellO rowP
   split
   ·exact Nat.le_refl _
   ·simp
  rw [mapI, List.flatten_cons, List.length_append, cL, Nat.add_mul]
  omega
end
theorem WU_wDs : ∀ (l : List Tg), (l.map fun x => 1 + (x.val.getD []).length).sum <= wDs (l.map Tg.d)
 | [] => by simp
 | x :: r => by
  have h2 := WU_wDs r
  have h1 : 1 + (x.val.getD []).length <= wD x.d := by
   rw [Tg.d, wD, wDs, wDs, wDs]
   cases x.val with
   | none => simp [encB, wD]
   | some s => simp only [encB, wD, Option.getD_some]; omega
  rw [List.map_cons, List.sum_cons, List.map_cons, wDs]; omega
mutual
theorem WT_wD : ∀ t : T, WT t <= wD t.d
 | .mk n s b l u => by
  have h1 := WTo_wD l
  rw [WT, T.d, wD, wDs, wDs, wDs, wDs, wDs, wDs]
  have h2 : ((u.getD []).map fun x => 1 + (x.val.getD []).length).sum <= wD (encU u) := by
   cases u with
   | none => simp
   | some u => have := WU_wDs u; rw [encU, wD]; simp only [Option.getD_some]; omega
  have h3 : (s.getD []).length <= wD (encB s) := by
   cases s with
   | none => simp
   | some s => rw [encB, wD]; simp
  have h4 : wD (D.int n) = 1 := rfl
  omega
theorem WTo_wD : ∀ l : Option (List T), WTo l <= wD (encT l)
 | none => by rw [WTo]; exact Nat.zero_le _
 | some l => by
  rw [WTo, encT, wD]
  have := WTs_wD l
  omega
theorem WTs_wD : ∀ l : List T, WTl l <= wDs (tds l)
 | [] => by rw [WTl, tds, wDs]; exact Nat.le_refl _
 | t :: r => by
  have h1 := WT_wD t
  have h2 := WTs_wD r
  rw [WTl, tds, wDs]; omega
end
end Go.Mx
namespace Go.Mx
open Go Go.Dx
theorem beh_okR {P : Program} (hnm : NamesOk P) (hord : P.follows .mixedOrders = true) {f : FuncId} {c : Ctr} {M : Msg} (hf : hasBody P f = true)
  (hpre : c.pre = true) (hnr : noRd c.res = true) (hsig : areA P [.int .i64, .byts, .byts] c.args = true) (hM : okB M = true) (hX : ∀ v a b, X c.fn [v, a, b] = bX a b) (hS : ∀ v a b, side c.fn [v, a, b] = bSide M v a b)
  (hrun : ∀ v, 0 <= v -> v <= M.most -> ∃ C : Cfg, C.P = P /\ (∀ f c, C.ctr f = some c -> CtrOk P X side f c) /\ runsTo P C f c [(0, v)] (behE M v) (behO M v) = true) : CtrOk P X side f c := by
 obtain ⟨fn, b, hf, hb⟩ := hasBody_eq hf
 refine ⟨⟨fn, b, hf, hb⟩, fun ok w vs ds hA hok hRd hp => ?_⟩
 have hs := hp hpre
 obtain ⟨v, da, db, rfl⟩ := ksB (areA_ok hsig hA)
 have hs' := hs
 rw [hS] at hs'
 obtain ⟨C, hP, hall, hr⟩ := hrun v hs'.1.1 hs'.1.2
 subst hP
 obtain ⟨fn', hf', hr⟩ := runsTo_eq hr
 rw [hf] at hf'; cases hf'
 obtain ⟨h1, h2⟩ := beh_ev hM v da db hs'
 refine callK hnm hord hall hf hr hA hok (fun j k hjk => ?_) h1 (by rw [h2, hX]) (good_noRd hnr _)
 simp only [lk] at hjk
 split at hjk
 ·rename_i hj; cases hjk; rw [beq_iff_eq] at hj; subst hj; rfl
 ·cases hjk
theorem behBytes_le {M : Msg} (h : okB M = true) {t : T} {B : Nat} (hb : WT t <= B) (hc : cS M.fs * (1 + B) + 2000 <= lim) (v : Int) : (partS M.fs v (Flexible M.fx v) t).length + 2000 <= lim := by
 simp only [okB, okAll, okMsg, Bool.and_eq_true] at h
 have h1 := part_le M.fs v (Flexible M.fx v) t h.1.1.1.1.1.1.1.1
 have h2 : cS M.fs * (1 + WT t) <= cS M.fs * (1 + B) := Nat.mul_le_mul_left _ (by omega)
 omega
theorem law_callsB {P : Program} {C : Cfg} (hP : C.P = P) (hnm : NamesOk P) (hord : P.follows .mixedOrders = true) (hctr : ∀ f c, C.ctr f = some c -> CtrOk P X side f c) {f : Nat} {tu tby tt tb m : Nat} {M : Msg}
  (hrun : runsTo P C f ⟨[.val tu, .val tby, .val tt], .val tb, 200, false⟩ [] (lawEB M m) (lawOB M m) = true) (hu : isI P .u8 tu = true) (htree : isTree P tt = true) (hsig : areA P [.int .u8, .byts, .tree] [.val tu, .val tby, .val tt] = true)
  (hM : okB M = true) (hX : ∀ v a b, X m [v, a, b] = bX a b) (hS : ∀ v a b, side m [v, a, b] = bSide M v a b) {ok : Nat -> Prop} {w : World} {n : Int} {bv tv : Value} {bd d : D} (hn : (Lit.int .u8 n).wf = true) (hb : Rep P ok w tby bv bd) (ht : Rep P ok w tt tv d) (hok : ∀ b, ok b -> b < w.heap.size)
  (hl : ∀ t : T, d = t.d -> wfT t = true -> fitsTo t = true -> ∀ v, 0 <= v -> v <= M.most -> (partS M.fs v (Flexible M.fx v) t).length + 2000 <= lim) :
  Calls P f #[.int .u8 n, bv, tv] w fun e w' => e = .returned (.bool true) /\ Fr (fun _ => False) w w' := by
 subst hP
 obtain ⟨fn, hf, hr⟩ := runsTo_eq hrun
 have hA : ArgsOk C.P ok w [.val tu, .val tby, .val tt] [.int .u8 n, bv, tv] [.int n, bd, d] := .cons (.val (.int (isI_eq hu) hn)) (.cons (.val hb) (.cons (.val ht) .nil))
 have hks := areA_ok hsig hA
 obtain @⟨⟩ | @⟨_, _, _, _, _, hks⟩ := hks
 obtain @⟨⟩ | @⟨_, _, _, _, kb, hks⟩ := hks
 obtain ⟨dst, rfl⟩ := kb
 obtain ⟨t, rfl⟩ := (rep_tree0 ht).1 htree
 have hw := (rep_treeW ht).1 htree t rfl
 obtain ⟨hn0, hn1⟩ := wf_u8 hn
 have hlaw := law_okB hM hX hS n dst t hn0 hn1 hw (hl t rfl hw)
 have hW : ∀ b, ¬ Wr w [AK.val tu, .val tby, .val tt] [.int .u8 n, bv, tv] b := fun b h => by simp [Wr, wrA] at h
 have := callK (C := C) (c := ⟨[.val tu, .val tby, .val tt], .val tb, 200, false⟩) hnm hord hctr hf hr hA (fun b hb => ⟨hok b hb, hW b⟩) (fun j k hj => by simp [lk] at hj) hlaw.1 (by rw [hlaw.2]; exact (X_200 _).symm) (good_noRd rfl _)
 refine Calls.mono this (fun e w' he => ?_)
 obtain ⟨v, rfl, hfr, hres⟩ := he
 have e1 : Rep C.P (fun b => ok b ∨ w.heap.size <= b) w' tb v (X 200 [.int n, encB dst, t.d]) := hres (fun b => ok b ∨ w.heap.size <= b) (fun _ h => .inl h) (fun _ h _ => .inr h)
 rw [X_200] at e1
 refine ⟨?_, hfr.mono (fun b _ hb => (hW b hb).elim)⟩
 cases e1; rfl
end Go.Mx
namespace Go.Mx
open Go Go.Dx
def sp67 : DE := .f (.get 0) [.f (.ext 71) [.v 0, .k (.int 16)]]
def cE67 (j : Nat) : DE := .f .ite [.f .ltI [.k (.int j), .f .len [sp67]], .f (.get 0) [.f .at [sp67, .k (.int j)]], .k (.int 0)]
def deR67 : DE := .f .mkrow [.f .mkrow ((List.range 16).map cE67), .f (.get 1) [.f (.ext 71) [.v 0, .k (.int 16)]], .k (.bool false)]
def obR67 : List Ob := [.pre 71 [.v 0, .k (.int 16)]]
theorem evR67 (ds : List D) (hk : KsOk [.byts] ds) (h : side 67 ds) : obsHold X side obR67 ds /\ deR67.eval X ds = X 67 ds := by
 obtain ⟨s, rfl⟩ := ks1 hk
 rw [side_67] at h
 obtain ⟨b, rfl, hl⟩ := h
 have e71 : (DE.f (.ext 71) [.v 0, .k (.int 16)]).eval X [.bytes b] = rowR (.bytes (b.take 16)) (b.drop 16) := by
  rw [ev_f, evs_cons, evs_cons, evs_nil, ev_v, ev_k, List.getD_cons_zero, fe_ext, X_71, str_by]; rfl
 have esp : sp67.eval X [.bytes b] = .bytes (b.take 16) := by
  unfold sp67; rw [ev_f, evs_cons, evs_nil, e71, get0R]
 have hlen : (b.take 16).length = 16 := by rw [List.length_take]; omega
 have ec : ∀ j : Nat, j < 16 -> (cE67 j).eval X [.bytes b] = .int ((b.take 16).getD j 0).toNat := fun j hj => by
  unfold cE67
  have hg : (b.take 16)[((j : Nat) : Int).toNat]? = some ((b.take 16).getD j 0) := by
   rw [Int.toNat_natCast, List.getElem?_eq_getElem (by omega), List.getD_eq_getElem?_getD, List.getElem?_eq_getElem (by omega)]; rfl
  rw [ev_f, evs_cons, evs_cons, evs_cons, evs_nil, ev_f, evs_cons, evs_cons, evs_nil, ev_k, ev_f, evs_cons, evs_nil, esp, fe_len, len_by, hlen, ltI_t (by omega), ite_t, ev_f, evs_cons, evs_nil, ev_f, evs_cons, evs_cons, evs_nil, esp, ev_k, getB _ _ _ hg]
 refine ⟨⟨?_, trivial⟩, ?_⟩
 ·simp only [Ob.holds]
  exact ⟨b, rfl, by show (0 : Int) <= 16; decide, by show (16 : Nat) <= b.length; omega⟩
 ·unfold deR67
  rw [ev_f, evs_cons, evs_cons, evs_cons, evs_nil, ev_k, ev_f, ev_f, evs_cons, evs_nil, e71, get1R, fe_mkrow (evals _ _ _), row_rowR, X_67, str_by]
  congr 2
  rw [evals_map]
  apply List.ext_getElem?
  intro j
  rw [List.getElem?_map, List.getElem?_map]
  by_cases hj : j < 16
  ·rw [List.getElem?_range hj, List.getElem?_eq_getElem (by omega : j < (b.take 16).length), Option.map_some, Option.map_some, ec j hj, List.getD_eq_getElem?_getD, List.getElem?_eq_getElem (by omega : j < (b.take 16).length)]; rfl
  ·rw [List.getElem?_eq_none (by simp; omega), List.getElem?_eq_none (by omega)]; rfl
end Go.Mx
namespace Go.Mx
open Go Go.Dx
def deK2 : Nat -> DE
 | 61 => deR61
 | 62 => deR62
 | 63 => deR63
 | 64 => deR64
 | 65 => deR65
 | 66 => deR66
 | 67 => deR67
 | 69 => deR69
 | 70 => deR70
 | 71 => deR71
 | 72 => deR72
 | 73 => deR73
 | 74 => deR74
 | 75 => deR75
 | 76 => deR76
 | 77 => deR77
 | 80 => deR80
 | 81 => deR81
 | 82 => deR82
 | _ => .k .nil
def obK2 : Nat -> List Ob
 | 61 => obR61
 | 62 => obR62
 | 63 => obR63
 | 64 => obR64
 | 65 => obR65
 | 66 => obR66
 | 67 => obR67
 | 69 => obR69
 | 70 => obR70
 | 71 => obR71
 | 72 => obR72
 | 73 => obR73
 | 74 => obR74
 | 75 => obR75
 | 76 => obR76
 | 77 => obR77
 | 80 => obR80
 | 81 => obR81
 | 82 => obR82
 | _ => []
def sig2 : Nat -> List K
 | 71 => [.byts, .int .i64]
 | _ => [.byts]
def rank2 : Nat -> Nat
 | 65 => 1
 | 66 => 2
 | 67 => 1
 | 69 => 1
 | 72 => 1
 | 73 => 1
 | 74 => 1
 | 75 => 1
 | 76 => 2
 | 77 => 1
 | 80 => 2
 | 81 => 1
 | 82 => 1
 | _ => 0
def known2? : Nat -> Bool
 | 61 => true
 | 62 => true
 | 63 => true
 | 64 => true
 | 65 => true
 | 66 => true
 | 67 => true
 | 69 => true
 | 70 => true
 | 71 => true
 | 72 => true
 | 73 => true
 | 74 => true
 | 75 => true
 | 76 => true
 | 77 => true
 | 80 => true
 | 81 => true
 | 82 => true
 | _ => false
theorem evB61 (ds : List D) (hk : KsOk (sig2 61) ds) (h : side 61 ds) : obsHold X side (obK2 61) ds /\ (deK2 61).eval X ds = X 61 ds /\ (X 61 ds).cells.getD 2 .nil = .bool false := by
 have e := evR61 ds hk h
 refine ⟨e.1, e.2, ?_⟩
 obtain ⟨s, rfl⟩ := ks1 hk
 rfl
theorem evB62 (ds : List D) (hk : KsOk (sig2 62) ds) (h : side 62 ds) : obsHold X side (obK2 62) ds /\ (deK2 62).eval X ds = X 62 ds /\ (X 62 ds).cells.getD 2 .nil = .bool false := by
 have e := evR62 ds hk h
 refine ⟨e.1, e.2, ?_⟩
 obtain ⟨s, rfl⟩ := ks1 hk
 rfl
theorem evB63 (ds : List D) (hk : KsOk (sig2 63) ds) (h : side 63 ds) : obsHold X side (obK2 63) ds /\ (deK2 63).eval X ds = X 63 ds /\ (X 63 ds).cells.getD 2 .nil = .bool false := by
 have e := evR63 ds hk h
 refine ⟨e.1, e.2, ?_⟩
 obtain ⟨s, rfl⟩ := ks1 hk
 rfl
theorem evB64 (ds : List D) (hk : KsOk (sig2 64) ds) (h : side 64 ds) : obsHold X side (obK2 64) ds /\ (deK2 64).eval X ds = X 64 ds /\ (X 64 ds).cells.getD 2 .nil = .bool false := by
 have e := evR64 ds hk h
 refine ⟨e.1, e.2, ?_⟩
 obtain ⟨s, rfl⟩ := ks1 hk
 rfl
theorem evB65 (ds : List D) (hk : KsOk (sig2 65) ds) (h : side 65 ds) : obsHold X side (obK2 65) ds /\ (deK2 65).eval X ds = X 65 ds /\ (X 65 ds).cells.getD 2 .nil = .bool false := by
 have e := evR65 ds hk h
 refine ⟨e.1, e.2, ?_⟩
 obtain ⟨s, rfl⟩ := ks1 hk
 rfl
theorem evB66 (ds : List D) (hk : KsOk (sig2 66) ds) (h : side 66 ds) : obsHold X side (obK2 66) ds /\ (deK2 66).eval X ds = X 66 ds /\ (X 66 ds).cells.getD 2 .nil = .bool false := by
 have e := evR66 ds hk h
 refine ⟨e.1, e.2, ?_⟩
 obtain ⟨s, rfl⟩ := ks1 hk
 rfl
theorem evB67 (ds : List D) (hk : KsOk (sig2 67) ds) (h : side 67 ds) : obsHold X side (obK2 67) ds /\ (deK2 67).eval X ds = X 67 ds /\ (X 67 ds).cells.getD 2 .nil = .bool false := by
 have e := evR67 ds hk h
 refine ⟨e.1, e.2, ?_⟩
 obtain ⟨s, rfl⟩ := ks1 hk
 rfl
theorem evB69 (ds : List D) (hk : KsOk (sig2 69) ds) (h : side 69 ds) : obsHold X side (obK2 69) ds /\ (deK2 69).eval X ds = X 69 ds /\ (X 69 ds).cells.getD 2 .nil = .bool false := by
 have e := evR69 ds hk h
 refine ⟨e.1, e.2, ?_⟩
 obtain ⟨s, rfl⟩ := ks1 hk
 rfl
theorem evB70 (ds : List D) (hk : KsOk (sig2 70) ds) (h : side 70 ds) : obsHold X side (obK2 70) ds /\ (deK2 70).eval X ds = X 70 ds /\ (X 70 ds).cells.getD 2 .nil = .bool false := by
 have e := evR70 ds hk h
 refine ⟨e.1, e.2, ?_⟩
 obtain ⟨s, rfl⟩ := ks1 hk
 rfl
theorem evB71 (ds : List D) (hk : KsOk (sig2 71) ds) (h : side 71 ds) : obsHold X side (obK2 71) ds /\ (deK2 71).eval X ds = X 71 ds /\ (X 71 ds).cells.getD 2 .nil = .bool false := by
 have e := evR71 ds hk h
 refine ⟨e.1, e.2, ?_⟩
 obtain @⟨⟩ | @⟨_, d1, _, _, _, hk⟩ := hk
 obtain @⟨⟩ | @⟨_, d2, _, _, _, hk⟩ := hk
 cases hk
 rfl
theorem evB72 (ds : List D) (hk : KsOk (sig2 72) ds) (h : side 72 ds) : obsHold X side (obK2 72) ds /\ (deK2 72).eval X ds = X 72 ds /\ (X 72 ds).cells.getD 2 .nil = .bool false := by
 have e := evR72 ds hk h
 refine ⟨e.1, e.2, ?_⟩
 obtain ⟨s, rfl⟩ := ks1 hk
 rfl
theorem evB73 (ds : List D) (hk : KsOk (sig2 73) ds) (h : side 73 ds) : obsHold X side (obK2 73) ds /\ (deK2 73).eval X ds = X 73 ds /\ (X 73 ds).cells.getD 2 .nil = .bool false := by
 have e := evR73 ds hk h
 refine ⟨e.1, e.2, ?_⟩
 obtain ⟨s, rfl⟩ := ks1 hk
 rfl
theorem evB74 (ds : List D) (hk : KsOk (sig2 74) ds) (h : side 74 ds) : obsHold X side (obK2 74) ds /\ (deK2 74).eval X ds = X 74 ds /\ (X 74 ds).cells.getD 2 .nil = .bool false := by
 have e := evR74 ds hk h
 refine ⟨e.1, e.2, ?_⟩
 obtain ⟨s, rfl⟩ := ks1 hk
 rfl
theorem evB75 (ds : List D) (hk : KsOk (sig2 75) ds) (h : side 75 ds) : obsHold X side (obK2 75) ds /\ (deK2 75).eval X ds = X 75 ds /\ (X 75 ds).cells.getD 2 .nil = .bool false := by
 have e := evR75 ds hk h
 refine ⟨e.1, e.2, ?_⟩
 obtain ⟨s, rfl⟩ := ks1 hk
 rfl
theorem evB76 (ds : List D) (hk : KsOk (sig2 76) ds) (h : side 76 ds) : obsHold X side (obK2 76) ds /\ (deK2 76).eval X ds = X 76 ds /\ (X 76 ds).cells.getD 2 .nil = .bool false := by
 have e := evR76 ds hk h
 refine ⟨e.1, e.2, ?_⟩
 obtain ⟨s, rfl⟩ := ks1 hk
 rfl
theorem evB77 (ds : List D) (hk : KsOk (sig2 77) ds) (h : side 77 ds) : obsHold X side (obK2 77) ds /\ (deK2 77).eval X ds = X 77 ds /\ (X 77 ds).cells.getD 2 .nil = .bool false := by
 have e := evR77 ds hk h
 refine ⟨e.1, e.2, ?_⟩
 obtain ⟨s, rfl⟩ := ks1 hk
 rfl
theorem evB80 (ds : List D) (hk : KsOk (sig2 80) ds) (h : side 80 ds) : obsHold X side (obK2 80) ds /\ (deK2 80).eval X ds = X 80 ds /\ (X 80 ds).cells.getD 2 .nil = .bool false := by
 have e := evR80 ds hk h
 refine ⟨e.1, e.2, ?_⟩
 obtain ⟨s, rfl⟩ := ks1 hk
 rfl
theorem evB81 (ds : List D) (hk : KsOk (sig2 81) ds) (h : side 81 ds) : obsHold X side (obK2 81) ds /\ (deK2 81).eval X ds = X 81 ds /\ (X 81 ds).cells.getD 2 .nil = .bool false := by
 have e := evR81 ds hk h
 refine ⟨e.1, e.2, ?_⟩
 obtain ⟨s, rfl⟩ := ks1 hk
 rfl
theorem evB82 (ds : List D) (hk : KsOk (sig2 82) ds) (h : side 82 ds) : obsHold X side (obK2 82) ds /\ (deK2 82).eval X ds = X 82 ds /\ (X 82 ds).cells.getD 2 .nil = .bool false := by
 have e := evR82 ds hk h
 refine ⟨e.1, e.2, ?_⟩
 obtain ⟨s, rfl⟩ := ks1 hk
 rfl
theorem evB (k : Nat) (hk : known2? k = true) (ds : List D) (hks : KsOk (sig2 k) ds) (h : side k ds) : obsHold X side (obK2 k) ds /\ (deK2 k).eval X ds = X k ds /\ (X k ds).cells.getD 2 .nil = .bool false := by
 unfold known2? at hk
 split at hk
 ·exact evB61 ds hks h
 ·exact evB62 ds hks h
 ·exact evB63 ds hks h
 ·exact evB64 ds hks h
 ·exact evB65 ds hks h
 ·exact evB66 ds hks h
 ·exact evB67 ds hks h
 ·exact evB69 ds hks h
 ·exact evB70 ds hks h
 ·exact evB71 ds hks h
 ·exact evB72 ds hks h
 ·exact evB73 ds hks h
 ·exact evB74 ds hks h
 ·exact evB75 ds hks h
 ·exact evB76 ds hks h
 ·exact evB77 ds hks h
 ·exact evB80 ds hks h
 ·exact evB81 ds hks h
 ·exact evB82 ds hks h
 ·cases hk
def ctrs2 (base tab : List (Nat × Ctr)) (r : Nat) (f : FuncId) : Option Ctr :=
 match lk f tab with
 | some c => if rank2 c.fn < r then some c else none
 | none => lk f base
def runOk2 (P : Program) (base tab : List (Nat × Ctr)) (f : FuncId) (c : Ctr) : Bool :=
 match P.funcs[f]? with
 | some fn =>
  match runF ⟨P, ctrs2 base tab (rank2 c.fn), fun _ _ _ => none⟩ 100000 8 c fn with
  | some (d, os) => d.beq (deK2 c.fn) && obbeqs os (obK2 c.fn)
  | none => false
 | none => false
def ctrOk2? (P : Program) (base tab : List (Nat × Ctr)) (f : FuncId) (c : Ctr) : Bool :=
 known2? c.fn && areA P (sig2 c.fn) c.args && c.pre && runOk2 P base tab f c
theorem one_ok2 {P : Program} {base tab : List (Nat × Ctr)} (hnm : NamesOk P) (hord : P.follows .mixedOrders = true) {f : FuncId} {c : Ctr} (h : ctrOk2? P base tab f c = true)
  (hc : ∀ g d, ctrs2 base tab (rank2 c.fn) g = some d -> CtrOk P X side g d) : CtrOk P X side f c := by
 simp only [ctrOk2?, Bool.and_eq_true] at h
 obtain ⟨⟨⟨hk, hsig⟩, hpre⟩, hrun⟩ := h
 unfold runOk2 at hrun
 split at hrun
 rotate_left
 ·cases hrun
 rename_i fn hf
 split at hrun
 rotate_left
 ·cases hrun
 rename_i d os hr
 simp only [Bool.and_eq_true] at hrun
 have e1 := DE.beq_eq hrun.1
 have e2 := obbeqs_eq hrun.2
 subst e1; subst e2
 exact ctrOk_of_run (C := ⟨P, ctrs2 base tab (rank2 c.fn), fun _ _ _ => none⟩) hnm hord hc hf hr (fun ok w vs ds hA hp => by
  obtain ⟨q1, q2, q3⟩ := evB c.fn hk ds (areA_ok hsig hA) (hp hpre)
  exact ⟨q1, q2, fun _ _ => q3⟩)
def hand2 (k : Nat) : Bool := k == 86 || k == 87
theorem all_ok2 {P : Program} {base tab : List (Nat × Ctr)} (hnm : NamesOk P) (hord : P.follows .mixedOrders = true) (hb : ∀ f c, lk f base = some c -> CtrOk P X side f c)
  (hh : ∀ f c, lk f tab = some c -> hand2 c.fn = true -> CtrOk P X side f c) (hchk : ∀ f c, lk f tab = some c -> hand2 c.fn = false -> ctrOk2? P base tab f c = true) : ∀ f c, lk f tab = some c -> CtrOk P X side f c := by
 have key : ∀ r f c, lk f tab = some c -> rank2 c.fn = r -> CtrOk P X side f c := by
  intro r
  induction r using Nat.strongRecOn with
  | ind r ih =>
   intro f c hl hr
   cases h86 : hand2 c.fn with
   | true => exact hh f c hl h86
   | false =>
    refine one_ok2 hnm hord (hchk f c hl h86) (fun g d hg => ?_)
    unfold ctrs2 at hg
    split at hg
    ·rename_i c' hc'
     split at hg
     ·rename_i hlt
      cases hg
      exact ih _ (by omega) g _ hc' rfl
     ·cases hg
    ·exact hb g d hg
 exact fun f c h => key _ f c h rfl
end Go.Mx
namespace Go.Mx
open Go Go.Dx
theorem insM_srt (k : Int) (d : D) : ∀ l : List (Int × D), (l.map (·.1)).Pairwise (· < ·) -> ((insM k d l).map (·.1)).Pairwise (· < ·) /\ ∀ y ∈ insM k d l, y = (k, d) ∨ (y ∈ l /\ y.1 ≠ k)
 | [], _ => by simp [insM]
 | x :: r, h => by
  rw [List.map_cons] at h
  obtain ⟨h1, h2⟩ := List.pairwise_cons.1 h
  have hx : ∀ y ∈ r, x.1 < y.1 := fun y hy => h1 _ (List.mem_map.2 ⟨y, hy, rfl⟩)
  obtain ⟨i1, i2⟩ := insM_srt k d r h2
  rw [insM]
  split
  ·rename_i hlt
   refine ⟨?_, fun y hy => ?_⟩
   ·rw [List.map_cons]
    refine List.pairwise_cons.2 ⟨fun z hz => ?_, i1⟩
    obtain ⟨y, hy, rfl⟩ := List.mem_map.1 hz
    rcases i2 y hy with rfl | ⟨hy, _⟩
    ·exact hlt
    ·exact hx y hy
   ·rcases List.mem_cons.1 hy with rfl | hy
    ·exact .inr ⟨by simp, by omega⟩
    ·rcases i2 y hy with h | ⟨h, hn⟩
     ·exact .inl h
     ·exact .inr ⟨by simp [h], hn⟩
  ·split
   ·rename_i heq
    refine ⟨?_, fun y hy => ?_⟩
    ·rw [List.map_cons]
     exact List.pairwise_cons.2 ⟨fun z hz => by rw [<- heq]; exact h1 z hz, h2⟩
    ·rcases List.mem_cons.1 hy with rfl | hy
     ·exact .inl rfl
     ·exact .inr ⟨by simp [hy], by have := hx y hy; omega⟩
   ·refine ⟨?_, fun y hy => ?_⟩
    ·rw [List.map_cons, List.map_cons]
     refine List.pairwise_cons.2 ⟨fun z hz => ?_, List.pairwise_cons.2 ⟨h1, h2⟩⟩
     rcases List.mem_cons.1 hz with rfl | hz
     ·show k < x.1; omega
     ·have := h1 z hz; show k < z; omega
    ·rcases List.mem_cons.1 hy with rfl | hy
     ·exact .inl rfl
     ·refine .inr ⟨hy, ?_⟩
      rcases List.mem_cons.1 hy with rfl | hy
      ·omega
      ·have := hx y hy; omega
theorem insM_new (k : Int) (d : D) : ∀ l : List (Int × D), (∀ y ∈ l, y.1 ≠ k) -> ((insM k d l).map (·.1)).Perm (k :: l.map (·.1))
 | [], _ => by simp [insM]
 | x :: r, h => by
  rw [insM]
  split
  ·rw [List.map_cons, List.map_cons]
   exact ((insM_new k d r (fun y hy => h y (by simp [hy]))).cons x.1).trans (List.Perm.swap _ _ _)
  ·rw [if_neg (h x (by simp))]
   exact List.Perm.refl _
theorem insM_old (k : Int) (d : D) : ∀ l : List (Int × D), (l.map (·.1)).Pairwise (· < ·) -> (∃ y ∈ l, y.1 = k) -> (insM k d l).map (·.1) = l.map (·.1)
 | [], _, h => by obtain ⟨y, hy, _⟩ := h; cases hy
 | x :: r, h, hk => by
  rw [List.map_cons] at h
  obtain ⟨h1, h2⟩ := List.pairwise_cons.1 h
  obtain ⟨y, hy, rfl⟩ := hk
  rw [insM]
  rcases List.mem_cons.1 hy with rfl | hy
  ·rw [if_neg (by omega), if_pos rfl]; rfl
  ·have hlt : x.1 < y.1 := h1 _ (List.mem_map.2 ⟨y, hy, rfl⟩)
   rw [if_pos hlt, List.map_cons, List.map_cons, insM_old y.1 d r h2 ⟨y, hy, rfl⟩]
section
variable {P : Program} {ok : Nat -> Prop} {w : World} {m k e r : Nat} {ds : List (Int × D)} {clock : Nat} {es : Array MapEntry}
theorem keys_read (hk : P.underlying k = some (.int .u32)) (hkeys : (es.toList.map (·.key)).Perm (ds.map fun d => Value.int .u32 d.1)) (hkw : ∀ d ∈ ds, (Lit.int .u32 d.1).wf = true) : ∀ x ∈ es.toList, ∃ d ∈ ds, x.key = .int .u32 d.1 /\ keyOf P k x.key = some (.int .u32 d.1) := by
 intro x hx
 have h1 : x.key ∈ ds.map fun d => Value.int .u32 d.1 := hkeys.subset (List.mem_map.2 ⟨x, hx, rfl⟩)
 obtain ⟨d, hd, he⟩ := List.mem_map.1 h1
 refine ⟨d, hd, he.symm, ?_⟩
 rw [<- he]
 exact Maps.keyOf_int_mk hk (hkw d hd)
theorem set_same {A : Type} {l : List A} {j : Nat} {a : A} (h : l[j]? = some a) : l.set j a = l := by
 apply List.ext_getElem (by simp)
 intro i h1 h2
 rw [List.getElem_set]
 split
 ·rename_i e; subst e; exact (List.getElem?_eq_some_iff.1 h).2.symm
 ·rfl
theorem modify_list {A : Type} (es : Array A) (j : Nat) (e0 : A) (f : A -> A) (h : es.toList[j]? = some e0) : (es.modify j f).toList = es.toList.set j (f e0) := by
 rw [Array.toList_modify, ChangeMaps.modify_eq_set _ _ _ _ h]
theorem tags_update {n : Int} {v : Value} {dv : D} (h : TagsAt P ok w m (.map (some r)) (.map ds)) (hm : P.underlying m = some (.map k e)) (hn : (Lit.int .u32 n).wf = true) (hv : Rep P ok w e v dv) :
  ∃ es' clock', (Instr.mapUpdate m (.map (some r)) (.int .u32 n) v).run P w = .ok () (ChangeMaps.setBlock w r (.map es' clock')) /\
   ∀ (ok' : Nat -> Prop) (w' : World), w'.heap[r]? = some (.map es' clock') -> (∀ b, ok b -> ok' b /\ w'.heap[b]? = w.heap[b]?) -> TagsAt P ok' w' m (.map (some r)) (.map (insM n dv ds)) := by
 cases h with
 | map hu hk hh hkeys hkw hs hborn hclock hr =>
  rw [hm] at hu; cases hu
  rename_i clock es
  have K := Maps.int_keyed hk
  have hkey := Maps.keyOf_int_mk hk hn
  have hkr := keys_read hk hkeys hkw
  obtain ⟨s1, s2⟩ := insM_srt n dv ds hs
  have hin : ∀ d' ∈ ds, d'.1 ≠ n -> True := fun _ _ _ => trivial
  rcases K.find w hkey es.toList (fun x hx => by obtain ⟨d, _, _, h⟩ := hkr x hx; exact ⟨_, h⟩) with ⟨h1, h2⟩ | ⟨j, e0, h1, h2, h3⟩
  ·refine ⟨es.push ⟨.int .u32 n, v, clock⟩, clock + 1, ?_, fun ok' w' hw' hok' => ?_⟩
   ·simp [Instr.mapUpdate, run_underlying hm, Go.MapKept.run_getObj_map hh, K.check w false hkey, h1, Go.MapKept.run_setObj_map _ hh, Result.andThen, ChangeMaps.setBlock]
   ·have hnew : ∀ y ∈ ds, y.1 ≠ n := fun y hy he => by
     have : Value.int .u32 n ∈ es.toList.map (·.key) := hkeys.symm.subset (List.mem_map.2 ⟨y, hy, by rw [he]⟩)
     obtain ⟨x, hx, hxe⟩ := List.mem_map.1 this
     exact h2 x hx hxe
    refine .map hm hk hw' ?_ (fun d hd => ?_) s1 ?_ ?_ ?_
    ·have hp := (insM_new n dv ds hnew).map (fun i => Value.int .u32 i)
     rw [List.map_map] at hp
     have e1 : (ds.map fun d => Value.int .u32 d.1) = (ds.map (·.1)).map (fun i => Value.int .u32 i) := by rw [List.map_map]; rfl
     simp only [Array.toList_push, List.map_append, List.map_cons, List.map_nil]
     refine List.Perm.trans ?_ hp.symm
     rw [List.map_cons, <- e1]
     exact (hkeys.append_right _).trans (List.perm_append_singleton _ _)
    ·rcases s2 d hd with rfl | ⟨hd, _⟩
     ·exact hn
     ·exact hkw d hd
    ·simp only [Array.toList_push, List.map_append, List.map_cons, List.map_nil]
     refine List.nodup_append.2 ⟨hborn, by simp, fun a ha b hb => ?_⟩
     obtain ⟨x, hx, rfl⟩ := List.mem_map.1 ha
     rw [List.mem_singleton] at hb
     have := hclock x hx
     omega
    ·intro x hx
     simp only [Array.toList_push, List.mem_append, List.mem_singleton] at hx
     rcases hx with hx | rfl
     ·have := hclock x hx; omega
     ·show clock < clock + 1; omega
    ·intro x hx n' d' hxn hd'
     simp only [Array.toList_push, List.mem_append, List.mem_singleton] at hx
     rcases hx with hx | rfl
     ·have hne : n' ≠ n := fun e1 => h2 x hx (by rw [hxn, e1])
      rcases s2 _ hd' with h4 | ⟨h4, _⟩
      ·cases h4; exact absurd rfl hne
      ·exact (hr x hx n' d' hxn h4).mono (fun b hb => (hok' b hb).1) (fun b hb => (hok' b hb).2)
     ·have hxn : Value.int .u32 n = .int .u32 n' := hxn
      cases hxn
      rcases s2 _ hd' with h4 | ⟨_, h4⟩
      ·cases h4; exact hv.mono (fun b hb => (hok' b hb).1) (fun b hb => (hok' b hb).2)
      ·exact absurd rfl h4
  ·have hj : es[j]? = some e0 := by simpa using h2
   have hlist : (es.modify j (fun e' => { e' with key := .int .u32 n, val := v })).toList = es.toList.set j { e0 with key := .int .u32 n, val := v } := modify_list es j e0 _ h2
   have hjl : j < es.toList.length := (List.getElem?_eq_some_iff.1 h2).1
   have hkeyS : (es.toList.set j { e0 with key := .int .u32 n, val := v }).map (·.key) = es.toList.map (·.key) := by
    rw [List.map_set]
    exact set_same (by rw [List.getElem?_map, h2]; simp [h3])
   have hbornS : (es.toList.set j { e0 with key := .int .u32 n, val := v }).map (·.born) = es.toList.map (·.born) := by
    rw [List.map_set]
    exact set_same (by rw [List.getElem?_map, h2]; rfl)
   have hold : ∃ y ∈ ds, y.1 = n := by
    obtain ⟨d, hd, he, _⟩ := hkr e0 (List.mem_of_getElem? h2)
    rw [h3] at he
    cases he
    exact ⟨d, hd, rfl⟩
   refine ⟨es.modify j (fun e' => { e' with key := .int .u32 n, val := v }), clock, ?_, fun ok' w' hw' hok' => ?_⟩
   ·simp [Instr.mapUpdate, run_underlying hm, Go.MapKept.run_getObj_map hh, K.check w false hkey, h1, hj, h3, K.stays w hkey, Go.MapKept.run_setObj_map _ hh, Result.andThen, ChangeMaps.setBlock]
   ·refine .map hm hk hw' ?_ (fun d hd => ?_) s1 ?_ ?_ ?_
    ·rw [hlist, hkeyS]
     have e1 : (ds.map fun d => Value.int .u32 d.1) = (ds.map (·.1)).map (fun i => Value.int .u32 i) := by rw [List.map_map]; rfl
     have e2 : ((insM n dv ds).map fun d => Value.int .u32 d.1) = ((insM n dv ds).map (·.1)).map (fun i => Value.int .u32 i) := by rw [List.map_map]; rfl
     rw [e2, insM_old n dv ds hs hold, <- e1]
     exact hkeys
    ·rcases s2 d hd with rfl | ⟨hd, _⟩
     ·exact hn
     ·exact hkw d hd
    ·rw [hlist, hbornS]; exact hborn
    ·intro x hx
     have : x.born ∈ es.toList.map (·.born) := by
      rw [<- hbornS]
      rw [hlist] at hx
      exact List.mem_map.2 ⟨x, hx, rfl⟩
     obtain ⟨y, hy, hye⟩ := List.mem_map.1 this
     rw [<- hye]
     exact hclock y hy
    ·intro x hx n' d' hxn hd'
     rw [hlist] at hx
     obtain ⟨i, hi, hxi⟩ := List.mem_iff_getElem.1 hx
     rw [List.getElem_set] at hxi
     split at hxi
     ·subst hxi
      have hxn : Value.int .u32 n = .int .u32 n' := hxn
      cases hxn
      rcases s2 _ hd' with h4 | ⟨_, h4⟩
      ·cases h4; exact hv.mono (fun b hb => (hok' b hb).1) (fun b hb => (hok' b hb).2)
      ·exact absurd rfl h4
     ·rename_i hne
      have hil : i < es.toList.length := by rw [List.length_set] at hi; exact hi
      have hxm : x ∈ es.toList := hxi ▸ List.getElem_mem hil
      have hne2 : n' ≠ n := fun e1 => by
       have hnd : (es.toList.map (·.key)).Nodup := by
        refine hkeys.nodup_iff.2 ?_
        have : (ds.map (·.1)).Nodup := hs.imp (fun {a b} h => by omega)
        have e1 : (ds.map fun d => Value.int .u32 d.1) = (ds.map (·.1)).map (fun i => Value.int .u32 i) := by rw [List.map_map]; rfl
        rw [e1]
        exact List.Pairwise.map _ (fun a b (hab : a ≠ b) hc => hab (by cases hc; rfl)) this
       have hi2 : i < (es.toList.map (·.key)).length := by rw [List.length_map]; exact hil
       have hj2 : j < (es.toList.map (·.key)).length := by rw [List.length_map]; exact hjl
       have : (es.toList.map (·.key))[i] = (es.toList.map (·.key))[j] := by
        rw [List.getElem_map, List.getElem_map, hxi, hxn, e1]
        have := (List.getElem?_eq_some_iff.1 h2).2
        rw [this, h3]
       exact hne ((List.getElem_inj hnd).1 this).symm
      rcases s2 _ hd' with h4 | ⟨h4, _⟩
      ·cases h4; exact absurd rfl hne2
      ·exact (hr x hxm n' d' hxn h4).mono (fun b hb => (hok' b hb).1) (fun b hb => (hok' b hb).2)
end
end Go.Mx
namespace Go.Mx
open Go Go.Dx
def boxS (tb nt : Nat) : St := { env := [(0, .i .u32 (.v 0)), (1, .x 1), (2, .oa 0 0)], vars := [(1, ⟨.set tb, .v 1⟩), (2, ⟨.own tb, .v 2⟩)], objs := [(0, [.x 2])], loops := [], obl := [], lvl := 3, nx := 3, nt := nt }
noncomputable def boxOut (tb : Nat) (de : DE) (os : List Ob) : List Out -> Bool
 | [o] => allRet [o] && o.pc.isEmpty && obbeqs o.st.obl os && (match lk 0 o.st.objs with
  | some [.x m] => (match lk m o.st.vars with
   | some ⟨.own t, d⟩ => decide (t = tb) && d.beq de
   | _ => false)
  | _ => false)
 | _ => false
noncomputable def boxRun (C : Cfg) (tb f : Nat) (de : DE) (os : List Ob) : Bool :=
 match C.P.funcs[f]? with
 | some fn => match fn.body with
  | some body => fn.results.isEmpty && decide (3 <= fn.ntmps) && (match exec C 100000 8 [body] (boxS tb fn.ntmps) with
   | some outs => boxOut tb de os outs
   | none => false)
  | none => false
 | none => false
section
variable {C : Cfg} {ok : Nat -> Prop} {w : World} {tb f B ty : Nat} {key : Int} {v vv : Value} {dv acc : D} {de : DE} {os : List Ob}
theorem box_mem {nt : Nat} (hnt : 3 <= nt) (hB : w.heap[B]? = some (.cells #[v] ty (0, 0))) (hown : OwnAt C.P ok w tb v acc) (hval : Rep C.P ok w tb vv dv) (hkey : (Lit.int .u32 key).wf = true) (hone : v.oneCell' = true)
  (hok : ∀ b, ok b -> b < w.heap.size /\ b ≠ B /\ v.ownBlock ≠ some b) (hvB : v.ownBlock ≠ some B) :
  Mem C.P X ⟨w, fun b => b = B ∨ v.ownBlock = some b, fun b => b < w.heap.size /\ ¬ ok b /\ ¬ (b = B ∨ v.ownBlock = some b)⟩ [.int key, dv, acc] (boxS tb nt) { rv := fun i => if i = 1 then vv else v, rb := fun _ => B, rh := fun _ => (0, 0), ex := fun b => b < w.heap.size /\ ¬ ok b /\ ¬ (b = B ∨ v.ownBlock = some b) } w /\
   Env X [.int key, dv, acc] (boxS tb nt) { rv := fun i => if i = 1 then vv else v, rb := fun _ => B, rh := fun _ => (0, 0), ex := fun b => b < w.heap.size /\ ¬ ok b /\ ¬ (b = B ∨ v.ownBlock = some b) } { tmps := #[.int .u32 key, vv, .pointer (some ⟨B, 0, none⟩)] ++ Array.replicate (nt - 3) undef, defers := [] } := by
 have hvars : ∀ n vi, lk n (boxS tb nt).vars = some vi -> (n = 1 /\ vi = ⟨.set tb, .v 1⟩) ∨ (n = 2 /\ vi = ⟨.own tb, .v 2⟩) := fun n vi hn => by
  simp only [boxS, lk] at hn
  split at hn
  ·rename_i h; rw [beq_iff_eq] at h; cases hn; exact .inl ⟨h, rfl⟩
  ·split at hn
   ·rename_i h; rw [beq_iff_eq] at h; cases hn; exact .inr ⟨h, rfl⟩
   ·cases hn
 have hobjs : ∀ o cs, lk o (boxS tb nt).objs = some cs -> o = 0 /\ cs = [.x 2] := fun o cs ho => by
  simp only [boxS, lk] at ho
  split at ho
  ·rename_i h; rw [beq_iff_eq] at h; cases ho; exact ⟨h, rfl⟩
  ·cases ho
 have hact : ∀ b, Actv (boxS tb nt) { rv := fun i => if i = 1 then vv else v, rb := fun _ => B, rh := fun _ => (0, 0), ex := fun b => b < w.heap.size /\ ¬ ok b /\ ¬ (b = B ∨ v.ownBlock = some b) } b -> b = B ∨ v.ownBlock = some b := by
  rintro b (⟨o, cs, h1, h2⟩ | ⟨n, vi, h1, h2⟩)
  ·exact .inl h2.symm
  ·rcases hvars n vi h1 with ⟨rfl, rfl⟩ | ⟨rfl, rfl⟩
   ·simp [blockOf] at h2
   ·exact .inr h2
 have hokS : ∀ b, ok b -> okOf (boxS tb nt) { rv := fun i => if i = 1 then vv else v, rb := fun _ => B, rh := fun _ => (0, 0), ex := fun b => b < w.heap.size /\ ¬ ok b /\ ¬ (b = B ∨ v.ownBlock = some b) } w b := fun b hb => by
  obtain ⟨h1, h2, h3⟩ := hok b hb
  exact ⟨h1, fun e => by rcases hact b e with h | h; exact h2 h; exact h3 h, fun e => e.2.1 hb⟩
 refine ⟨⟨fun n vi hn => ?_, fun o cs ho => ?_, fun o o' c c' h1 h2 _ => by rw [(hobjs o c h1).1, (hobjs o' c' h2).1], fun n m vi vj b h1 h2 h3 h4 => ?_, fun o n c vi h1 h2 h3 => ?_, fun b hb => .inr (hact b hb), fun l hl => by simp [boxS] at hl, Fr.refl _ w, rfl, ⟨fun b hb => ⟨hb.1, hb.2.2⟩, fun b hb => hb⟩⟩, ⟨fun s sv hs => ?_, rfl, by simp [boxS]; omega⟩⟩
 ·rcases hvars n vi hn with ⟨rfl, rfl⟩ | ⟨rfl, rfl⟩
  ·exact hval.mono hokS (fun _ _ => rfl)
  ·exact hown.mono hokS (fun _ _ => rfl) (fun _ _ => rfl)
 ·obtain ⟨rfl, rfl⟩ := hobjs o cs ho
  exact ⟨⟨ty, hB⟩, fun u hu => by simp [dens, SV.den] at hu; subst hu; exact hone, trivial, trivial⟩
 ·rcases hvars n vi h1 with ⟨rfl, rfl⟩ | ⟨rfl, rfl⟩
  ·simp [blockOf] at h3
  ·rcases hvars m vj h2 with ⟨rfl, rfl⟩ | ⟨rfl, rfl⟩
   ·simp [blockOf] at h4
   ·rfl
 ·rcases hvars n vi h2 with ⟨rfl, rfl⟩ | ⟨rfl, rfl⟩
  ·simp [blockOf] at h3
  ·exact hvB h3
 ·simp only [boxS, lk] at hs
  split at hs
  ·rename_i h; rw [beq_iff_eq] at h; cases hs; subst h
   exact ⟨(Array.getElem?_append_left (by simp)).trans rfl, key, rfl, hkey⟩
  ·split at hs
   ·rename_i h; rw [beq_iff_eq] at h; cases hs; subst h
    exact ⟨(Array.getElem?_append_left (by simp)).trans rfl, trivial⟩
   ·split at hs
    ·rename_i h; rw [beq_iff_eq] at h; cases hs; subst h
     exact ⟨(Array.getElem?_append_left (by simp)).trans rfl, trivial⟩
    ·cases hs
theorem box_calls (hnm : NamesOk C.P) (hord : C.P.follows .mixedOrders = true) (hctr : ∀ f c, C.ctr f = some c -> CtrOk C.P X side f c) (hrun : boxRun C tb f de os = true) (h8 : isBy C.P tb = true)
  (hB : w.heap[B]? = some (.cells #[v] ty (0, 0))) (hown : OwnAt C.P ok w tb v acc) (hval : Rep C.P ok w tb vv dv) (hkey : (Lit.int .u32 key).wf = true)
  (hok : ∀ b, ok b -> b < w.heap.size /\ b ≠ B /\ v.ownBlock ≠ some b) (hvB : v.ownBlock ≠ some B) (hob : obsHold X side os [.int key, dv, acc]) :
  Calls C.P f #[.int .u32 key, vv, .pointer (some ⟨B, 0, none⟩)] w fun e w' => e = .returned (.tuple #[]) /\ Fr (fun b => b = B ∨ v.ownBlock = some b) w w' /\
   ∃ v' ty', w'.heap[B]? = some (.cells #[v'] ty' (0, 0)) /\ v'.ownBlock ≠ some B /\ (∀ b, v'.ownBlock = some b -> b < w'.heap.size /\ (w.heap.size <= b ∨ v.ownBlock = some b)) /\ ∀ ok', OwnAt C.P ok' w' tb v' (de.eval X [.int key, dv, acc]) := by
 unfold boxRun at hrun
 split at hrun
 rotate_left
 ·cases hrun
 rename_i fn hf
 split at hrun
 rotate_left
 ·cases hrun
 rename_i body hbody
 simp only [Bool.and_eq_true, decide_eq_true_eq] at hrun
 obtain ⟨⟨hres, hnt⟩, hrun⟩ := hrun
 split at hrun
 rotate_left
 ·cases hrun
 rename_i outs houts
 unfold boxOut at hrun
 split at hrun
 rotate_left
 ·cases hrun
 rename_i o
 simp only [Bool.and_eq_true] at hrun
 obtain ⟨⟨⟨hret, hpc⟩, hobl⟩, hfin⟩ := hrun
 have hpc : o.pc = [] := by simpa using hpc
 have hobl := obbeqs_eq hobl
 split at hfin
 rotate_left
 ·cases hfin
 rename_i m hobj
 split at hfin
 rotate_left
 ·cases hfin
 rename_i t d hvar
 simp only [Bool.and_eq_true, decide_eq_true_eq] at hfin
 obtain ⟨rfl, hd⟩ := hfin
 have hd := DE.beq_eq hd
 subst hd
 have hone : v.oneCell' = true := by
  obtain ⟨e, i, n, xs, hu, hi, ⟨_, hr⟩, _⟩ := hown
  rcases hr with ⟨rfl, _⟩ | ⟨b, cap, cur, rfl, _⟩ <;> rfl
 obtain ⟨hm, he⟩ := box_mem (C := C) hnt hB hown hval hkey hone hok hvB
 have hsound := exec_sound hnm hord hctr 100000 8
 refine calls_of_wp hf hbody (wpC_mono_single ?_)
 refine hsound.sound _ _ [body] _ [o] _ w _ hm he houts (fun o' ho' _ => ?_) _ (fun o' ho' _ g' w' a' k1 k2 k3 => ?_)
 ·rw [List.mem_singleton] at ho'; subst ho'
  rw [hobl]; exact hob
 ·rw [List.mem_singleton] at ho'; subst ho'
  have hfr : Fr (fun b => b = B ∨ v.ownBlock = some b) w w' := k2.fr
  have hobO := k2.ob 0 _ hobj
  obtain ⟨⟨ty', hcell⟩, _, _⟩ := hobO
  have hrb : g'.rb 0 = B := (k1.rb 0 _ rfl).2
  rw [hrb] at hcell
  have hownv : OwnAt C.P (okOf o'.st g' w') w' t (g'.rv m) (d.eval X [.int key, dv, acc]) := k2.va m _ hvar
  obtain ⟨e, hu, hue⟩ := isBy_eq h8
  have hou : ∀ ok', OwnAt C.P ok' w' t (g'.rv m) (d.eval X [.int key, dv, acc]) := fun ok' => hownv.u8 hu (by simp [isU8, hue])
  have hres0 : fn.results = #[] := by simpa using hres
  have hrun : (results fn a'.tmps).run C.P w' = .ok (.tuple #[]) w' := by
   simp [results, hres0]
  have hpost : a'.defers = [] /\ ∃ v1, (results fn a'.tmps).run C.P w' = .ok v1 w' /\ (Ending.returned v1 = .returned (.tuple #[]) /\ Fr (fun b => b = B ∨ v.ownBlock = some b) w w' /\
    ∃ v' ty', w'.heap[B]? = some (.cells #[v'] ty' (0, 0)) /\ v'.ownBlock ≠ some B /\ (∀ b, v'.ownBlock = some b -> b < w'.heap.size /\ (w.heap.size <= b ∨ v.ownBlock = some b)) /\ ∀ ok', OwnAt C.P ok' w' t v' (d.eval X [.int key, dv, acc])) := by
   refine ⟨k3.df, _, hrun, rfl, hfr, g'.rv m, ty', hcell, ?_, fun b hb => ?_, hou⟩
   ·intro e1
    exact k2.ov 0 m _ _ hobj hvar (by rw [hrb]; exact e1)
   ·have hA : Actv o'.st g' b := .inr ⟨m, _, hvar, hb⟩
    refine ⟨k2.act_lt hA, ?_⟩
    rcases k2.lo b hA with h | h
    ·exact .inl h
    ·rcases h with rfl | h
     ·exact absurd hb (fun e1 => k2.ov 0 m _ _ hobj hvar (by rw [hrb]; exact e1))
     ·exact .inr h
  rcases allRet_ex hret o' (by simp) with hx | hx
  ·rw [hx]; exact hpost
  ·rw [hx]; exact hpost
end
end Go.Mx
namespace Go.Mx
open Go Go.Dx
def selfR (v : Value) : Option (DataW Value × List MemPlace) := some (.held v, [])
section
variable {P : Program} {ok : Nat -> Prop} {w : World} {m k e r : Nat} {ds : List (Int × D)}
theorem srt_len : ∀ (l : List Int) (lo hi : Int), l.Pairwise (· < ·) -> (∀ x ∈ l, lo <= x /\ x < hi) -> lo <= hi -> (l.length : Int) <= hi - lo
 | [], lo, hi, _, _, h => by simp; omega
 | x :: l, lo, hi, hp, hb, h => by
  obtain ⟨h1, h2⟩ := List.pairwise_cons.1 hp
  have hx := hb x (by simp)
  have := srt_len l (x + 1) hi h2 (fun y hy => ⟨by have := h1 y hy; omega, (hb y (by simp [hy])).2⟩) (by omega)
  simp only [List.length_cons]
  omega
theorem tags_few (hs : (ds.map (·.1)).Pairwise (· < ·)) (hw : ∀ d ∈ ds, (Lit.int .u32 d.1).wf = true) : ds.length <= 4294967296 := by
 have := srt_len (ds.map (·.1)) 0 4294967296 hs (fun x hx => by
  obtain ⟨d, hd, rfl⟩ := List.mem_map.1 hx
  have := hw d hd
  simp [Lit.wf, IntKind.min, IntKind.max, IntKind.signed, IntKind.bits] at this; omega) (by omega)
 rw [List.length_map] at this
 omega
theorem tags_facts (h : TagsAt P ok w m (.map (some r)) (.map ds)) : (ds.map (·.1)).Pairwise (· < ·) /\ (∀ d ∈ ds, (Lit.int .u32 d.1).wf = true) /\ ds.length <= 4294967296 := by
 cases h with
 | map hu hk hh hkeys hkw hs hborn hclock hr => exact ⟨hs, hkw, tags_few hs hkw⟩
theorem tags_owns (h : TagsAt P ok w m (.map (some r)) (.map ds)) (hm : P.underlying m = some (.map k e)) : ∃ D : DataW Value, w.ownsMap P k selfR r ds.length D /\ Maps.size D = ds.length /\ ∀ x, x ∈ ds.map (·.1) ↔ Maps.has D (.int .u32 x) = true := by
 obtain ⟨_, _, hfew⟩ := tags_facts h
 cases h with
 | map hu hk hh hkeys hkw hs hborn hclock hr =>
  rw [hm] at hu; cases hu
  rename_i clock es
  have hsz : es.size = ds.length := by
   have := hkeys.length_eq
   simpa using this
  have hkr := keys_read hk hkeys hkw
  have hnd : (es.toList.map (·.key)).Nodup := by
   refine hkeys.nodup_iff.2 ?_
   have : (ds.map (·.1)).Nodup := hs.imp (fun {a b} h => by omega)
   have e1 : (ds.map fun d => Value.int .u32 d.1) = (ds.map (·.1)).map (fun i => Value.int .u32 i) := by rw [List.map_map]; rfl
   rw [e1]
   exact List.Pairwise.map _ (fun a b (hab : a ≠ b) hc => hab (by cases hc; rfl)) this
  have hrd : ∀ x ∈ es.toList, ∀ d, x.key = .int .u32 d -> (Lit.int .u32 d).wf = true -> WideElems.rd P k selfR x = some (.int .u32 d, .held x.val) := fun x hx d hd hw => by
   have : keyOf P k x.key = some (.int .u32 d) := by rw [hd]; exact Maps.keyOf_int_mk hk hw
   simp [WideElems.rd, this, selfR]
  have F : WideElems.Fit P k selfR es clock := by
   refine ⟨by rw [hsz]; unfold maxLen; omega, (MapKept.stamped_iff es clock).2 ⟨hclock, hborn, List.pairwise_map.1 hnd⟩, fun x hx => ?_⟩
   obtain ⟨d, hd, he, _⟩ := hkr x hx
   exact ⟨_, hrd x hx d.1 he (hkw d hd)⟩
  refine ⟨_, ⟨es, clock, hh, F, by rw [hsz]; exact Nat.le_refl _, rfl⟩, by simp [Maps.size, length_sorted, hsz], fun x => ?_⟩
  have hrg : ∀ y ∈ es.toList, ∀ d, y.key = .int .u32 d -> (Lit.int .u32 d).wf = true -> (WideElems.rg P k selfR y).1 = .int .u32 d := fun y hy d hd hw => by
   rw [WideElems.rg_of (hrd y hy d hd hw)]
  rw [Maps.has_eq, List.any_eq_true]
  constructor
  ·intro hx
   obtain ⟨d, hd, rfl⟩ := List.mem_map.1 hx
   have : Value.int .u32 d.1 ∈ es.toList.map (·.key) := hkeys.symm.subset (List.mem_map.2 ⟨d, hd, rfl⟩)
   obtain ⟨y, hy, hye⟩ := List.mem_map.1 this
   refine ⟨WideElems.rg P k selfR y, mem_sorted.2 (List.mem_map.2 ⟨y, hy, rfl⟩), ?_⟩
   rw [hrg y hy d.1 hye (hkw d hd)]
   exact WideAt.sameKey_self trivial
  ·rintro ⟨p, hp, hpk⟩
   obtain ⟨y, hy, rfl⟩ := List.mem_map.1 (mem_sorted.1 hp)
   obtain ⟨d, hd, he, _⟩ := hkr y hy
   rw [hrg y hy d.1 he (hkw d hd)] at hpk
   have := WideAt.sameKey_eq hpk
   cases this
   exact List.mem_map.2 ⟨d, hd, rfl⟩
theorem tags_lookup {n : Int} {d : D} (h : TagsAt P ok w m (.map (some r)) (.map ds)) (hm : P.underlying m = some (.map k e)) (hn : (n, d) ∈ ds) :
  ∃ v, Rep P ok w e v d /\ ∀ w' : World, w'.heap[r]? = w.heap[r]? -> (Instr.lookup m (.map (some r)) (.int .u32 n) false).run P w' = .ok v w' := by
 cases h with
 | map hu hk hh hkeys hkw hs hborn hclock hr =>
  rw [hm] at hu; cases hu
  rename_i clock es
  have K := Maps.int_keyed hk
  have hkey := Maps.keyOf_int_mk hk (hkw _ hn)
  have hkr := keys_read hk hkeys hkw
  have hmem : Value.int .u32 n ∈ es.toList.map (·.key) := hkeys.symm.subset (List.mem_map.2 ⟨(n, d), hn, rfl⟩)
  obtain ⟨y, hy, hye⟩ := List.mem_map.1 hmem
  have hfind := fun w' => K.find w' hkey es.toList (fun x hx => by obtain ⟨d, _, _, h⟩ := hkr x hx; exact ⟨_, h⟩)
  refine ⟨y.val, hr y hy n d hye hn, fun w' hw' => ?_⟩
  rcases hfind w' with ⟨_, h2⟩ | ⟨j, e0, h1, h2, h3⟩
  ·exact absurd hye (h2 y hy)
  ·have hnd : (es.toList.map (·.key)).Nodup := by
    refine hkeys.nodup_iff.2 ?_
    have : (ds.map (·.1)).Nodup := hs.imp (fun {a b} h => by omega)
    have e1 : (ds.map fun d => Value.int .u32 d.1) = (ds.map (·.1)).map (fun i => Value.int .u32 i) := by rw [List.map_map]; rfl
    rw [e1]
    exact List.Pairwise.map _ (fun a b (hab : a ≠ b) hc => hab (by cases hc; rfl)) this
   have hje : y = e0 := by
    obtain ⟨i, hi, hyi⟩ := List.mem_iff_getElem.1 hy
    have hj := (List.getElem?_eq_some_iff.1 h2).1
    have hje0 := (List.getElem?_eq_some_iff.1 h2).2
    have : (es.toList.map (·.key))[i]'(by rw [List.length_map]; exact hi) = (es.toList.map (·.key))[j]'(by rw [List.length_map]; exact hj) := by
     rw [List.getElem_map, List.getElem_map, hyi, hje0, hye, h3]
    have hij := (List.getElem_inj hnd).1 this
    subst hij
    rw [<- hyi, <- hje0]
   subst hje
   simp [Instr.lookup, run_underlying hm, Go.MapKept.run_getObj_map (hw'.trans hh), K.check w' _ hkey, h1, Result.andThen]
end
def de84 : DE := .f .app [.f (.ext 10) [.f (.ext 10) [.v 2, .v 0], .f (.wrap .u32) [.f .len [.v 1]]], .v 1]
def os84 : List Ob := [.room de84 1, .pre 10 [.f (.ext 10) [.v 2, .v 0], .f (.wrap .u32) [.f .len [.v 1]]], .pre 10 [.v 2, .v 0]]
def tb (y : Int × D) : List UInt8 := tagB y.1.toNat y.2.asStr
theorem ev84 {key : Int} {val : Option (List UInt8)} {acc : D} (h0 : 0 <= key) (hl : (val.getD []).length < 4294967296) (hlen : acc.asStr.length + (tagB key.toNat (val.getD [])).length <= lim) :
  obsHold X side os84 [.int key, encB val, acc] /\ de84.eval X [.int key, encB val, acc] = appD acc (tb (key, encB val)) := by
 have e1 : (DE.f (.ext 10) [.v 2, .v 0]).eval X [.int key, encB val, acc] = app acc (Uvarint key.toNat) := by
  simp only [ev_f, evs_cons, evs_nil, ev_v, List.getD_cons_zero, List.getD_cons_succ, fe_ext, X_10, int_i]
 have e2 : (DE.f (.wrap .u32) [.f .len [.v 1]]).eval X [.int key, encB val, acc] = .int ((val.getD []).length : Nat) := by
  simp only [ev_f, evs_cons, evs_nil, ev_v, List.getD_cons_zero, List.getD_cons_succ, fe_len, fe_wrap, len_encB]
  rw [wrapu32 (by omega) (by omega)]
 have e3 : (DE.f (.ext 10) [.f (.ext 10) [.v 2, .v 0], .f (.wrap .u32) [.f .len [.v 1]]]).eval X [.int key, encB val, acc] = app acc (Uvarint key.toNat ++ Uvarint (val.getD []).length) := by
  rw [ev_f, evs_cons, evs_cons, evs_nil, e1, e2, fe_ext, X_10, int_i, Int.toNat_natCast]
  simp [app, D.asStr]
 have e4 : de84.eval X [.int key, encB val, acc] = appD acc (tb (key, encB val)) := by
  rw [de84, ev_f, evs_cons, evs_cons, evs_nil, e3, ev_v, List.getD_cons_succ, List.getD_cons_zero, fe_app, app_b, tb, asStr_encB, tagB]
  exact appD_ne (cat_pos (cat_pos Uv_pos))
 have hpos : 0 < (tagB key.toNat (val.getD [])).length := by rw [tagB]; exact cat_pos (cat_pos Uv_pos)
 have hd : (de84.eval X [.int key, encB val, acc]).len <= lim := by
  rw [e4, tb, asStr_encB, appD_le _ hpos]; exact hlen
 rw [tagB, List.length_append, List.length_append] at hlen
 refine ⟨⟨?_, ?_, ?_, trivial⟩, e4⟩
 ·exact room1 hd
 ·simp only [Ob.holds]
  rw [evs_cons, evs_cons, evs_nil, e1, e2, side_d10, X_10, app_len, int_i, Int.toNat_natCast]
  have : (app acc (Uvarint key.toNat)).asStr = acc.asStr ++ Uvarint key.toNat := rfl
  rw [this, List.length_append]
  omega
 ·simp only [Ob.holds, evs_cons, evs_nil, ev_v, List.getD_cons_zero, List.getD_cons_succ]
  rw [side_d10, X_10, app_len, int_i]
  omega
theorem X_25' (m o : D) : X 25 [m, o] = appD o ((mapL m).map tb).flatten := by
 rw [X_25]
 cases hm : mapL m with
 | nil => rfl
 | cons a l =>
  rw [if_neg (by simp)]
  refine appD_ne ?_
  rw [List.map_cons, List.flatten_cons]
  refine cat_pos ?_
  show 0 < (tagB a.1.toNat a.2.asStr).length
  rw [tagB]; exact cat_pos (cat_pos Uv_pos)
end Go.Mx
namespace Go.Mx
open Go Go.Dx
theorem len8 {b : List UInt8} (h : 8 <= b.length) : ∃ b0 b1 b2 b3 b4 b5 b6 b7 r, b = b0 :: b1 :: b2 :: b3 :: b4 :: b5 :: b6 :: b7 :: r := by
 match b, h with
 | b0 :: b1 :: b2 :: b3 :: b4 :: b5 :: b6 :: b7 :: r, _ => exact ⟨b0, b1, b2, b3, b4, b5, b6, b7, r, rfl⟩
theorem rep_agg0 {P : Program} {ok : Nat -> Prop} {w : World} {t : TypeId} {v : Value} {d : D} (ha : agg P t = true) (ht : tys P t = []) (h : Rep P ok w t v d) : v = .agg #[] := by
 obtain ⟨ds, rfl, _, _⟩ := rep_row ha h
 cases h with
 | row hu hd hlen hlen' h1 hr =>
  rename_i dd vs
  rw [ht] at hlen
  have : vs = [] := List.length_eq_zero_iff.1 hlen
  subst this
  rfl
theorem hand86 {P : Program} {ρ : Go.Shelf.Ren} (L : Go.Proofs.LaysBin.n42 P ρ) {f : FuncId} {te tb t64 e : TypeId} (hf : ρ.f 42 = f) (hb : hasBody P f = true) (ha : agg P te = true) (ht : tys P te = []) (hub : P.underlying tb = some (.slice e)) (he : P.underlying e = some (.int .u8)) (h64 : P.underlying t64 = some (.int .u64)) :
  CtrOk P X side f ⟨[.val te, .val tb], .val t64, 86, true⟩ := by
 refine ⟨hasBody_eq hb, fun ok w vs ds hA hok hRd hp => ?_⟩
 obtain @⟨⟩ | @⟨_, v1, d1, _, _, _, h1, hA⟩ := hA
 obtain @⟨⟩ | @⟨_, v2, d2, _, _, _, h2, hA⟩ := hA
 cases hA
 cases h1 with
 | val h1 =>
 cases h2 with
 | val h2 =>
 obtain ⟨b, hbd, hl⟩ : ∃ b, d2 = .bytes b /\ 8 <= b.length := hp rfl
 subst hbd
 have hv1 := rep_agg0 ha ht h1
 subst hv1
 obtain ⟨b0, b1, b2, b3, b4, b5, b6, b7, r, rfl⟩ := len8 hl
 have hB := h2.bytesAt hub he
 cases hB with
 | some hsp hcl hcap hmax =>
  rename_i ad cap
  have hs : ad.spot = none := hsp (by simp only [List.length_cons] at hcap; omega)
  obtain ⟨g, o, sp⟩ := ad
  simp only at hs
  subst hs
  have hc : ∀ (j : Nat) (x : UInt8), (b0 :: b1 :: b2 :: b3 :: b4 :: b5 :: b6 :: b7 :: r)[j]? = some x -> w.cell? ⟨g, o + j, none⟩ = some (.int .u8 (x.toNat : Int)) := fun j x hx => hcl j _ (by rw [List.getElem?_map, hx]; rfl)
  subst hf
  refine (Go.Proofs.Any.binary_BE_Uint64 L g o _ cap b0 b1 b2 b3 b4 b5 b6 b7 w (by simp only [List.length_cons]; omega) (hc 0 _ rfl) (hc 1 _ rfl) (hc 2 _ rfl) (hc 3 _ rfl) (hc 4 _ rfl) (hc 5 _ rfl) (hc 6 _ rfl) (hc 7 _ rfl)).mono fun e' w' he' => ?_
  obtain ⟨rfl, hbl⟩ := he'
  refine ⟨_, rfl, ⟨hbl.os, hbl.tape, hbl.output, hbl.size, fun k hk _ => hbl.block k hk⟩, fun ok' _ _ => ?_⟩
  have e1 : Go.Lib.beNat [b0, b1, b2, b3, b4, b5, b6, b7] = beN [b0, b1, b2, b3, b4, b5, b6, b7] := by
   simp [Go.Lib.beNat, Go.Lib.beFrom, beN]
  have hlt : beN [b0, b1, b2, b3, b4, b5, b6, b7] < 256 ^ 8 := beN_lt _
  show Rep P ok' w' t64 _ (X 86 [d1, .bytes (b0 :: b1 :: b2 :: b3 :: b4 :: b5 :: b6 :: b7 :: r)])
  rw [X_86, str_by, e1]
  refine .int h64 (lit_of ?_)
  simp [IntKind.min, IntKind.max, IntKind.signed, IntKind.bits]; omega
theorem hand87 {P : Program} {ρ : Go.Shelf.Ren} (L : Go.Proofs.LaysBin.n39 P ρ) {f : FuncId} {te tb t32 e : TypeId} (hf : ρ.f 39 = f) (hb : hasBody P f = true) (ha : agg P te = true) (ht : tys P te = []) (hub : P.underlying tb = some (.slice e)) (he : P.underlying e = some (.int .u8)) (h32 : P.underlying t32 = some (.int .u32)) :
  CtrOk P X side f ⟨[.val te, .val tb], .val t32, 87, true⟩ := by
 refine ⟨hasBody_eq hb, fun ok w vs ds hA hok hRd hp => ?_⟩
 obtain @⟨⟩ | @⟨_, v1, d1, _, _, _, h1, hA⟩ := hA
 obtain @⟨⟩ | @⟨_, v2, d2, _, _, _, h2, hA⟩ := hA
 cases hA
 cases h1 with
 | val h1 =>
 cases h2 with
 | val h2 =>
 obtain ⟨b, hbd, hl⟩ : ∃ b, d2 = .bytes b /\ 4 <= b.length := hp rfl
 subst hbd
 have hv1 := rep_agg0 ha ht h1
 subst hv1
 obtain ⟨b0, b1, b2, b3, r, rfl⟩ := len4 hl
 have hB := h2.bytesAt hub he
 cases hB with
 | some hsp hcl hcap hmax =>
  rename_i ad cap
  have hs : ad.spot = none := hsp (by simp only [List.length_cons] at hcap; omega)
  obtain ⟨g, o, sp⟩ := ad
  simp only at hs
  subst hs
  have hc : ∀ (j : Nat) (x : UInt8), (b0 :: b1 :: b2 :: b3 :: r)[j]? = some x -> w.cell? ⟨g, o + j, none⟩ = some (.int .u8 (x.toNat : Int)) := fun j x hx => hcl j _ (by rw [List.getElem?_map, hx]; rfl)
  subst hf
  refine (Go.Proofs.Any.binary_BE_Uint32 L g o _ cap b0 b1 b2 b3 w (by simp only [List.length_cons]; omega) (hc 0 _ rfl) (hc 1 _ rfl) (hc 2 _ rfl) (hc 3 _ rfl)).mono fun e' w' he' => ?_
  obtain ⟨rfl, hbl⟩ := he'
  refine ⟨_, rfl, ⟨hbl.os, hbl.tape, hbl.output, hbl.size, fun k hk _ => hbl.block k hk⟩, fun ok' _ _ => ?_⟩
  have e1 : Go.Lib.beNat [b0, b1, b2, b3] = beN [b0, b1, b2, b3] := by
   simp [Go.Lib.beNat, Go.Lib.beFrom, beN]
  have hlt : beN [b0, b1, b2, b3] < 256 ^ 4 := beN_lt _
  show Rep P ok' w' t32 _ (X 87 [d1, .bytes (b0 :: b1 :: b2 :: b3 :: r)])
  rw [X_87, str_by, e1]
  refine .int h32 (lit_of ?_)
  simp [IntKind.min, IntKind.max, IntKind.signed, IntKind.bits]; omega
end Go.Mx
