/- Part of a verified symbolic run of the program's code (no condition of its own). -/
import Derived.Test.YtjfldinbpceflaaGreatQ5
import Derived.Maps.RangeWalk
import Derived.Maps.OwnSet
set_option linter.unusedVariables false
set_option linter.unusedSimpArgs false
namespace Go.Mx
open Go Go.Dx

/-! ## A closure that appends to what lies in a variable's box -/
def boxS (tb nt : Nat) : St := { env := [(0, .i .u32 (.v 0)), (1, .x 1), (2, .oa 0 0)], vars := [(1, ⟨.set tb, .v 1⟩), (2, ⟨.own tb, .v 2⟩)], objs := [(0, [.x 2])], loops := [], obl := [], lvl := 3, nx := 3, nt := nt }
noncomputable def boxOut (tb : Nat) (de : DE) (os : List Ob) : List Out → Bool
  | [o] => allRet [o] && o.pc.isEmpty && obbeqs o.st.obl os && (match lk 0 o.st.objs with
    | some [.x m] => (match lk m o.st.vars with
      | some ⟨.own t, d⟩ => decide (t = tb) && d.beq de
      | _ => false)
    | _ => false)
  | _ => false
noncomputable def boxRun (C : Cfg) (tb f : Nat) (de : DE) (os : List Ob) : Bool :=
  match C.P.funcs[f]? with
  | some fn => match fn.body with
    | some body => fn.results.isEmpty && decide (3 ≤ fn.ntmps) && (match exec C 100000 8 [body] (boxS tb fn.ntmps) with
      | some outs => boxOut tb de os outs
      | none => false)
    | none => false
  | none => false
section
variable {C : Cfg} {ok : Nat → Prop} {w : World} {tb f B ty : Nat} {key : Int} {v vv : Value} {dv acc : D} {de : DE} {os : List Ob}
theorem box_mem {nt : Nat} (hnt : 3 ≤ nt) (hB : w.heap[B]? = some (.cells #[v] ty (0, 0))) (hown : OwnAt C.P ok w tb v acc) (hval : Rep C.P ok w tb vv dv) (hkey : (Lit.int .u32 key).wf = true) (hone : v.oneCell' = true)
    (hok : ∀ b, ok b → b < w.heap.size ∧ b ≠ B ∧ v.ownBlock ≠ some b) (hvB : v.ownBlock ≠ some B) :
    Mem C.P X ⟨w, fun b => b = B ∨ v.ownBlock = some b, fun b => b < w.heap.size ∧ ¬ ok b ∧ ¬ (b = B ∨ v.ownBlock = some b)⟩ [.int key, dv, acc] (boxS tb nt) { rv := fun i => if i = 1 then vv else v, rb := fun _ => B, rh := fun _ => (0, 0), ex := fun b => b < w.heap.size ∧ ¬ ok b ∧ ¬ (b = B ∨ v.ownBlock = some b) } w ∧
      Env X [.int key, dv, acc] (boxS tb nt) { rv := fun i => if i = 1 then vv else v, rb := fun _ => B, rh := fun _ => (0, 0), ex := fun b => b < w.heap.size ∧ ¬ ok b ∧ ¬ (b = B ∨ v.ownBlock = some b) } { tmps := #[.int .u32 key, vv, .pointer (some ⟨B, 0, none⟩)] ++ Array.replicate (nt - 3) undef, defers := [] } := by
  have hvars : ∀ n vi, lk n (boxS tb nt).vars = some vi → (n = 1 ∧ vi = ⟨.set tb, .v 1⟩) ∨ (n = 2 ∧ vi = ⟨.own tb, .v 2⟩) := fun n vi hn => by
    simp only [boxS, lk] at hn
    split at hn
    · rename_i h; rw [beq_iff_eq] at h; cases hn; exact .inl ⟨h, rfl⟩
    · split at hn
      · rename_i h; rw [beq_iff_eq] at h; cases hn; exact .inr ⟨h, rfl⟩
      · cases hn
  have hobjs : ∀ o cs, lk o (boxS tb nt).objs = some cs → o = 0 ∧ cs = [.x 2] := fun o cs ho => by
    simp only [boxS, lk] at ho
    split at ho
    · rename_i h; rw [beq_iff_eq] at h; cases ho; exact ⟨h, rfl⟩
    · cases ho
  have hact : ∀ b, Actv (boxS tb nt) { rv := fun i => if i = 1 then vv else v, rb := fun _ => B, rh := fun _ => (0, 0), ex := fun b => b < w.heap.size ∧ ¬ ok b ∧ ¬ (b = B ∨ v.ownBlock = some b) } b → b = B ∨ v.ownBlock = some b := by
    rintro b (⟨o, cs, h1, h2⟩ | ⟨n, vi, h1, h2⟩)
    · exact .inl h2.symm
    · rcases hvars n vi h1 with ⟨rfl, rfl⟩ | ⟨rfl, rfl⟩
      · simp [blockOf] at h2
      · exact .inr h2
  have hokS : ∀ b, ok b → okOf (boxS tb nt) { rv := fun i => if i = 1 then vv else v, rb := fun _ => B, rh := fun _ => (0, 0), ex := fun b => b < w.heap.size ∧ ¬ ok b ∧ ¬ (b = B ∨ v.ownBlock = some b) } w b := fun b hb => by
    obtain ⟨h1, h2, h3⟩ := hok b hb
    exact ⟨h1, fun e => by rcases hact b e with h | h; exact h2 h; exact h3 h, fun e => e.2.1 hb⟩
  refine ⟨⟨fun n vi hn => ?_, fun o cs ho => ?_, fun o o' c c' h1 h2 _ => by rw [(hobjs o c h1).1, (hobjs o' c' h2).1], fun n m vi vj b h1 h2 h3 h4 => ?_, fun o n c vi h1 h2 h3 => ?_, fun b hb => .inr (hact b hb), fun l hl => by simp [boxS] at hl, Fr.refl _ w, rfl, ⟨fun b hb => ⟨hb.1, hb.2.2⟩, fun b hb => hb⟩⟩, ⟨fun s sv hs => ?_, rfl, by simp [boxS]; omega⟩⟩
  · rcases hvars n vi hn with ⟨rfl, rfl⟩ | ⟨rfl, rfl⟩
    · exact hval.mono hokS (fun _ _ => rfl)
    · exact hown.mono hokS (fun _ _ => rfl) (fun _ _ => rfl)
  · obtain ⟨rfl, rfl⟩ := hobjs o cs ho
    exact ⟨⟨ty, hB⟩, fun u hu => by simp [dens, SV.den] at hu; subst hu; exact hone, trivial, trivial⟩
  · rcases hvars n vi h1 with ⟨rfl, rfl⟩ | ⟨rfl, rfl⟩
    · simp [blockOf] at h3
    · rcases hvars m vj h2 with ⟨rfl, rfl⟩ | ⟨rfl, rfl⟩
      · simp [blockOf] at h4
      · rfl
  · rcases hvars n vi h2 with ⟨rfl, rfl⟩ | ⟨rfl, rfl⟩
    · simp [blockOf] at h3
    · exact hvB h3
  · simp only [boxS, lk] at hs
    split at hs
    · rename_i h; rw [beq_iff_eq] at h; cases hs; subst h
      exact ⟨(Array.getElem?_append_left (by simp)).trans rfl, key, rfl, hkey⟩
    · split at hs
      · rename_i h; rw [beq_iff_eq] at h; cases hs; subst h
        exact ⟨(Array.getElem?_append_left (by simp)).trans rfl, trivial⟩
      · split at hs
        · rename_i h; rw [beq_iff_eq] at h; cases hs; subst h
          exact ⟨(Array.getElem?_append_left (by simp)).trans rfl, trivial⟩
        · cases hs
theorem box_calls (hnm : NamesOk C.P) (hord : C.P.follows .mixedOrders = true) (hctr : ∀ f c, C.ctr f = some c → CtrOk C.P X side f c) (hrun : boxRun C tb f de os = true) (h8 : isBy C.P tb = true)
    (hB : w.heap[B]? = some (.cells #[v] ty (0, 0))) (hown : OwnAt C.P ok w tb v acc) (hval : Rep C.P ok w tb vv dv) (hkey : (Lit.int .u32 key).wf = true)
    (hok : ∀ b, ok b → b < w.heap.size ∧ b ≠ B ∧ v.ownBlock ≠ some b) (hvB : v.ownBlock ≠ some B) (hob : obsHold X side os [.int key, dv, acc]) :
    Calls C.P f #[.int .u32 key, vv, .pointer (some ⟨B, 0, none⟩)] w fun e w' => e = .returned (.tuple #[]) ∧ Fr (fun b => b = B ∨ v.ownBlock = some b) w w' ∧
      ∃ v' ty', w'.heap[B]? = some (.cells #[v'] ty' (0, 0)) ∧ v'.ownBlock ≠ some B ∧ (∀ b, v'.ownBlock = some b → b < w'.heap.size ∧ (w.heap.size ≤ b ∨ v.ownBlock = some b)) ∧ ∀ ok', OwnAt C.P ok' w' tb v' (de.eval X [.int key, dv, acc]) := by
  unfold boxRun at hrun
  split at hrun
  rotate_left
  · cases hrun
  rename_i fn hf
  split at hrun
  rotate_left
  · cases hrun
  rename_i body hbody
  simp only [Bool.and_eq_true, decide_eq_true_eq] at hrun
  obtain ⟨⟨hres, hnt⟩, hrun⟩ := hrun
  split at hrun
  rotate_left
  · cases hrun
  rename_i outs houts
  unfold boxOut at hrun
  split at hrun
  rotate_left
  · cases hrun
  rename_i o
  simp only [Bool.and_eq_true] at hrun
  obtain ⟨⟨⟨hret, hpc⟩, hobl⟩, hfin⟩ := hrun
  have hpc : o.pc = [] := by simpa using hpc
  have hobl := obbeqs_eq hobl
  split at hfin
  rotate_left
  · cases hfin
  rename_i m hobj
  split at hfin
  rotate_left
  · cases hfin
  rename_i t d hvar
  simp only [Bool.and_eq_true, decide_eq_true_eq] at hfin
  obtain ⟨rfl, hd⟩ := hfin
  have hd := DE.beq_eq hd
  subst hd
  have hone : v.oneCell' = true := by
    obtain ⟨e, i, n, xs, hu, hi, ⟨_, hr⟩, _⟩ := hown
    rcases hr with ⟨rfl, _⟩ | ⟨b, cap, cur, rfl, _⟩ <;> rfl
  obtain ⟨hm, he⟩ := box_mem (C := C) hnt hB hown hval hkey hone hok hvB
  have hsound := exec_sound hnm hord hctr 100000 8
  refine calls_of_wp hf hbody (wpC_mono_single ?_)
  refine hsound.sound _ _ [body] _ [o] _ w _ hm he houts (fun o' ho' _ => ?_) _ (fun o' ho' _ g' w' a' k1 k2 k3 => ?_)
  · rw [List.mem_singleton] at ho'; subst ho'
    rw [hobl]; exact hob
  · rw [List.mem_singleton] at ho'; subst ho'
    have hfr : Fr (fun b => b = B ∨ v.ownBlock = some b) w w' := k2.fr
    have hobO := k2.ob 0 _ hobj
    obtain ⟨⟨ty', hcell⟩, _, _⟩ := hobO
    have hrb : g'.rb 0 = B := (k1.rb 0 _ rfl).2
    rw [hrb] at hcell
    have hownv : OwnAt C.P (okOf o'.st g' w') w' t (g'.rv m) (d.eval X [.int key, dv, acc]) := k2.va m _ hvar
    obtain ⟨e, hu, hue⟩ := isBy_eq h8
    have hou : ∀ ok', OwnAt C.P ok' w' t (g'.rv m) (d.eval X [.int key, dv, acc]) := fun ok' => hownv.u8 hu (by simp [isU8, hue])
    have hres0 : fn.results = #[] := by simpa using hres
    have hrun : (results fn a'.tmps).run C.P w' = .ok (.tuple #[]) w' := by
      simp [results, hres0]
    have hpost : a'.defers = [] ∧ ∃ v1, (results fn a'.tmps).run C.P w' = .ok v1 w' ∧ (Ending.returned v1 = .returned (.tuple #[]) ∧ Fr (fun b => b = B ∨ v.ownBlock = some b) w w' ∧
        ∃ v' ty', w'.heap[B]? = some (.cells #[v'] ty' (0, 0)) ∧ v'.ownBlock ≠ some B ∧ (∀ b, v'.ownBlock = some b → b < w'.heap.size ∧ (w.heap.size ≤ b ∨ v.ownBlock = some b)) ∧ ∀ ok', OwnAt C.P ok' w' t v' (d.eval X [.int key, dv, acc])) := by
      refine ⟨k3.df, _, hrun, rfl, hfr, g'.rv m, ty', hcell, ?_, fun b hb => ?_, hou⟩
      · intro e1
        exact k2.ov 0 m _ _ hobj hvar (by rw [hrb]; exact e1)
      · have hA : Actv o'.st g' b := .inr ⟨m, _, hvar, hb⟩
        refine ⟨k2.act_lt hA, ?_⟩
        rcases k2.lo b hA with h | h
        · exact .inl h
        · rcases h with rfl | h
          · exact absurd hb (fun e1 => k2.ov 0 m _ _ hobj hvar (by rw [hrb]; exact e1))
          · exact .inr h
    rcases allRet_ex hret o' (by simp) with hx | hx
    · rw [hx]; exact hpost
    · rw [hx]; exact hpost
end
end Go.Mx

namespace Go.Mx
open Go Go.Dx

/-! ## A map of tags, looked at -/
/-- how an element reads: as itself -/
def selfR (v : Value) : Option (DataW Value × List MemPlace) := some (.held v, [])
section
variable {P : Program} {ok : Nat → Prop} {w : World} {m k e r : Nat} {ds : List (Int × D)}
theorem srt_len : ∀ (l : List Int) (lo hi : Int), l.Pairwise (· < ·) → (∀ x ∈ l, lo ≤ x ∧ x < hi) → lo ≤ hi → (l.length : Int) ≤ hi - lo
  | [], lo, hi, _, _, h => by simp; omega
  | x :: l, lo, hi, hp, hb, h => by
    obtain ⟨h1, h2⟩ := List.pairwise_cons.1 hp
    have hx := hb x (by simp)
    have := srt_len l (x + 1) hi h2 (fun y hy => ⟨by have := h1 y hy; omega, (hb y (by simp [hy])).2⟩) (by omega)
    simp only [List.length_cons]
    omega
theorem tags_few (hs : (ds.map (·.1)).Pairwise (· < ·)) (hw : ∀ d ∈ ds, (Lit.int .u32 d.1).wf = true) : ds.length ≤ 4294967296 := by
  have := srt_len (ds.map (·.1)) 0 4294967296 hs (fun x hx => by
    obtain ⟨d, hd, rfl⟩ := List.mem_map.1 hx
    have := hw d hd
    simp [Lit.wf, IntKind.min, IntKind.max, IntKind.signed, IntKind.bits] at this; omega) (by omega)
  rw [List.length_map] at this
  omega
theorem tags_facts (h : TagsAt P ok w m (.map (some r)) (.map ds)) : (ds.map (·.1)).Pairwise (· < ·) ∧ (∀ d ∈ ds, (Lit.int .u32 d.1).wf = true) ∧ ds.length ≤ 4294967296 := by
  cases h with
  | map hu hk hh hkeys hkw hs hborn hclock hr => exact ⟨hs, hkw, tags_few hs hkw⟩
theorem tags_owns (h : TagsAt P ok w m (.map (some r)) (.map ds)) (hm : P.underlying m = some (.map k e)) : ∃ D : DataW Value, w.ownsMap P k selfR r ds.length D ∧ Maps.size D = ds.length ∧ ∀ x, x ∈ ds.map (·.1) ↔ Maps.has D (.int .u32 x) = true := by
  obtain ⟨_, _, hfew⟩ := tags_facts h
  cases h with
  | map hu hk hh hkeys hkw hs hborn hclock hr =>
    rw [hm] at hu; cases hu
    rename_i clock es
    have hsz : es.size = ds.length := by
      have := hkeys.length_eq
      simpa using this
    have hkr := keys_read hk hkeys hkw
    have hnd : (es.toList.map (·.key)).Nodup := by
      refine hkeys.nodup_iff.2 ?_
      have : (ds.map (·.1)).Nodup := hs.imp (fun {a b} h => by omega)
      have e1 : (ds.map fun d => Value.int .u32 d.1) = (ds.map (·.1)).map (fun i => Value.int .u32 i) := by rw [List.map_map]; rfl
      rw [e1]
      exact List.Pairwise.map _ (fun a b (hab : a ≠ b) hc => hab (by cases hc; rfl)) this
    have hrd : ∀ x ∈ es.toList, ∀ d, x.key = .int .u32 d → (Lit.int .u32 d).wf = true → WideElems.rd P k selfR x = some (.int .u32 d, .held x.val) := fun x hx d hd hw => by
      have : keyOf P k x.key = some (.int .u32 d) := by rw [hd]; exact Maps.keyOf_int_mk hk hw
      simp [WideElems.rd, this, selfR]
    have F : WideElems.Fit P k selfR es clock := by
      refine ⟨by rw [hsz]; unfold maxLen; omega, (MapKept.stamped_iff es clock).2 ⟨hclock, hborn, List.pairwise_map.1 hnd⟩, fun x hx => ?_⟩
      obtain ⟨d, hd, he, _⟩ := hkr x hx
      exact ⟨_, hrd x hx d.1 he (hkw d hd)⟩
    refine ⟨_, ⟨es, clock, hh, F, by rw [hsz]; exact Nat.le_refl _, rfl⟩, by simp [Maps.size, length_sorted, hsz], fun x => ?_⟩
    have hrg : ∀ y ∈ es.toList, ∀ d, y.key = .int .u32 d → (Lit.int .u32 d).wf = true → (WideElems.rg P k selfR y).1 = .int .u32 d := fun y hy d hd hw => by
      rw [WideElems.rg_of (hrd y hy d hd hw)]
    rw [Maps.has_eq, List.any_eq_true]
    constructor
    · intro hx
      obtain ⟨d, hd, rfl⟩ := List.mem_map.1 hx
      have : Value.int .u32 d.1 ∈ es.toList.map (·.key) := hkeys.symm.subset (List.mem_map.2 ⟨d, hd, rfl⟩)
      obtain ⟨y, hy, hye⟩ := List.mem_map.1 this
      refine ⟨WideElems.rg P k selfR y, mem_sorted.2 (List.mem_map.2 ⟨y, hy, rfl⟩), ?_⟩
      rw [hrg y hy d.1 hye (hkw d hd)]
      exact WideAt.sameKey_self trivial
    · rintro ⟨p, hp, hpk⟩
      obtain ⟨y, hy, rfl⟩ := List.mem_map.1 (mem_sorted.1 hp)
      obtain ⟨d, hd, he, _⟩ := hkr y hy
      rw [hrg y hy d.1 he (hkw d hd)] at hpk
      have := WideAt.sameKey_eq hpk
      cases this
      exact List.mem_map.2 ⟨d, hd, rfl⟩
theorem tags_lookup {n : Int} {d : D} (h : TagsAt P ok w m (.map (some r)) (.map ds)) (hm : P.underlying m = some (.map k e)) (hn : (n, d) ∈ ds) :
    ∃ v, Rep P ok w e v d ∧ ∀ w' : World, w'.heap[r]? = w.heap[r]? → (Instr.lookup m (.map (some r)) (.int .u32 n) false).run P w' = .ok v w' := by
  cases h with
  | map hu hk hh hkeys hkw hs hborn hclock hr =>
    rw [hm] at hu; cases hu
    rename_i clock es
    have K := Maps.int_keyed hk
    have hkey := Maps.keyOf_int_mk hk (hkw _ hn)
    have hkr := keys_read hk hkeys hkw
    have hmem : Value.int .u32 n ∈ es.toList.map (·.key) := hkeys.symm.subset (List.mem_map.2 ⟨(n, d), hn, rfl⟩)
    obtain ⟨y, hy, hye⟩ := List.mem_map.1 hmem
    have hfind := fun w' => K.find w' hkey es.toList (fun x hx => by obtain ⟨d, _, _, h⟩ := hkr x hx; exact ⟨_, h⟩)
    refine ⟨y.val, hr y hy n d hye hn, fun w' hw' => ?_⟩
    rcases hfind w' with ⟨_, h2⟩ | ⟨j, e0, h1, h2, h3⟩
    · exact absurd hye (h2 y hy)
    · have hnd : (es.toList.map (·.key)).Nodup := by
        refine hkeys.nodup_iff.2 ?_
        have : (ds.map (·.1)).Nodup := hs.imp (fun {a b} h => by omega)
        have e1 : (ds.map fun d => Value.int .u32 d.1) = (ds.map (·.1)).map (fun i => Value.int .u32 i) := by rw [List.map_map]; rfl
        rw [e1]
        exact List.Pairwise.map _ (fun a b (hab : a ≠ b) hc => hab (by cases hc; rfl)) this
      have hje : y = e0 := by
        obtain ⟨i, hi, hyi⟩ := List.mem_iff_getElem.1 hy
        have hj := (List.getElem?_eq_some_iff.1 h2).1
        have hje0 := (List.getElem?_eq_some_iff.1 h2).2
        have : (es.toList.map (·.key))[i]'(by rw [List.length_map]; exact hi) = (es.toList.map (·.key))[j]'(by rw [List.length_map]; exact hj) := by
          rw [List.getElem_map, List.getElem_map, hyi, hje0, hye, h3]
        have hij := (List.getElem_inj hnd).1 this
        subst hij
        rw [← hyi, ← hje0]
      subst hje
      simp [Instr.lookup, run_underlying hm, Go.MapKept.run_getObj_map (hw'.trans hh), K.check w' _ hkey, h1, Result.andThen]
end
/-! ## What is appended of it -/
def de84 : DE := .f .app [.f (.ext 10) [.f (.ext 10) [.v 2, .v 0], .f (.wrap .u32) [.f .len [.v 1]]], .v 1]
def os84 : List Ob := [.room de84 1, .pre 10 [.f (.ext 10) [.v 2, .v 0], .f (.wrap .u32) [.f .len [.v 1]]], .pre 10 [.v 2, .v 0]]
def tb (y : Int × D) : List UInt8 := tagB y.1.toNat y.2.asStr
theorem ev84 {key : Int} {val : Option (List UInt8)} {acc : D} (h0 : 0 ≤ key) (hl : (val.getD []).length < 4294967296) (hlen : acc.asStr.length + (tagB key.toNat (val.getD [])).length ≤ lim) :
    obsHold X side os84 [.int key, encB val, acc] ∧ de84.eval X [.int key, encB val, acc] = appD acc (tb (key, encB val)) := by
  have e1 : (DE.f (.ext 10) [.v 2, .v 0]).eval X [.int key, encB val, acc] = app acc (Uvarint key.toNat) := by
    simp only [ev_f, evs_cons, evs_nil, ev_v, List.getD_cons_zero, List.getD_cons_succ, fe_ext, X_10, int_i]
  have e2 : (DE.f (.wrap .u32) [.f .len [.v 1]]).eval X [.int key, encB val, acc] = .int ((val.getD []).length : Nat) := by
    simp only [ev_f, evs_cons, evs_nil, ev_v, List.getD_cons_zero, List.getD_cons_succ, fe_len, fe_wrap, len_encB]
    rw [wrapu32 (by omega) (by omega)]
  have e3 : (DE.f (.ext 10) [.f (.ext 10) [.v 2, .v 0], .f (.wrap .u32) [.f .len [.v 1]]]).eval X [.int key, encB val, acc] = app acc (Uvarint key.toNat ++ Uvarint (val.getD []).length) := by
    rw [ev_f, evs_cons, evs_cons, evs_nil, e1, e2, fe_ext, X_10, int_i, Int.toNat_natCast]
    simp [app, D.asStr]
  have e4 : de84.eval X [.int key, encB val, acc] = appD acc (tb (key, encB val)) := by
    rw [de84, ev_f, evs_cons, evs_cons, evs_nil, e3, ev_v, List.getD_cons_succ, List.getD_cons_zero, fe_app, app_b, tb, asStr_encB, tagB]
    exact appD_ne (cat_pos (cat_pos Uv_pos))
  have hpos : 0 < (tagB key.toNat (val.getD [])).length := by rw [tagB]; exact cat_pos (cat_pos Uv_pos)
  have hd : (de84.eval X [.int key, encB val, acc]).len ≤ lim := by
    rw [e4, tb, asStr_encB, appD_le _ hpos]; exact hlen
  rw [tagB, List.length_append, List.length_append] at hlen
  refine ⟨⟨?_, ?_, ?_, trivial⟩, e4⟩
  · exact room1 hd
  · simp only [Ob.holds]
    rw [evs_cons, evs_cons, evs_nil, e1, e2, side_d10, X_10, app_len, int_i, Int.toNat_natCast]
    have : (app acc (Uvarint key.toNat)).asStr = acc.asStr ++ Uvarint key.toNat := rfl
    rw [this, List.length_append]
    omega
  · simp only [Ob.holds, evs_cons, evs_nil, ev_v, List.getD_cons_zero, List.getD_cons_succ]
    rw [side_d10, X_10, app_len, int_i]
    omega
theorem X_25' (m o : D) : X 25 [m, o] = appD o ((mapL m).map tb).flatten := by
  rw [X_25]
  cases hm : mapL m with
  | nil => rfl
  | cons a l =>
    rw [if_neg (by simp)]
    refine appD_ne ?_
    rw [List.map_cons, List.flatten_cons]
    refine cat_pos ?_
    show 0 < (tagB a.1.toNat a.2.asStr).length
    rw [tagB]; exact cat_pos (cat_pos Uv_pos)
end Go.Mx

namespace Go.Mx
open Go Go.Dx

/-! ## Sixteen octets -/
def u8V (s : List UInt8) : List Value := s.map fun x => Value.int .u8 (x.toNat : Int)
def zero16 : Array Value := #[.int .u8 0, .int .u8 0, .int .u8 0, .int .u8 0, .int .u8 0, .int .u8 0, .int .u8 0, .int .u8 0, .int .u8 0, .int .u8 0, .int .u8 0, .int .u8 0, .int .u8 0, .int .u8 0, .int .u8 0, .int .u8 0]
section
variable {P : Program} {ok : Nat → Prop} {w : World}
theorem rep_u8 {e : TypeId} {v : Value} {d : D} (he : P.underlying e = some (.int .u8)) (h : Rep P ok w e v d) : ∃ x : UInt8, v = .int .u8 (x.toNat : Int) ∧ d = .int (x.toNat : Int) := by
  obtain ⟨n, rfl, hn⟩ : KOk (.int .u8) d := rep_int (by simp [isI, he]) h
  cases h with
  | int hu hw =>
    rw [he] at hu; cases hu
    have hb : 0 ≤ n ∧ n < 256 := by simp [Lit.wf, IntKind.min, IntKind.max, IntKind.signed, IntKind.bits] at hn; omega
    have : ((UInt8.ofNat n.toNat).toNat : Int) = n := by rw [UInt8.toNat_ofNat']; omega
    exact ⟨UInt8.ofNat n.toNat, by rw [this], by rw [this]⟩
theorem rep_u16 {t e : TypeId} {v : Value} {d : D} (ha : agg P t = true) (ht : tys P t = List.replicate 16 e) (he : P.underlying e = some (.int .u8)) (h : Rep P ok w t v d) :
    ∃ s : List UInt8, s.length = 16 ∧ v = .agg (u8V s).toArray ∧ d = .row (s.map fun x => .int (x.toNat : Int)) := by
  obtain ⟨ds, rfl, _, _⟩ := rep_row ha h
  cases h with
  | row hu hd hlen hlen' h1 hr =>
    rename_i dd vs
    rw [ht] at hlen hlen' hr
    have hl : vs.length = 16 := by simpa using hlen
    have hl' : ds.length = 16 := by simpa using hlen'
    have hx : ∀ j (h : j < 16), ∃ x : UInt8, vs[j]? = some (.int .u8 (x.toNat : Int)) ∧ ds[j]? = some (.int (x.toNat : Int)) := fun j hj => by
      have h1 : vs[j]? = some (vs[j]'(by omega)) := List.getElem?_eq_getElem (by omega)
      have h2 : ds[j]? = some (ds[j]'(by omega)) := List.getElem?_eq_getElem (by omega)
      obtain ⟨x, e1, e2⟩ := rep_u8 he (hr j e _ _ (by rw [List.getElem?_replicate, if_pos hj]) h1 h2)
      exact ⟨x, by rw [h1, e1], by rw [h2, e2]⟩
    have hk : ∀ x : UInt8, UInt8.ofNat (D.int (x.toNat : Int)).asInt.toNat = x := fun x => by simp [D.asInt]
    refine ⟨ds.map fun d => UInt8.ofNat d.asInt.toNat, by simpa using hl', ?_, ?_⟩
    · congr 1
      apply congrArg List.toArray
      apply List.ext_getElem?
      intro j
      by_cases hj : j < 16
      · obtain ⟨x, e1, e2⟩ := hx j hj
        rw [e1, u8V, List.getElem?_map, List.getElem?_map, e2, Option.map_some, Option.map_some, hk]
      · rw [List.getElem?_eq_none (by omega), List.getElem?_eq_none (by simp [u8V]; omega)]
    · congr 1
      apply List.ext_getElem?
      intro j
      by_cases hj : j < 16
      · obtain ⟨x, e1, e2⟩ := hx j hj
        rw [List.getElem?_map, List.getElem?_map, e2, Option.map_some, Option.map_some, hk]
      · rw [List.getElem?_eq_none (by omega), List.getElem?_eq_none (by simp; omega)]
theorem rowBytes_of (s : List UInt8) : rowBytes (.row (s.map fun x => .int (x.toNat : Int))) = s := by
  simp only [rowBytes, D.cells, List.map_map]
  conv => rhs; rw [← List.map_id s]
  apply List.map_congr_left
  intro x _
  simp [D.asInt]
theorem alloc_setRow (w : World) (a b : Array Value) (ty : TypeId) : (w.alloc (.cells a ty)).setRow w.heap.size b = w.alloc (.cells b ty) := by
  simp only [World.setRow, World.alloc]
  congr 1
  apply Array.ext_getElem?
  intro i
  rw [Array.getElem?_modify]
  by_cases h : w.heap.size = i
  · subst h; simp
  · rw [if_neg h]; simp [Array.getElem?_push, Ne.symm h]
theorem run_copy16 {t e ty tyA : TypeId} {i : TypeInfo} (hu : P.underlying t = some (.slice e)) (hi : P.info? e = some i) (hsz1 : i.size = 1) (he : P.underlying e = some (.int .u8)) {v : Value} {d : D} (hr : Rep P ok w t v d) (hok : ∀ b, ok b → b < w.heap.size) :
    ∃ n, (Builtin.copy_ #[t, t] ty #[.slice (some ⟨w.heap.size, 0, none⟩) 16 16, v]).run P (w.alloc (.cells zero16 tyA)) = .ok (goInt n) (w.alloc (.cells (u8V (sixteen d.asStr)).toArray tyA)) := by
  have hW : Rep P ok (w.alloc (.cells zero16 tyA)) t v d := hr.mono (fun _ h => h) (fun b hb => (MapKept.heap_alloc w _).2 b (hok b hb))
  have hsrc := hW.bytesAt hu he
  generalize hWW : w.alloc (.cells zero16 tyA) = W at hsrc
  have hsrclen : ∃ sl : List UInt8, d.asStr = sl ∧ d.len = sl.length ∧ sl.length ≤ maxLen ∧ (Builtin.lenOf v).run P W = .ok sl.length W ∧ ∀ q, q ≤ sl.length → (Builtin.firstCells 1 q v).run P W = .ok ((sl.take q).map fun x => Value.int .u8 (x.toNat : Int)).toArray W := by
    cases hsrc with
    | nil => exact ⟨[], rfl, rfl, Nat.zero_le _, by simp [Builtin.lenOf], fun q hq => by simp [Builtin.firstCells]⟩
    | some hsp hcl h1 h2 =>
      rename_i ad cap sl
      refine ⟨sl, rfl, rfl, by omega, by simp [Builtin.lenOf], fun q hq => ?_⟩
      simp only [Builtin.firstCells, Nat.mul_one]
      have := run_loadCells_list (P := P) W ad ((sl.take q).map fun x => Value.int .u8 (x.toNat : Int)) (fun j v hj => by
        have h0 := (List.getElem?_eq_some_iff.1 hj).1
        rw [List.length_map, List.length_take] at h0
        rw [at_add (hsp (by omega))]
        refine hcl j v ?_
        rw [List.getElem?_map] at hj ⊢
        rw [List.getElem?_take] at hj
        split at hj
        · exact hj
        · cases hj)
      rw [List.length_map, List.length_take, Nat.min_eq_left hq] at this
      exact this
  obtain ⟨sl, hs1, hs2, hs3, hlen, hfirst⟩ := hsrclen
  have hg : W.heap[w.heap.size]? = some (.cells zero16 tyA (0, 0)) := by rw [← hWW]; exact (MapKept.heap_alloc w _).1
  generalize hq : min 16 sl.length = q
  have hql : (sl.take q).length = q := by rw [List.length_take]; omega
  have hst := run_storeCells_at P w.heap.size 0 tyA ((sl.take q).map fun x => Value.int .u8 (x.toNat : Int)) 0 zero16 W hg (by simp [zero16]; omega) (fun v hv => by
    obtain ⟨x, _, rfl⟩ := List.mem_map.1 hv; rfl)
  have hf := hfirst q (by omega)
  have hsz := Dx.run_sizeOf hi W
  rw [hsz1] at hsz
  have hmin : Nat.min sl.length 16 = q := by show min sl.length 16 = q; omega
  have hl16 : (Builtin.lenOf (.slice (some ⟨w.heap.size, 0, none⟩) 16 16)).run P W = .ok 16 W := by simp [Builtin.lenOf]
  refine ⟨q, ?_⟩
  have hfin : W.setRow w.heap.size (splice zero16.toList 0 ((sl.take q).map fun x => Value.int .u8 (x.toNat : Int))).toArray = w.alloc (.cells (u8V (sixteen d.asStr)).toArray tyA) := by
    rw [← hWW, alloc_setRow]
    congr 3
    rw [hs1, u8V, sixteen, List.map_append]
    have h16 : zero16.toList = List.replicate 16 (.int .u8 0) := rfl
    simp only [splice, List.take_zero, List.nil_append, Nat.zero_add, List.length_map, hql, h16, List.drop_replicate, List.map_replicate]
    have e1 : sl.take 16 = sl.take q := by
      by_cases h : sl.length ≤ 16
      · rw [List.take_of_length_le h, List.take_of_length_le (by omega)]
      · congr 1; omega
    rw [e1]
    have : 16 - q = 16 - sl.length := by omega
    rw [this]; rfl
  simp only [Builtin.copy_, List.size_toArray, List.getElem?_toArray, List.getElem?_cons_zero, List.getElem?_cons_succ, Sem.run_bind, run_underlying hu, hlen, hl16, hsz, hmin, hf, Result.andThen_ok, Sem.run_pure]
  rw [hst, ← hfin]
  rfl
theorem cells_new (w : World) (xs : List Value) (t : TypeId) (j : Nat) (u : Value) (h : xs[j]? = some u) : (w.alloc (.cells xs.toArray t)).cell? ((⟨w.heap.size, 0, none⟩ : Addr).add j) = some u := by
  have hadd : (⟨w.heap.size, 0, none⟩ : Addr).add j = ⟨w.heap.size, 0 + j, none⟩ := by unfold Addr.add; split <;> simp_all
  have hb : (w.alloc (.cells xs.toArray t)).heap[w.heap.size]? = some (.cells xs.toArray t (0, 0)) := (MapKept.heap_alloc w _).1
  rw [hadd]
  unfold World.cell?
  simp only [hb, Nat.zero_add]
  simpa using h
theorem results_cell {fn : Func} {a t : Nat} (h : fn.results = #[.cell a t]) {tmps : Array Value} {ad : Addr} (ha : tmps[a]?.getD undef = .pointer (some ad)) {W : World} {v : Value} (hl : (loadVar t ad).run P W = .ok v W) : (results fn tmps).run P W = .ok v W := by
  simp [results, h, ha, asAddr, hl, Result.andThen]
theorem load_box {t : TypeId} {d : TypeDesc} {i : TypeInfo} (hu : P.underlying t = some d) (ha : isAggD d = true) (hi : P.info? t = some i) (xs : List Value) (hl : xs.length = i.size) : (loadVar t ⟨w.heap.size, 0, none⟩).run P (w.alloc (.cells xs.toArray t)) = .ok (.agg xs.toArray) (w.alloc (.cells xs.toArray t)) := by
  have := run_loadVar' (P := P) (w := w.alloc (.cells xs.toArray t)) (b := w.heap.size) (off := 0) hu hi (fun j v hj => by
    have := cells_new w xs t j v hj
    rw [addr_add] at this; exact this) (by rw [if_pos ha]; exact hl)
  rw [if_pos ha] at this
  exact this
theorem u16_rep {t e : TypeId} (ha : agg P t = true) (ht : tys P t = List.replicate 16 e) (he : P.underlying e = some (.int .u8)) {s : List UInt8} (hl : s.length = 16) : Rep P ok w t (.agg (u8V s).toArray) (.row (s.map fun x => .int (x.toNat : Int))) := by
  obtain ⟨dd, hu, hd⟩ := agg_eq ha
  refine .row hu hd (by rw [ht]; simp [u8V, hl]) (by rw [ht]; simp [hl]) (fun v hv => ?_) (fun j u v d h1 h2 h3 => ?_)
  · obtain ⟨x, _, rfl⟩ := List.mem_map.1 hv; rfl
  · rw [ht, List.getElem?_replicate] at h1
    split at h1
    · cases h1
      rw [u8V, List.getElem?_map] at h2
      rw [List.getElem?_map] at h3
      cases hx : s[j]? with
      | none => rw [hx] at h2; cases h2
      | some x =>
        rw [hx] at h2 h3; cases h2; cases h3
        exact .int he (by have := x.toNat_lt; simp [Lit.wf, IntKind.min, IntKind.max, IntKind.signed, IntKind.bits]; omega)
    · cases h1
theorem own_slice {t : TypeId} {v : Value} {d : D} (h : OwnAt P ok w t v d) : ∃ sp sn sc, v = .slice sp sn sc := by
  obtain ⟨e, i, n, xs, _, _, h3, _⟩ := h
  rcases h3.2 with ⟨rfl, _⟩ | ⟨g, cap, cur, rfl, _⟩
  · exact ⟨_, _, _, rfl⟩
  · exact ⟨_, _, _, rfl⟩
theorem own_lt {t : TypeId} {v : Value} {d : D} (h : OwnAt P ok w t v d) (b : Nat) (hb : v.ownBlock = some b) : b < w.heap.size := by
  obtain ⟨e, i, n, xs, _, _, h3, _⟩ := h
  exact (h3.lt b hb).2
/-- octets of one's own: their cells -/
theorem own_bytes {t e : TypeId} {i : TypeInfo} (hu : P.underlying t = some (.slice e)) (he : P.underlying e = some (.int .u8)) (hi : P.info? e = some i) (h1 : i.size = 1) {v : Value} {d : D} (h : OwnAt P ok w t v d) : ∃ xs : List UInt8, d.asStr = xs ∧ w.ownsRow 0 e 1 v xs.length (u8V xs) := by
  obtain ⟨e', i', n, xs, hu', hi', h3, h4⟩ := h
  rw [hu] at hu'; cases hu'
  rw [hi] at hi'; cases hi'
  rw [h1] at h3
  cases h4 with
  | nil hv => exact ⟨[], rfl, h3⟩
  | bytes hv he' hs => exact ⟨_, rfl, h3⟩
  | list hv he' => exact absurd he he'
theorem own_mk {t e : TypeId} {i : TypeInfo} (hu : P.underlying t = some (.slice e)) (he : P.underlying e = some (.int .u8)) (hi : P.info? e = some i) (h1 : i.size = 1) {v : Value} {s : List UInt8} (hn : v = .slice none 0 0 → False) (h : w.ownsRow 0 e 1 v s.length (u8V s)) : OwnAt P ok w t v (.bytes s) := by
  refine ⟨e, i, s.length, u8V s, hu, hi, by rw [h1]; exact h, .bytes ?_ he h1⟩
  rcases h.2 with ⟨rfl, _⟩ | ⟨g, cap, cur, rfl, _⟩
  · exact absurd rfl hn
  · simp [Value.ownBlock]
end
end Go.Mx
