/- FnMakeShareGroupHeartbeatResponse returns true for all arguments and leaves them as they are; condition: what comes in holds at most 1048576 values and letters. -/
import Derived.Test.YtblndkbbnboldaaQ10
import Derived.Test.YtblndkbbnboldaaRows
import Derived.ProofKit
import Derived.OpenShut
import Derived.JoinedCond
set_option linter.unusedVariables false
set_option linter.unusedSimpArgs false
open Go Go.Dx Go.Mx
namespace Go.Proofs
def ctrM : Ctr := ⟨[.val 3, .val 39], .own 22, 118, true⟩
def ctrP : Ctr := ⟨[.val 39], .val 53, 401, true⟩
noncomputable def CP : Cfg := ⟨Try.prog, fun g => lk g tabS, lookH []⟩
theorem pv : qGF Try.prog CP 30 ctrP [] (ptE S401) (ptO S401) = true := by kernel_rfl
theorem ptrOk : xMB Try.prog X side 30 ctrP := ptr_ok nm ord (C := CP) rfl ctrsOk (by kernel_rfl) rfl rfl (by kernel_rfl) rfl (by kernel_rfl) (by kernel_rfl) pv
noncomputable def ctrQ (g : Nat) : Option Ctr := if g = 30 then some ctrP else lk g tabS
theorem ctrQOk : ∀ f c, ctrQ f = some c → xMB Try.prog X side f c := fun f c hc => by
  have hc : (if f = 30 then some ctrP else lk f tabS) = some c := hc
  split at hc
  · rename_i h12
    cases hc; subst h12; exact ptrOk
  · exact ctrsOk f c hc
noncomputable def CM (h : List (Nat × Nat × Nat × Hint)) : Cfg := ⟨Try.prog, ctrQ, lookH h⟩
def h0 : List (Nat × Nat × Nat × Hint) := []
theorem mv0 : qGF Try.prog (CM h0) 9 ctrM [(0, 0)] (msgE M118 0) (msgO M118 0) = true := by kernel_rfl
theorem mv1 : qGF Try.prog (CM h0) 9 ctrM [(0, 1)] (msgE M118 1) (msgO M118 1) = true := by kernel_rfl
theorem okM : qOG M118 = true := by kernel_rfl
theorem makeOk : xMB Try.prog X side 9 ctrM := by
  refine make_okM (M := M118) nm ord (by kernel_rfl) rfl rfl (by kernel_rfl) okM (fun v t => X_118 v t) (fun v t => side_118 v t) (fun v h0 h1 => ?_)
  have h1 : v ≤ 1 := h1
  have h : v = 0 ∨ v = 1 := by omega
  rcases h with rfl | rfl
  · exact ⟨CM _, rfl, ctrQOk, mv0⟩
  · exact ⟨CM _, rfl, ctrQOk, mv1⟩
noncomputable def CL : Cfg := ⟨Try.prog, fun g => if g = 9 then some ctrM else lk g tabS, fun _ _ _ => none⟩
theorem lawRun : qGF Try.prog CL 3 ⟨[.val 5, .val 26], .val 4, 200, false⟩ [] (lawE' M118 118) (lawO' M118 118) = true := by kernel_rfl
theorem ctrL : ∀ f c, CL.ctr f = some c → xMB Try.prog X side f c := fun f c hc => by
  have hc : (if f = 9 then some ctrM else lk f tabS) = some c := hc
  split at hc
  · rename_i h12
    cases hc; subst h12; exact makeOk
  · exact ctrsOk f c hc
theorem lawCalls {ok : Nat → Prop} {w : World} {n : Int} {tv : Value} {d : D} (hn : (Lit.int .u8 n).wf = true) (ht : Rep Try.prog ok w 26 tv d) (hok : ∀ b, ok b → b < w.heap.size) (hd : wD d ≤ 1048576) :
    Calls Try.prog 3 #[.int .u8 n, tv] w fun e w' => e = .returned (.bool true) ∧ Fr (fun _ => False) w w' :=
  law_calls (C := CL) rfl nm ord ctrL lawRun (by kernel_rfl) (by kernel_rfl) (by kernel_rfl) okM (fun v t => X_118 v t) (fun v t => side_118 v t) hn ht hok (fun t he _ _ v _ _ => by
    subst he
    exact bytes_le okM (Nat.le_trans (WT_wD t) hd) (of_decide_eq_true (by kernel_rfl)) v)
end Go.Proofs
namespace Go.Proofs.Ytblndkbbnboldaa
open Go.ChangeShapes Go.WideShapes Go.ChangeAt Go.RowKit
open Go Go.Dx Go.Mx
mutual
theorem bulk_all {H : Type} : ∀ l : List (DataW H), (l.map Rows.uptoBulk).sum = Rows.uptoBulkAll l
  | [] => by rw [Rows.uptoBulkAll]; rfl
  | d :: r => by rw [Rows.uptoBulkAll, List.map_cons, List.sum_cons, bulk_all r]
end
theorem bulk_one {H : Type} (d : DataW H) : 1 ≤ Rows.uptoBulk d := by
  cases d with
  | lit l => cases l <;> simp [Rows.uptoBulk]
  | nil => simp [Rows.uptoBulk]
  | ptr d => simp [Rows.uptoBulk]
  | slice elems spare => simp [Rows.uptoBulk]
  | agg parts => simp [Rows.uptoBulk]
  | iface t d => simp [Rows.uptoBulk]
  | map entries => simp [Rows.uptoBulk]
  | held h => simp [Rows.uptoBulk]
theorem bulkOk {H : Type} : Bulk (H := H) Rows.uptoBulk :=
  ⟨bulk_one, fun es sp => by rw [bulk_all, Rows.uptoBulk]; omega, fun ps => by rw [bulk_all, Rows.uptoBulk]; omega⟩
def good : List TypeId := [26, 2, 22, 4, 23, 24, 64, 62, 5]
theorem goodOk : (good.all fun t => okT Try.prog good t) = true := by kernel_rfl
theorem goodAll : ∀ t ∈ good, okT Try.prog good t = true := List.all_eq_true.1 goodOk
theorem post_of_old {H : Type} {enc : TypeId × Value → H} {P : Program} {f : Func} {s : ChangeSpec} {apart fresh handsOn again : Bool} {W W' : World} {args : Array Value} {v : Value} {ds gs : List (DataW H)} {before pa pv : List MemPlace}
    (hW : DataW.Whole enc P f.params.toList s.vars apart W args.toList ds gs before)
    (hres : ∀ (b : Nat) (sp : Nat → Bool) (hd : Bool), DataW.TrodAll enc P W' b sp hd f.resultTypes.toList (v.resultList f.resultTypes.size) (s.fn H (ds ++ gs)).results [])
    (hargs : ∀ sp : Nat → Bool, (∀ p ∈ before, sp p.block = true) → DataW.TrodAll enc P W' 0 sp true f.params.toList args.toList (s.fn H (ds ++ gs)).args pa)
    (hvars : ∀ sp : Nat → Bool, (∀ p ∈ before, sp p.block = true) → DataW.TrodVars enc P W' sp s.vars (s.fn H (ds ++ gs)).vars pv)
    (hps : before = pa ++ pv) (hk : W.keptBut W' (· ∈ before)) (hfz : ∀ a : Addr, a.block < W.heap.size → W'.frozen? a = W.frozen? a)
    (hok : ∀ (j : Nat) (t : TypeId) (r : Value), f.resultTypes[j]? = some t → (v.resultList f.resultTypes.size)[j]? = some r → Value.okWide P W' .any 0 t r) :
    s.post enc P f apart fresh handsOn again W args v W' := by
  have hlt := hW.lt
  have hold : ∀ p ∈ before, (fun b => decide (b < W.heap.size)) p.block = true := fun p hp => by simpa using hW.lt p hp
  refine ⟨ds, gs, before, [], pa, pv, hW, hres _ _ _, hargs _ hold, hvars _ hold, World.keptBut_mono (fun p hp => ⟨hp, ?_⟩) hk, fun _ => ?_⟩
  · rw [hps, List.mem_append] at hp
    exact Or.inr hp
  · obtain ⟨_, _, _, _, _, hz, hn⟩ := hW
    refine ⟨hok, _, _, ([] ++ pa) ++ pv, ⟨[] ++ pa, pv, trodAll_append (hargs _ (fun _ _ => rfl)) (hres _ _ _), hvars _ (fun _ _ => rfl), rfl, ?_, ?_⟩, ?_⟩
    · intro b off hp
      have hp' : MemPlace.cell b off ∈ before := by rw [hps]; simpa using hp
      rw [hfz _ (by have := hlt _ hp'; simpa [MemPlace.block] using this)]
      exact hz b off hp'
    · intro ha
      have := hn ha
      rw [hps] at this
      simpa using this
    · intro p hp _
      rw [hps]
      simpa using hp
set_option maxRecDepth 100000 in
theorem contract (H : Type) (enc : TypeId × Value → H) (W : World) (base : Nat) (args : Array Value) (ds gs : List (DataW H)) (before : List MemPlace)
    (hval : ∀ (j : Nat) t v, Try.f3.params[j]? = some t → args[j]? = some v → Value.okWide Try.prog W .any base t v)
    (hW : DataW.Whole enc Try.prog Try.f3.params.toList Rows.fnMakeShareGroupHeartbeatResponseSpec.vars false W args.toList ds gs before) (hk : Rows.uptoSmall H (ds ++ gs) = true) :
    Calls Try.prog 3 args W fun e W' => ∃ v, e = .returned v ∧ Rows.fnMakeShareGroupHeartbeatResponseSpec.post enc Try.prog Try.f3 false true false false W args v W' := by
  have hW' := hW
  obtain ⟨p, q, hA0, hV, rfl, hfz, hnd⟩ := hW
  have hA : DataW.TrodAll enc Try.prog W 0 (fun _ => true) true Try.f3.params.toList args.toList ds p := hA0
  rw [Try.params3] at hA hval
  obtain ⟨v0, v1, d0, d1, p0, p1, rfl, rfl, rfl, h0, h1⟩ := trodAll_two hA
  obtain ⟨rfl, rfl⟩ := trodVars_none hV
  obtain ⟨a, rfl, rfl, rfl, wa⟩ := open_int Try.underlying5 (hval 0 5 v0 rfl rfl) h0
  have hv1 := hval 1 26 v1 rfl rfl
  have h1k := h1
  obtain ⟨fuel, h1⟩ := h1
  obtain ⟨v, d, k1, k2, _, k4⟩ := rep_trod (w := W) bulkOk goodAll (fun _ => rfl) fuel 26 _ _ (by decide) h1
  have hsmall : wD d ≤ 1048576 := by
    simp only [Rows.uptoSmall, decide_eq_true_eq, List.append_nil, Rows.uptoBulkAll] at hk
    have k4 : wD d ≤ Rows.uptoBulk d1 := k4
    omega
  have hagg : agg Try.prog 26 = true := by kernel_rfl
  have hvv : v = v1 := by
    obtain ⟨dd, hu, ha⟩ := yOF hagg
    unfold Value.okWide at hv1
    rw [hu] at hv1
    have hcs : ∃ cs, v1 = .agg cs := by
      cases dd <;> simp [zFA] at ha
      · obtain ⟨cs, h, _⟩ := hv1; exact ⟨cs, h⟩
      · obtain ⟨cs, h, _⟩ := hv1; exact ⟨cs, h⟩
    obtain ⟨cs, rfl⟩ := hcs
    obtain ⟨ds', rfl, _, _⟩ := zEF hagg k2
    cases k2 with
    | row _ _ _ _ _ _ => exact congrArg Value.agg (Array.toList_inj.1 k1)
  subst hvv
  clear hA0
  simp only [List.append_nil] at hW'
  refine (Go.Proofs.lawCalls (ok := fun b => b < W.heap.size) wa k2 (fun b hb => hb) hsmall).mono fun e W' ⟨he, hfr⟩ => ?_
  subst he
  have hb : Below W.heap.size W W' := ⟨hfr.os, hfr.tape, hfr.output, hfr.size, fun k hk => hfr.block k hk (fun h => h)⟩
  have hlt : ∀ x ∈ p1, x.block < W.heap.size := fun x hx => by simpa using hW'.lt x (by simpa using hx)
  exact ⟨_, rfl, post_of_old (pa := p1) (pv := []) hW' (fun _ _ _ => trodAll_mk1 (shut_bool Try.underlying4 _))
    (fun sp hsp => by
      have := trodAll_mk2 (enc := enc) (P := Try.prog) (w := W') (base := 0) (spare := sp) (held := true) (shut_int Try.underlying5 wa) (WideElems.Trod_stays laidOut (by kernel_rfl) (of_decide_eq_true (by kernel_rfl)) h1k (fun x hx => hb.same (hlt x hx)) (fun x hx => hsp x (by simpa using hx)))
      rw [List.nil_append] at this
      exact this)
    (fun _ _ => rfl) (by simp) (hb.frame _) (fun a ha => hb.frozen ha) (ok_one (by kernel_rfl) rfl (okWide_bool_mk Try.underlying4 _))⟩
set_option maxRecDepth 100000 in
theorem lifted (os : Os) (started : os.Started) (H : Type) (enc : TypeId × Value → H) (F : Stop.Interp) :
    ReturnsInHanded {} Try.checked os 3 .any ((Rows.OpenSpec.upto Rows.fnMakeShareGroupHeartbeatResponseSpec).pre6 enc Try.prog Try.f3 Rows.fnMakeShareGroupHeartbeatResponseUptoRow.domain false) (((Rows.OpenSpec.upto Rows.fnMakeShareGroupHeartbeatResponseSpec).at F).post enc Try.prog Try.f3 false true false false) := by
  refine returnsInHanded_of_cond (C := Try.checked) (s := Rows.OpenSpec.upto Rows.fnMakeShareGroupHeartbeatResponseSpec) (k := Rows.uptoSmall) rfl own started (by kernel_rfl) Try.func3
    (OpenSpec.witness (enc := enc) (C := Try.checked) (s := Rows.OpenSpec.upto Rows.fnMakeShareGroupHeartbeatResponseSpec) (k := Rows.uptoSmall) rfl false ⟨#[], #[.int .u8 0, .agg #[.int .i64 0, .slice none 0 0, .bool false, .slice none 0 0, .slice none 0 0]], []⟩ 8 (by kernel_rfl) (by kernel_rfl) (by kernel_rfl)
      (x := ([.lit (.int .u8 0), .agg [.lit (.int .i64 0), .nil, .lit (.bool false), .nil, .nil]], [], [])) (by kernel_rfl) rfl (by kernel_rfl)) ?_
  intro W base args ds gs before hval hW _ hk _
  exact contract H enc W base args ds gs before hval hW hk
set_option maxHeartbeats 8000000 in
theorem closedOk : joinedFacts Try.prog 3 Try.f3 (Rows.OpenSpec.upto Rows.fnMakeShareGroupHeartbeatResponseSpec).bare Rows.fnMakeShareGroupHeartbeatResponseUptoRow = true := by
  unfold joinedFacts
  simp only [Bool.and_eq_true]
  repeat' apply And.intro
  · as_aux_lemma => kernel_rfl
  · exact laidOut
  · exact mapsOk
  · as_aux_lemma => kernel_rfl
  · as_aux_lemma => kernel_rfl
  · as_aux_lemma => kernel_rfl
  · as_aux_lemma => kernel_rfl
  · as_aux_lemma => kernel_rfl
  · as_aux_lemma => kernel_rfl
  · as_aux_lemma => kernel_rfl
  · as_aux_lemma => kernel_rfl
  · as_aux_lemma => kernel_rfl
  · as_aux_lemma => kernel_rfl
  · as_aux_lemma => kernel_rfl
  · as_aux_lemma => kernel_rfl
  · as_aux_lemma => kernel_rfl
  · as_aux_lemma => kernel_rfl
  · as_aux_lemma => kernel_rfl
  · as_aux_lemma => kernel_rfl
  · as_aux_lemma => kernel_rfl
  · as_aux_lemma => kernel_rfl
  · as_aux_lemma => kernel_rfl
  · as_aux_lemma => kernel_rfl
  · as_aux_lemma => kernel_rfl
  · exact heardOk
  · exact enterOk
  · exact liftsOk
  · as_aux_lemma => kernel_rfl
  · as_aux_lemma => kernel_rfl
  · as_aux_lemma => kernel_rfl
  · as_aux_lemma => kernel_rfl
  · as_aux_lemma => kernel_rfl
theorem holds : Rows.FnMakeShareGroupHeartbeatResponseUptoSaid :=
  OpenClaim.holds_of_cond 3 Try.f3 rfl rfl rfl rfl rfl rfl rfl ⟨rfl, rfl, rfl, rfl, rfl⟩ rfl rfl rfl rfl rfl (by as_aux_lemma => kernel_rfl) Try.func3 closedOk
    (of_decide_eq_true (by as_aux_lemma => kernel_rfl)) (by unfold Func.isWrapper; first | (rw [if_pos (by decide +kernel)]; kernel_rfl) | (rw [if_neg (by decide +kernel)]; exact ⟨rfl, rfl⟩))
    (fun os started H enc _ F => lifted os started H enc F)
end Go.Proofs.Ytblndkbbnboldaa
