/- The law FnDefaultTxnOffsetCommitRequest, where what comes in holds at most 1048576 values and letters. -/
import Derived.Test.YtneeaigimifckaaGreatDoorQ16
import Derived.Test.YtneeaigimifckaaGreatDoorCards
import Derived.Test.YtneeaigimifckaaGreatDoorTie
import Derived.ProofKit
import Derived.OpenShut
import Derived.Deep.DeepHandedRow
import Derived.JoinedCond
set_option linter.unusedVariables false
set_option linter.unusedSimpArgs false
noncomputable section
open Go Go.Dx Go.Mx
namespace Go.Proofs
def ctrM : Ctr := ⟨[.val 3, .val 22], .valT 37, 147, true⟩
noncomputable def ctrB (g : Nat) : Option Ctr := if g = 99 then some ctrE else ctrA g
theorem ctrBOk : ∀ f c, ctrB f = some c → qRA Tryz.prog X side f c := fun f c hc => by
  have hc : (if f = 99 then some ctrE else ctrA f) = some c := hc
  split at hc
  · rename_i h12
    cases hc; subst h12; exact handE
  · exact ctrAOk f c hc
noncomputable def CM (h : List (Nat × Nat × Nat × Hint)) : Cfg := ⟨Tryz.prog, ctrB, lookH ((0, 999999, 0, ([], 0)) :: h)⟩
def h0 : List (Nat × Nat × Nat × Hint) := [(250, 2, 4, ([(.slot 27, .var (.own 160)), (.cell 871567839708081630077595418626 0, .var (.set 22))], 0)), (250, 0, 2, ([(.slot 19, .var (.own 155)), (.cell 871567839708081630077595418626 0, .var (.set 22))], 0)), (250, 2, 6, ([(.slot 27, .var (.own 160)), (.cell 871567839708081630077595418626 0, .var (.set 22))], 0)), (133, 0, 2, ([(.cell 1267669943041343235563498504194 38, .var (.own 34))], 0))]
theorem mv0 : yXJ Tryz.prog (CM h0) 37 ctrM [(0, 0)] (dfltE M147 0) (dfltO M147 0) = true := by kernel_rfl
theorem mv1 : yXJ Tryz.prog (CM h0) 37 ctrM [(0, 1)] (dfltE M147 1) (dfltO M147 1) = true := by kernel_rfl
theorem mv2 : yXJ Tryz.prog (CM h0) 37 ctrM [(0, 2)] (dfltE M147 2) (dfltO M147 2) = true := by kernel_rfl
theorem mv3 : yXJ Tryz.prog (CM h0) 37 ctrM [(0, 3)] (dfltE M147 3) (dfltO M147 3) = true := by kernel_rfl
theorem mv4 : yXJ Tryz.prog (CM h0) 37 ctrM [(0, 4)] (dfltE M147 4) (dfltO M147 4) = true := by kernel_rfl
theorem mv5 : yXJ Tryz.prog (CM h0) 37 ctrM [(0, 5)] (dfltE M147 5) (dfltO M147 5) = true := by kernel_rfl
theorem mv6 : yXJ Tryz.prog (CM h0) 37 ctrM [(0, 6)] (dfltE M147 6) (dfltO M147 6) = true := by kernel_rfl
theorem okM : qUB M147 = true := by kernel_rfl
theorem lnM : lnS M147.fs = true := by kernel_rfl
theorem xM (v a : D) : X 147 [v, a] = dX M147 v a := rfl
theorem sM (v a : D) : side 147 [v, a] = xHG M147 v .nil a := rfl
theorem makeOk : qRA Tryz.prog X side 37 ctrM := by
  refine told_okR (M := M147) (E := dfltE M147) (O := dfltO M147) nm ord (by kernel_rfl) rfl rfl (by kernel_rfl) sM (fun v src hs => ⟨(dflt_ev okM v src hs).1, (dflt_ev okM v src hs).2.trans (xM _ _).symm⟩) (fun v h0 h1 => ?_)
  have h1 : v ≤ 6 := h1
  have h : v = 0 ∨ v = 1 ∨ v = 2 ∨ v = 3 ∨ v = 4 ∨ v = 5 ∨ v = 6 := by omega
  rcases h with rfl | rfl | rfl | rfl | rfl | rfl | rfl
  · exact ⟨CM _, rfl, ctrBOk, mv0⟩
  · exact ⟨CM _, rfl, ctrBOk, mv1⟩
  · exact ⟨CM _, rfl, ctrBOk, mv2⟩
  · exact ⟨CM _, rfl, ctrBOk, mv3⟩
  · exact ⟨CM _, rfl, ctrBOk, mv4⟩
  · exact ⟨CM _, rfl, ctrBOk, mv5⟩
  · exact ⟨CM _, rfl, ctrBOk, mv6⟩
noncomputable def CL : Cfg := ⟨Tryz.prog, fun g => if g = 37 then some ctrM else ctrA g, fun _ _ _ => none⟩
theorem lawRun : yXJ Tryz.prog CL 9 ⟨[.val 5, .val 26], .val 4, 200, false⟩ [] (lawED M147 147) (lawOD M147 147) = true := by kernel_rfl
theorem ctrL : ∀ f c, CL.ctr f = some c → qRA Tryz.prog X side f c := fun f c hc => by
  have hc : (if f = 37 then some ctrM else ctrA f) = some c := hc
  split at hc
  · rename_i h12
    cases hc; subst h12; exact makeOk
  · exact ctrAOk f c hc
theorem lawCalls {ok : Nat → Prop} {w : World} {n : Int} {tv : Value} {d : D} (hn : (Lit.int .u8 n).wf = true) (ht : Rep Tryz.prog ok w 26 tv d) (hok : ∀ b, ok b → b < w.heap.size) (hd : wD d ≤ 1048576) :
    Calls Tryz.prog 9 #[.int .u8 n, tv] w fun e w' => e = .returned (.bool true) ∧ Fr (fun _ => False) w w' :=
  law_callsT (C := CL) rfl nm ord ctrL lawRun (by kernel_rfl) (by kernel_rfl) hn ht hok (fun t he hw hn0 hn1 => by
    subst he
    exact law_okD okM lnM (by kernel_rfl) xM sM n t hn0 hn1 hw (fun _ v _ _ => tellBytes_le okM (Nat.le_trans (WT_wD t) hd) (of_decide_eq_true (by kernel_rfl)) v))
end Go.Proofs
namespace Go.Proofs.YtneeaigimifckaaGreatDoor
open Go.ChangeShapes Go.WideShapes Go.ChangeAt Go.RowKit
open Go Go.Dx Go.Mx
mutual
theorem bulk_all {H : Type} : ∀ l : List (DataW H), (l.map Rows.uptoBulk).sum = Rows.uptoBulkAll l
  | [] => by rw [Rows.uptoBulkAll]; rfl
  | d :: r => by rw [Rows.uptoBulkAll, List.map_cons, List.sum_cons, bulk_all r]
end
theorem bulk_one {H : Type} (d : DataW H) : 1 ≤ Rows.uptoBulk d := by
  cases d with
  | lit l => cases l <;> simp [Rows.uptoBulk]
  | nil => simp [Rows.uptoBulk]
  | ptr d => simp [Rows.uptoBulk]
  | slice elems spare => simp [Rows.uptoBulk]
  | agg parts => simp [Rows.uptoBulk]
  | iface t d => simp [Rows.uptoBulk]
  | map entries => simp [Rows.uptoBulk]
  | held h => simp [Rows.uptoBulk]
theorem bulkOk {H : Type} : Bulk (H := H) Rows.uptoBulk :=
  ⟨bulk_one, fun es sp => by rw [bulk_all, Rows.uptoBulk]; omega, fun ps => by rw [bulk_all, Rows.uptoBulk]; omega⟩
def good : List TypeId := [26, 2, 22, 4, 23, 24, 66, 64, 5]
theorem goodOk : (good.all fun t => okT Tryz.prog good t) = true := by kernel_rfl
theorem goodAll : ∀ t ∈ good, okT Tryz.prog good t = true := List.all_eq_true.1 goodOk
theorem post_of_old {H : Type} {enc : TypeId × Value → H} {P : Program} {f : Func} {s : ChangeSpec} {apart fresh handsOn again : Bool} {W W' : World} {args : Array Value} {v : Value} {ds gs : List (DataW H)} {before pa pv : List MemPlace}
    (hW : DataW.Whole enc P f.params.toList s.vars apart W args.toList ds gs before)
    (hres : ∀ (b : Nat) (sp : Nat → Bool) (hd : Bool), DataW.TrodAll enc P W' b sp hd f.resultTypes.toList (v.resultList f.resultTypes.size) (s.fn H (ds ++ gs)).results [])
    (hargs : ∀ sp : Nat → Bool, (∀ p ∈ before, sp p.block = true) → DataW.TrodAll enc P W' 0 sp true f.params.toList args.toList (s.fn H (ds ++ gs)).args pa)
    (hvars : ∀ sp : Nat → Bool, (∀ p ∈ before, sp p.block = true) → DataW.TrodVars enc P W' sp s.vars (s.fn H (ds ++ gs)).vars pv)
    (hps : before = pa ++ pv) (hk : W.keptBut W' (· ∈ before)) (hfz : ∀ a : Addr, a.block < W.heap.size → W'.frozen? a = W.frozen? a)
    (hok : ∀ (j : Nat) (t : TypeId) (r : Value), f.resultTypes[j]? = some t → (v.resultList f.resultTypes.size)[j]? = some r → Value.okWide P W' .any 0 t r) :
    s.post enc P f apart fresh handsOn again W args v W' := by
  have hlt := hW.lt
  have hold : ∀ p ∈ before, (fun b => decide (b < W.heap.size)) p.block = true := fun p hp => by simpa using hW.lt p hp
  refine ⟨ds, gs, before, [], pa, pv, hW, hres _ _ _, hargs _ hold, hvars _ hold, World.keptBut_mono (fun p hp => ⟨hp, ?_⟩) hk, fun _ => ?_⟩
  · rw [hps, List.mem_append] at hp
    exact Or.inr hp
  · obtain ⟨_, _, _, _, _, hz, hn⟩ := hW
    refine ⟨hok, _, _, ([] ++ pa) ++ pv, ⟨[] ++ pa, pv, trodAll_append (hargs _ (fun _ _ => rfl)) (hres _ _ _), hvars _ (fun _ _ => rfl), rfl, ?_, ?_⟩, ?_⟩
    · intro b off hp
      have hp' : MemPlace.cell b off ∈ before := by rw [hps]; simpa using hp
      rw [hfz _ (by have := hlt _ hp'; simpa [MemPlace.block] using this)]
      exact hz b off hp'
    · intro ha
      have := hn ha
      rw [hps] at this
      simpa using this
    · intro p hp _
      rw [hps]
      simpa using hp
set_option maxRecDepth 100000 in
theorem contract (H : Type) (enc : TypeId × Value → H) (W : World) (base : Nat) (args : Array Value) (ds gs : List (DataW H)) (before : List MemPlace)
    (hval : ∀ (j : Nat) t v, Tryz.f9.params[j]? = some t → args[j]? = some v → Value.okWide Tryz.prog W .any base t v)
    (hW : DataW.Whole enc Tryz.prog Tryz.f9.params.toList Rows.fnDefaultTxnOffsetCommitRequestSpec.vars false W args.toList ds gs before) (hk : Rows.uptoSmall H (ds ++ gs) = true) :
    Calls Tryz.prog 9 args W fun e W' => ∃ v, e = .returned v ∧ Rows.fnDefaultTxnOffsetCommitRequestSpec.post enc Tryz.prog Tryz.f9 false true false false W args v W' := by
  have hW' := hW
  obtain ⟨p, q, hA0, hV, rfl, hfz, hnd⟩ := hW
  have hA : DataW.TrodAll enc Tryz.prog W 0 (fun _ => true) true Tryz.f9.params.toList args.toList ds p := hA0
  rw [Tryz.params9] at hA hval
  obtain ⟨v0, v1, d0, d1, p0, p1, rfl, rfl, rfl, h0, h1⟩ := trodAll_two hA
  obtain ⟨rfl, rfl⟩ := trodVars_none hV
  obtain ⟨a, rfl, rfl, rfl, wa⟩ := open_int Tryz.underlying5 (hval 0 5 v0 rfl rfl) h0
  have hv1 := hval 1 26 v1 rfl rfl
  have h1k := h1
  obtain ⟨fuel, h1⟩ := h1
  obtain ⟨v, d, k1, k2, _, k4⟩ := rep_trod (w := W) bulkOk goodAll (fun _ => rfl) fuel 26 _ _ (by decide) h1
  have hsmall : wD d ≤ 1048576 := by
    simp only [Rows.uptoSmall, decide_eq_true_eq, List.append_nil, Rows.uptoBulkAll] at hk
    have k4 : wD d ≤ Rows.uptoBulk d1 := k4
    omega
  have hagg : agg Tryz.prog 26 = true := by kernel_rfl
  have hvv : v = v1 := by
    obtain ⟨dd, hu, ha⟩ := zOH hagg
    unfold Value.okWide at hv1
    rw [hu] at hv1
    have hcs : ∃ cs, v1 = .agg cs := by
      cases dd <;> simp [zHA] at ha
      · obtain ⟨cs, h, _⟩ := hv1; exact ⟨cs, h⟩
      · obtain ⟨cs, h, _⟩ := hv1; exact ⟨cs, h⟩
    obtain ⟨cs, rfl⟩ := hcs
    obtain ⟨ds', rfl, _, _⟩ := xMF hagg k2
    cases k2 with
    | row _ _ _ _ _ _ => exact congrArg Value.agg (Array.toList_inj.1 k1)
  subst hvv
  clear hA0
  simp only [List.append_nil] at hW'
  refine (Go.Proofs.lawCalls (ok := fun b => b < W.heap.size) wa k2 (fun b hb => hb) hsmall).mono fun e W' ⟨he, hfr⟩ => ?_
  subst he
  have hb : Below W.heap.size W W' := ⟨hfr.os, hfr.tape, hfr.output, hfr.size, fun k hk => hfr.block k hk (fun h => h)⟩
  have hlt : ∀ x ∈ p1, x.block < W.heap.size := fun x hx => by simpa using hW'.lt x (by simpa using hx)
  exact ⟨_, rfl, post_of_old (pa := p1) (pv := []) hW' (fun _ _ _ => trodAll_mk1 (shut_bool Tryz.underlying4 _))
    (fun sp hsp => by
      have := trodAll_mk2 (enc := enc) (P := Tryz.prog) (w := W') (base := 0) (spare := sp) (held := true) (shut_int Tryz.underlying5 wa) (WideElems.Trod_stays laidOut (by kernel_rfl) (of_decide_eq_true (by kernel_rfl)) h1k (fun x hx => hb.same (hlt x hx)) (fun x hx => hsp x (by simpa using hx)))
      rw [List.nil_append] at this
      exact this)
    (fun _ _ => rfl) (by simp) (hb.frame _) (fun a ha => hb.frozen ha) (ok_one (by kernel_rfl) rfl (okWide_bool_mk Tryz.underlying4 _))⟩
set_option maxRecDepth 100000 in
noncomputable def lowB : Nat := (World.holding Tryz.prog default ⟨#[], #[], []⟩).heap.size
def errText : ByteArray := { data := #[114, 101, 115, 112, 111, 110, 115, 101, 32, 100, 105, 100, 32, 110, 111, 116, 32, 99, 111, 110, 116, 97, 105, 110, 32, 101, 110, 111, 117, 103, 104, 32, 100, 97, 116, 97, 32, 116, 111, 32, 98, 101, 32, 118, 97, 108, 105, 100] }
noncomputable def laidWorld (os : Os) : World :=
  let w0 := World.holding Tryz.prog os ⟨#[.cells #[.string errText] 255], #[], []⟩
  { w0 with heap := w0.heap.modify 1 fun
      | .cells _ t frozen => .cells #[.iface 237 (.pointer (some ⟨lowB, 0, none⟩))] t frozen
      | o => o }
def argsW : Array Value := #[.int .u8 0, .agg #[.int .i64 0, .slice none 0 0, .bool false, .slice none 0 0, .slice none 0 0]]
theorem laid_met (os : Os) : laidMet Tryz.prog Rows.fnDefaultTxnOffsetCommitRequestUptoRow.laid ((laidWorld os).forCall (fun _ _ => 0) ⟨#[], argsW, []⟩).memory :=
  laidMet_of_run' 8 (by kernel_rfl) (by kernel_rfl)
theorem reads (os : Os) {H : Type} (enc : TypeId × Value → H) : ∃ places, DataW.whole enc Tryz.prog ((laidWorld os).forCall (fun _ _ => 0) ⟨#[], argsW, []⟩).memory Tryz.f9.params.toList Rows.fnDefaultTxnOffsetCommitRequestSpec.vars false argsW.toList 8 = some ([.lit (.int .u8 0), .agg [.lit (.int .i64 0), .nil, .lit (.bool false), .nil, .nil]], [], places) :=
  ⟨[], by kernel_rfl⟩
set_option maxRecDepth 100000 in
theorem lifted (os : Os) (started : os.Started) (H : Type) (enc : TypeId × Value → H) (F : Stop.Interp) :
    ReturnsInHanded {} Tryz.checked os 9 .any ((Rows.OpenSpec.upto Rows.fnDefaultTxnOffsetCommitRequestSpec).preRow enc Tryz.prog Tryz.f9 Rows.fnDefaultTxnOffsetCommitRequestUptoRow.domain false Rows.fnDefaultTxnOffsetCommitRequestUptoRow.laid) (((Rows.OpenSpec.upto Rows.fnDefaultTxnOffsetCommitRequestSpec).at F).post enc Tryz.prog Tryz.f9 false true false false) := by
  obtain ⟨places, hx⟩ := reads os enc
  refine returnsInHanded_of_row (C := Tryz.checked) (s := Rows.OpenSpec.upto Rows.fnDefaultTxnOffsetCommitRequestSpec) own started (by kernel_rfl) Tryz.func9
    (witness_row_at (enc := enc) (C := Tryz.checked) false (laidWorld os) argsW rfl (by kernel_rfl) (by kernel_rfl) (by kernel_rfl)
      (OpenSpec.preRow_of_cond 8 hx (by kernel_rfl) (fun k hk => by cases hk; kernel_rfl) (by kernel_rfl) (laid_met os))) ?_
  intro W base args ds gs before hval hW _ hcond _ hL _ _
  exact contract H enc W base args ds gs before hval hW (hcond _ rfl)
set_option maxHeartbeats 8000000 in
theorem closedOk : joinedFacts Tryz.prog 9 Tryz.f9 (Rows.OpenSpec.upto Rows.fnDefaultTxnOffsetCommitRequestSpec).bare Rows.fnDefaultTxnOffsetCommitRequestUptoRow = true := by
  unfold joinedFacts
  simp only [Bool.and_eq_true]
  repeat' apply And.intro
  all_goals first
    | with_reducible exact laidOut
    | with_reducible exact mapsOk
    | with_reducible exact heardOk
    | with_reducible exact enterOk
    | with_reducible exact liftsOk
    | (as_aux_lemma => kernel_rfl)
set_option maxHeartbeats 8000000 in
theorem said : Rows.FnDefaultTxnOffsetCommitRequestUptoSaid :=
  OpenClaim.holds_of_cond 9 Tryz.f9 rfl rfl rfl rfl rfl rfl rfl ⟨rfl, rfl, rfl, rfl, rfl⟩ rfl rfl rfl rfl rfl (by as_aux_lemma => kernel_rfl) Tryz.func9 closedOk
    (of_decide_eq_true (by as_aux_lemma => kernel_rfl)) (by unfold Func.isWrapper; first | (rw [if_pos (by decide +kernel)]; kernel_rfl) | (rw [if_neg (by decide +kernel)]; exact ⟨rfl, rfl⟩))
    (fun os started H enc _ F => by rw [OpenClaim.pre_eq_preRow]; exact lifted os started H enc F)
set_option maxHeartbeats 8000000 in
theorem plain (f : FuncId) (fn : Func) (hf : Tryz.pinned.checked.prog.funcNamed "pub-mailsack/laws.FnDefaultTxnOffsetCommitRequest" = some f) (hfn : Tryz.pinned.checked.prog.funcs[f]? = some fn) :
    false = Tryz.pinned.checked.prog.looks [] ∧ ∀ (j : Nat) t, fn.params[j]? = some t → Tryz.pinned.checked.prog.wantsStandIn t = false := by
  obtain rfl : f = 9 := Option.some.inj ((show Tryz.prog.funcNamed "pub-mailsack/laws.FnDefaultTxnOffsetCommitRequest" = some 9 by kernel_rfl).symm.trans hf) |>.symm
  obtain rfl : fn = Tryz.f9 := (Option.some.inj (Tryz.func9.symm.trans hfn)).symm
  refine ⟨by kernel_rfl, fun j t ht => ?_⟩
  rw [Tryz.params9] at ht
  have hm : t = 5 ∨ t = 26 := by simpa using Array.mem_of_getElem? ht
  rcases hm with rfl | rfl
  · exact (show Tryz.prog.wantsStandIn 5 = false by kernel_rfl)
  · exact (show Tryz.prog.wantsStandIn 26 = false by kernel_rfl)
set_option maxHeartbeats 8000000 in
theorem holds : Rows.FnDefaultTxnOffsetCommitRequestUptoCardSaid :=
  Claim7.holds_tied_plain_at .later [] _ _ _ _ said (fun _ h => by cases h) (by as_aux_lemma => kernel_rfl) (fun _ h => by cases h) fnDefaultTxnOffsetCommitRequestUpto_row_tie rfl ⟨rfl, rfl⟩ (by as_aux_lemma => kernel_rfl) rfl plain (by as_aux_lemma => kernel_rfl)
end Go.Proofs.YtneeaigimifckaaGreatDoor
