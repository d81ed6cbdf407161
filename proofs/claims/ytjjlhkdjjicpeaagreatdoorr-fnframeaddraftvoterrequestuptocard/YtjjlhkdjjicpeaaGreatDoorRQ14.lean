/- The law FnFrameAddRaftVoterRequest, where what comes in holds at most 1048576 values and letters. -/
import Derived.Test.YtjjlhkdjjicpeaaGreatDoorRQ13
import Derived.Test.YtjjlhkdjjicpeaaGreatDoorRCards
import Derived.Test.YtjjlhkdjjicpeaaGreatDoorRTie
import Derived.ProofKit
import Derived.OpenShut
import Derived.Carry
import Derived.Deep.DeepHandedRow
import Derived.JoinedCond
set_option linter.unusedVariables false
set_option linter.unusedSimpArgs false
open Go Go.Dx Go.Mx
namespace Go.Proofs
def ctrM : Ctr := ⟨[.val 23, .val 21, .val 3, .val 24], .ownT 24, 160, true⟩
def hF : List (Nat × Nat × Nat × Hint) := [(60, 999998, 0, ([], 0)), (9, 999998, 0, ([], 0)), (20, 999997, 0, ([], 0))]
noncomputable def CM (h : List (Nat × Nat × Nat × Hint)) : Cfg := ⟨Tryz.prog, ctrA, lookH (hF ++ h)⟩
def h0 : List (Nat × Nat × Nat × Hint) := []
theorem mv0 : zTJ Tryz.prog (CM h0) 18 ctrM [(2, 0)] (frE M160 80 0) (frO M160 80 0) = true := by kernel_rfl
theorem mv1 : zTJ Tryz.prog (CM h0) 18 ctrM [(2, 1)] (frE M160 80 1) (frO M160 80 1) = true := by kernel_rfl
theorem okM : okB M160 = true := by kernel_rfl
theorem xM (i n v a : D) : X 160 [i, n, v, a] = fX M160 80 i n v a := rfl
theorem sM (i n v a : D) : side 160 [i, n, v, a] = yVG M160 i n v a := rfl
theorem makeOk : qRA Tryz.prog X side 18 ctrM := by
  refine frame_okR (M := M160) (key := 80) nm ord (by kernel_rfl) rfl rfl (by kernel_rfl) sM xM okM (fun v h0 h1 => ?_)
  have h1 : v ≤ 1 := h1
  have h : v = 0 ∨ v = 1 := by omega
  rcases h with rfl | rfl
  · exact ⟨CM _, rfl, ctrAOk, mv0⟩
  · exact ⟨CM _, rfl, ctrAOk, mv1⟩
noncomputable def CL : Cfg := ⟨Tryz.prog, fun g => if g = 18 then some ctrM else ctrA g, fun _ _ _ => none⟩
theorem lawRun : zTJ Tryz.prog CL 3 ⟨[.val 5, .val 23, .val 21, .val 28], .val 4, 200, false⟩ [] (lawEF M160 80 160) (lawOF M160 80 160) = true := by kernel_rfl
theorem ctrL : ∀ f c, CL.ctr f = some c → qRA Tryz.prog X side f c := fun f c hc => by
  have hc : (if f = 18 then some ctrM else ctrA f) = some c := hc
  split at hc
  · rename_i h12
    cases hc; subst h12; exact makeOk
  · exact ctrAOk f c hc
theorem lawCalls {ok : Nat → Prop} {w : World} {n num : Int} {iv tv : Value} {id d : D} (hn : (Lit.int .u8 n).wf = true) (hnum : (Lit.int .i32 num).wf = true) (hid : Rep Tryz.prog ok w 23 iv id) (ht : Rep Tryz.prog ok w 28 tv d) (hok : ∀ b, ok b → b < w.heap.size) (hd : wD d ≤ 1048576) :
    Calls Tryz.prog 3 #[.int .u8 n, iv, .int .i32 num, tv] w fun e w' => e = .returned (.bool true) ∧ Fr (fun _ => False) w w' :=
  law_callsF (C := CL) rfl nm ord ctrL lawRun (by kernel_rfl) (by kernel_rfl) (by kernel_rfl) (by kernel_rfl) hn hnum hid ht hok (fun t has s he hi hw hn0 hn1 => by
    subst he; subst hi
    exact law_okF okM (by decide) xM sM n has s num t hn0 hn1 hw (fun _ v _ _ => frameBytes_le okM (Nat.le_trans (WT_wD t) hd) (of_decide_eq_true (by kernel_rfl)) v))
end Go.Proofs
namespace Go.Proofs.YtjjlhkdjjicpeaaGreatDoorR
open Go.ChangeShapes Go.WideShapes Go.ChangeAt Go.RowKit
open Go Go.Dx Go.Mx
mutual
theorem bulk_all {H : Type} : ∀ l : List (DataW H), (l.map Rows.uptoBulk).sum = Rows.uptoBulkAll l
  | [] => by rw [Rows.uptoBulkAll]; rfl
  | d :: r => by rw [Rows.uptoBulkAll, List.map_cons, List.sum_cons, bulk_all r]
end
theorem bulk_one {H : Type} (d : DataW H) : 1 ≤ Rows.uptoBulk d := by
  cases d with
  | lit l => cases l <;> simp [Rows.uptoBulk]
  | nil => simp [Rows.uptoBulk]
  | ptr d => simp [Rows.uptoBulk]
  | slice elems spare => simp [Rows.uptoBulk]
  | agg parts => simp [Rows.uptoBulk]
  | iface t d => simp [Rows.uptoBulk]
  | map entries => simp [Rows.uptoBulk]
  | held h => simp [Rows.uptoBulk]
theorem bulkOk {H : Type} : Bulk (H := H) Rows.uptoBulk :=
  ⟨bulk_one, fun es sp => by rw [bulk_all, Rows.uptoBulk]; omega, fun ps => by rw [bulk_all, Rows.uptoBulk]; omega⟩
def good : List TypeId := [28, 2, 24, 4, 25, 26, 77, 75, 5, 23, 9, 21]
theorem goodOk : (good.all fun t => okT Tryz.prog good t) = true := by kernel_rfl
theorem goodAll : ∀ t ∈ good, okT Tryz.prog good t = true := List.all_eq_true.1 goodOk
theorem post_of_old {H : Type} {enc : TypeId × Value → H} {P : Program} {f : Func} {s : ChangeSpec} {apart fresh handsOn again : Bool} {W W' : World} {args : Array Value} {v : Value} {ds gs : List (DataW H)} {before pa pv : List MemPlace}
    (hW : DataW.Whole enc P f.params.toList s.vars apart W args.toList ds gs before)
    (hres : ∀ (b : Nat) (sp : Nat → Bool) (hd : Bool), DataW.TrodAll enc P W' b sp hd f.resultTypes.toList (v.resultList f.resultTypes.size) (s.fn H (ds ++ gs)).results [])
    (hargs : ∀ sp : Nat → Bool, (∀ p ∈ before, sp p.block = true) → DataW.TrodAll enc P W' 0 sp true f.params.toList args.toList (s.fn H (ds ++ gs)).args pa)
    (hvars : ∀ sp : Nat → Bool, (∀ p ∈ before, sp p.block = true) → DataW.TrodVars enc P W' sp s.vars (s.fn H (ds ++ gs)).vars pv)
    (hps : before = pa ++ pv) (hk : W.keptBut W' (· ∈ before)) (hfz : ∀ a : Addr, a.block < W.heap.size → W'.frozen? a = W.frozen? a)
    (hok : ∀ (j : Nat) (t : TypeId) (r : Value), f.resultTypes[j]? = some t → (v.resultList f.resultTypes.size)[j]? = some r → Value.okWide P W' .any 0 t r) :
    s.post enc P f apart fresh handsOn again W args v W' := by
  have hlt := hW.lt
  have hold : ∀ p ∈ before, (fun b => decide (b < W.heap.size)) p.block = true := fun p hp => by simpa using hW.lt p hp
  refine ⟨ds, gs, before, [], pa, pv, hW, hres _ _ _, hargs _ hold, hvars _ hold, World.keptBut_mono (fun p hp => ⟨hp, ?_⟩) hk, fun _ => ?_⟩
  · rw [hps, List.mem_append] at hp
    exact Or.inr hp
  · obtain ⟨_, _, _, _, _, hz, hn⟩ := hW
    refine ⟨hok, _, _, ([] ++ pa) ++ pv, ⟨[] ++ pa, pv, trodAll_append (hargs _ (fun _ _ => rfl)) (hres _ _ _), hvars _ (fun _ _ => rfl), rfl, ?_, ?_⟩, ?_⟩
    · intro b off hp
      have hp' : MemPlace.cell b off ∈ before := by rw [hps]; simpa using hp
      rw [hfz _ (by have := hlt _ hp'; simpa [MemPlace.block] using this)]
      exact hz b off hp'
    · intro ha
      have := hn ha
      rw [hps] at this
      simpa using this
    · intro p hp _
      rw [hps]
      simpa using hp
theorem aggSame {P : Program} {ok : Nat → Prop} {W : World} {base : Nat} {t : TypeId} {v v1 : Value} {d : D} (hagg : agg P t = true) (hv1 : Value.okWide P W .any base t v1) (k1 : v.cells.toList = v1.cells.toList) (k2 : Rep P ok W t v d) : v = v1 := by
  obtain ⟨dd, hu, ha⟩ := qQG hagg
  unfold Value.okWide at hv1
  rw [hu] at hv1
  have hcs : ∃ cs, v1 = .agg cs := by
    cases dd <;> simp [zGA] at ha
    · obtain ⟨cs, h, _⟩ := hv1; exact ⟨cs, h⟩
    · obtain ⟨cs, h, _⟩ := hv1; exact ⟨cs, h⟩
  obtain ⟨cs, rfl⟩ := hcs
  obtain ⟨ds', rfl, _, _⟩ := xEE hagg k2
  cases k2 with
  | row _ _ _ _ _ _ => exact congrArg Value.agg (Array.toList_inj.1 k1)
set_option maxRecDepth 100000 in
theorem contract (H : Type) (enc : TypeId × Value → H) (W : World) (base : Nat) (args : Array Value) (ds gs : List (DataW H)) (before : List MemPlace)
    (hval : ∀ (j : Nat) t v, Tryz.f3.params[j]? = some t → args[j]? = some v → Value.okWide Tryz.prog W .any base t v)
    (hW : DataW.Whole enc Tryz.prog Tryz.f3.params.toList Rows.fnFrameAddRaftVoterRequestSpec.vars false W args.toList ds gs before) (hk : Rows.uptoSmall H (ds ++ gs) = true) :
    Calls Tryz.prog 3 args W fun e W' => ∃ v, e = .returned v ∧ Rows.fnFrameAddRaftVoterRequestSpec.post enc Tryz.prog Tryz.f3 false true false false W args v W' := by
  have hW' := hW
  obtain ⟨p, q, hA0, hV, rfl, hfz, hnd⟩ := hW
  have hA : DataW.TrodAll enc Tryz.prog W 0 (fun _ => true) true Tryz.f3.params.toList args.toList ds p := hA0
  rw [Tryz.params3] at hA hval
  obtain ⟨v0, vi, vn, v1, d0, di, dn, d1, p0, pi, pn, p1, rfl, rfl, rfl, h0, hi0, hn0, h1⟩ := trodAll_four hA
  obtain ⟨rfl, rfl⟩ := trodVars_none hV
  obtain ⟨a, rfl, rfl, rfl, wa⟩ := open_int Tryz.underlying5 (hval 0 5 v0 rfl rfl) h0
  obtain ⟨z, rfl, rfl, rfl, wz⟩ := open_int Tryz.underlying21 (hval 2 21 vn rfl rfl) hn0
  have hvi := hval 1 23 vi rfl rfl
  have hv1 := hval 3 28 v1 rfl rfl
  have h1k := h1
  obtain ⟨fuel, h1⟩ := h1
  obtain ⟨v, d, k1, k2, _, k4⟩ := rep_trod (w := W) bulkOk goodAll (fun _ => rfl) fuel 28 _ _ (by decide) h1
  have hsmall : wD d ≤ 1048576 := by
    simp only [Rows.uptoSmall, decide_eq_true_eq, List.append_nil, Rows.uptoBulkAll] at hk
    have k4 : wD d ≤ Rows.uptoBulk d1 := k4
    omega
  have hi0k := hi0
  obtain ⟨fueli, hi0⟩ := hi0
  obtain ⟨ui, idd, b1, b2, _, _⟩ := rep_trod (w := W) bulkOk goodAll (fun _ => rfl) fueli 23 _ _ (by decide) hi0
  obtain rfl : v = v1 := aggSame (by kernel_rfl) hv1 k1 k2
  obtain rfl : ui = vi := aggSame (by kernel_rfl) hvi b1 b2
  clear hA0
  simp only [List.append_nil, List.nil_append] at hW'
  refine (Go.Proofs.lawCalls (ok := fun b => b < W.heap.size) wa wz b2 k2 (fun b hb => hb) hsmall).mono fun e W' ⟨he, hfr⟩ => ?_
  subst he
  have hb : Below W.heap.size W W' := ⟨hfr.os, hfr.tape, hfr.output, hfr.size, fun k hk => hfr.block k hk (fun h => h)⟩
  have hlti : ∀ x ∈ pi, x.block < W.heap.size := fun x hx => by simpa using hW'.lt x (by simp [hx])
  have hlt : ∀ x ∈ p1, x.block < W.heap.size := fun x hx => by simpa using hW'.lt x (by simp [hx])
  exact ⟨_, rfl, post_of_old (pa := pi ++ p1) (pv := []) hW' (fun _ _ _ => trodAll_mk1 (shut_bool Tryz.underlying4 _))
    (fun sp hsp => by
      have := trodAll_mk4 (enc := enc) (P := Tryz.prog) (w := W') (base := 0) (spare := sp) (held := true) (shut_int Tryz.underlying5 wa) (WideElems.Trod_stays laidOut (by kernel_rfl) (of_decide_eq_true (by kernel_rfl)) hi0k (fun x hx => hb.same (hlti x hx)) (fun x hx => hsp x (by simp [hx]))) (shut_int Tryz.underlying21 wz) (WideElems.Trod_stays laidOut (by kernel_rfl) (of_decide_eq_true (by kernel_rfl)) h1k (fun x hx => hb.same (hlt x hx)) (fun x hx => hsp x (by simp [hx])))
      simp only [List.nil_append] at this
      exact this)
    (fun _ _ => rfl) (by simp) (hb.frame _) (fun a ha => hb.frozen ha) (ok_one (by kernel_rfl) rfl (okWide_bool_mk Tryz.underlying4 _))⟩
set_option maxRecDepth 100000 in
noncomputable def lowB : Nat := (World.holding Tryz.prog default ⟨#[], #[], []⟩).heap.size
def errText : ByteArray := { data := #[114, 101, 115, 112, 111, 110, 115, 101, 32, 100, 105, 100, 32, 110, 111, 116, 32, 99, 111, 110, 116, 97, 105, 110, 32, 101, 110, 111, 117, 103, 104, 32, 100, 97, 116, 97, 32, 116, 111, 32, 98, 101, 32, 118, 97, 108, 105, 100] }
noncomputable def laidWorld (os : Os) : World :=
  let w0 := World.holding Tryz.prog os ⟨#[.cells #[.string errText] 262], #[], []⟩
  { w0 with heap := w0.heap.modify 1 fun
      | .cells _ t frozen => .cells #[.iface 200 (.pointer (some ⟨lowB, 0, none⟩))] t frozen
      | o => o }
def argsW : Array Value := #[.int .u8 0, .agg #[.bool false, .string ⟨#[]⟩], .int .i32 0, .agg #[.int .i64 0, .slice none 0 0, .bool false, .slice none 0 0, .slice none 0 0]]
theorem laid_met (os : Os) : laidMet Tryz.prog Rows.fnFrameAddRaftVoterRequestUptoRow.laid ((laidWorld os).forCall (fun _ _ => 0) ⟨#[], argsW, []⟩).memory :=
  laidMet_of_run' 8 (by kernel_rfl) (by kernel_rfl)
theorem reads (os : Os) {H : Type} (enc : TypeId × Value → H) : ∃ places, DataW.whole enc Tryz.prog ((laidWorld os).forCall (fun _ _ => 0) ⟨#[], argsW, []⟩).memory Tryz.f3.params.toList Rows.fnFrameAddRaftVoterRequestSpec.vars false argsW.toList 8 = some ([.lit (.int .u8 0), .agg [.lit (.bool false), .lit (.string [])], .lit (.int .i32 0), .agg [.lit (.int .i64 0), .nil, .lit (.bool false), .nil, .nil]], [], places) :=
  ⟨[], by kernel_rfl⟩
set_option maxRecDepth 100000 in
theorem lifted (os : Os) (started : os.Started) (H : Type) (enc : TypeId × Value → H) (F : Stop.Interp) :
    ReturnsInHanded {} Tryz.checked os 3 .any ((Rows.OpenSpec.upto Rows.fnFrameAddRaftVoterRequestSpec).preRow enc Tryz.prog Tryz.f3 Rows.fnFrameAddRaftVoterRequestUptoRow.domain false Rows.fnFrameAddRaftVoterRequestUptoRow.laid) (((Rows.OpenSpec.upto Rows.fnFrameAddRaftVoterRequestSpec).at F).post enc Tryz.prog Tryz.f3 false true false false) := by
  obtain ⟨places, hx⟩ := reads os enc
  refine returnsInHanded_of_row (C := Tryz.checked) (s := Rows.OpenSpec.upto Rows.fnFrameAddRaftVoterRequestSpec) own started (by kernel_rfl) Tryz.func3
    (witness_row_at (enc := enc) (C := Tryz.checked) false (laidWorld os) argsW rfl (by kernel_rfl) (by kernel_rfl) (by kernel_rfl)
      (OpenSpec.preRow_of_cond 8 hx (by kernel_rfl) (fun k hk => by cases hk; kernel_rfl) (by kernel_rfl) (laid_met os))) ?_
  intro W base args ds gs before hval hW _ hcond _ hL _ _
  exact contract H enc W base args ds gs before hval hW (hcond _ rfl)
set_option maxHeartbeats 8000000 in
theorem closedOk : joinedFacts Tryz.prog 3 Tryz.f3 (Rows.OpenSpec.upto Rows.fnFrameAddRaftVoterRequestSpec).bare Rows.fnFrameAddRaftVoterRequestUptoRow = true := by
  unfold joinedFacts
  simp only [Bool.and_eq_true]
  repeat' apply And.intro
  all_goals first
    | with_reducible exact laidOut
    | with_reducible exact mapsOk
    | with_reducible exact heardOk
    | with_reducible exact enterOk
    | with_reducible exact liftsOk
    | (as_aux_lemma => kernel_rfl)
set_option maxHeartbeats 8000000 in
theorem said : Rows.FnFrameAddRaftVoterRequestUptoSaid :=
  OpenClaim.holds_of_cond 3 Tryz.f3 rfl rfl rfl rfl rfl rfl rfl ⟨rfl, rfl, rfl, rfl, rfl⟩ rfl rfl rfl rfl rfl (by as_aux_lemma => kernel_rfl) Tryz.func3 closedOk
    (of_decide_eq_true (by as_aux_lemma => kernel_rfl)) (by unfold Func.isWrapper; first | (rw [if_pos (by decide +kernel)]; kernel_rfl) | (rw [if_neg (by decide +kernel)]; exact ⟨rfl, rfl⟩))
    (fun os started H enc _ F => by rw [OpenClaim.pre_eq_preRow]; exact lifted os started H enc F)
set_option maxHeartbeats 8000000 in
theorem plain (f : FuncId) (fn : Func) (hf : Tryz.pinned.checked.prog.funcNamed "pub-mailsack/laws.FnFrameAddRaftVoterRequest" = some f) (hfn : Tryz.pinned.checked.prog.funcs[f]? = some fn) :
    false = Tryz.pinned.checked.prog.looks [] ∧ ∀ (j : Nat) t, fn.params[j]? = some t → Tryz.pinned.checked.prog.wantsStandIn t = false := by
  obtain rfl : f = 3 := Option.some.inj ((show Tryz.prog.funcNamed "pub-mailsack/laws.FnFrameAddRaftVoterRequest" = some 3 by kernel_rfl).symm.trans hf) |>.symm
  obtain rfl : fn = Tryz.f3 := (Option.some.inj (Tryz.func3.symm.trans hfn)).symm
  refine ⟨by kernel_rfl, fun j t ht => ?_⟩
  rw [Tryz.params3] at ht
  have hm : t = 5 ∨ t = 23 ∨ t = 21 ∨ t = 28 := by simpa using Array.mem_of_getElem? ht
  rcases hm with rfl | rfl | rfl | rfl
  · exact (show Tryz.prog.wantsStandIn 5 = false by kernel_rfl)
  · exact (show Tryz.prog.wantsStandIn 23 = false by kernel_rfl)
  · exact (show Tryz.prog.wantsStandIn 21 = false by kernel_rfl)
  · exact (show Tryz.prog.wantsStandIn 28 = false by kernel_rfl)
set_option maxHeartbeats 8000000 in
theorem holds : Rows.FnFrameAddRaftVoterRequestUptoCardSaid :=
  Claim7.holds_tied_plain_at .later [] _ _ _ _ said (fun _ h => by cases h) (by as_aux_lemma => kernel_rfl) (fun _ h => by cases h) fnFrameAddRaftVoterRequestUpto_row_tie rfl ⟨rfl, rfl⟩ (by as_aux_lemma => kernel_rfl) rfl plain (by as_aux_lemma => kernel_rfl)
end Go.Proofs.YtjjlhkdjjicpeaaGreatDoorR
