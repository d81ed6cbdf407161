/- The law FnUnsafeDefaultPrincipalData: what is told of a message read with its octets left where they lie is what is told of it read with copies. -/
import Derived.Test.YtefilhocfegfhaaDoorQ16
import Derived.Test.YtefilhocfegfhaaDoorCards
import Derived.Test.YtefilhocfegfhaaDoorTie
import Derived.ProofKit
import Derived.OpenShut
import Derived.Deep.DeepHandedRow
import Derived.JoinedCond
set_option linter.unusedVariables false
set_option linter.unusedSimpArgs false
noncomputable section
open Go Go.Dx Go.Mx
namespace Go.Proofs
theorem tellOk {f : Nat} (hf : f = 16 ∨ f = 19) (hb : zOE Tryd.prog f = true) : xDA Tryd.prog U.Y qZC f ctrT :=
  tell_okY (U := U) (fU := 19) nm ord rfl (by kernel_rfl) rfl (fun f c h => ctrRunOk f c h) mvY hf hb
def fieldY (k : Int) : DE := .f .mkrow [.k (.int k), .k (.int 0), .k (.int (-1)), .k (.int (-1)), .k (.int (-1)), .k (.int 0), .k (.int 0), .k .nil]
def l60 : List DE := [.f .mkrow [.f .mklist [fieldY 8, fieldY 8, fieldY 0], .k (.int 0)], .k (.int 0), .f .mkrow [.k (.int 0), .k .nil, .k (.bool false), .k .nil, .k .nil]]
def rowY (k : Int) : D := .row [.int k, .int 0, .int (-1), .int (-1), .int (-1), .int 0, .int 0, .nil]
theorem ev60 (Y : Nat → List D → D) (J : List D) : zDA Y l60 J = [.row [.list [rowY 8, rowY 8, rowY 0], .int 0], .int 0, .row [.int 0, .nil, .bool false, .nil, .nil]] := rfl
theorem x60 : X 60 [.row [.list [rowY 8, rowY 8, rowY 0], .int 0], .int 0, .row [.int 0, .nil, .bool false, .nil, .nil]] = .bytes [0, 0, 1, 1, 0, 0] := by kernel_rfl
theorem s60 : side 60 [.row [.list [rowY 8, rowY 8, rowY 0], .int 0], .int 0, .row [.int 0, .nil, .bool false, .nil, .nil]] := ⟨by kernel_rfl, of_decide_eq_true (by kernel_rfl)⟩
noncomputable def CL : Cfg := ⟨Tryd.prog, fun g => if g = 16 then some ctrT else if g = 19 then some ctrT else if g = 14 then some ctrSt else lk g tabK, fun _ _ _ => none⟩
theorem lawRun : qII Tryd.prog CL 4 ⟨[.val 22], .val 4, 200, false⟩ [] (yDK l60) (lawOY l60) = true := by kernel_rfl
theorem ctrL : ∀ f c, CL.ctr f = some c → xDA Tryd.prog U.Y qZC f c := fun f c hc => by
  have hc : (if f = 16 then some ctrT else if f = 19 then some ctrT else if f = 14 then some ctrSt else lk f tabK) = some c := hc
  split at hc
  · rename_i h12; cases hc; subst h12; exact tellOk (.inl rfl) (by kernel_rfl)
  · split at hc
    · rename_i h12; cases hc; subst h12; exact tellOk (.inr rfl) (by kernel_rfl)
    · split at hc
      · rename_i h12; cases hc; subst h12; exact same_okY (U := U) nm ord c14 baseS
      · exact move_okY (U := U) (baseK f c hc).1 (baseK f c hc).2.1 (baseK f c hc).2.2
theorem lawCalls {ok : Nat → Prop} {w : World} {bv : Value} {bd : D} (hb : Rep Tryd.prog ok w 22 bv bd) (hok : ∀ b, ok b → b < w.heap.size)
    (hgl : ∃ t x ty fz, ∃ k : Nat, (1 : Int) = k ∧ w.heap[k]? = some (.cells #[.iface t x] ty fz)) :
    Calls Tryd.prog 4 #[bv] w fun e w' => e = .returned (.bool true) ∧ Fr (fun _ => False) w w' :=
  law_callsY (U := U) (C := CL) rfl nm ord ctrL lawRun (by kernel_rfl) (law_okY mvY ev60 x60 (by decide) s60 (can_okY canY1)) hb hok hgl
end Go.Proofs
namespace Go.Proofs.YtefilhocfegfhaaDoor
open Go.ChangeShapes Go.WideShapes Go.ChangeAt Go.RowKit
open Go Go.Dx Go.Mx
mutual
theorem bulk_all {H : Type} : ∀ l : List (DataW H), (l.map Rows.uptoBulk).sum = Rows.uptoBulkAll l
  | [] => by rw [Rows.uptoBulkAll]; rfl
  | d :: r => by rw [Rows.uptoBulkAll, List.map_cons, List.sum_cons, bulk_all r]
end
theorem bulk_one {H : Type} (d : DataW H) : 1 ≤ Rows.uptoBulk d := by
  cases d with
  | lit l => cases l <;> simp [Rows.uptoBulk]
  | nil => simp [Rows.uptoBulk]
  | ptr d => simp [Rows.uptoBulk]
  | slice elems spare => simp [Rows.uptoBulk]
  | agg parts => simp [Rows.uptoBulk]
  | iface t d => simp [Rows.uptoBulk]
  | map entries => simp [Rows.uptoBulk]
  | held h => simp [Rows.uptoBulk]
theorem bulkOk {H : Type} : Bulk (H := H) Rows.uptoBulk :=
  ⟨bulk_one, fun es sp => by rw [bulk_all, Rows.uptoBulk]; omega, fun ps => by rw [bulk_all, Rows.uptoBulk]; omega⟩
def good : List TypeId := [22, 5]
theorem goodOk : (good.all fun t => okT Tryd.prog good t) = true := by kernel_rfl
theorem goodAll : ∀ t ∈ good, okT Tryd.prog good t = true := List.all_eq_true.1 goodOk
theorem post_of_old {H : Type} {enc : TypeId × Value → H} {P : Program} {f : Func} {s : ChangeSpec} {apart fresh handsOn again : Bool} {W W' : World} {args : Array Value} {v : Value} {ds gs : List (DataW H)} {before pa pv : List MemPlace}
    (hW : DataW.Whole enc P f.params.toList s.vars apart W args.toList ds gs before)
    (hres : ∀ (b : Nat) (sp : Nat → Bool) (hd : Bool), DataW.TrodAll enc P W' b sp hd f.resultTypes.toList (v.resultList f.resultTypes.size) (s.fn H (ds ++ gs)).results [])
    (hargs : ∀ sp : Nat → Bool, (∀ p ∈ before, sp p.block = true) → DataW.TrodAll enc P W' 0 sp true f.params.toList args.toList (s.fn H (ds ++ gs)).args pa)
    (hvars : ∀ sp : Nat → Bool, (∀ p ∈ before, sp p.block = true) → DataW.TrodVars enc P W' sp s.vars (s.fn H (ds ++ gs)).vars pv)
    (hps : before = pa ++ pv) (hk : W.keptBut W' (· ∈ before)) (hfz : ∀ a : Addr, a.block < W.heap.size → W'.frozen? a = W.frozen? a)
    (hok : ∀ (j : Nat) (t : TypeId) (r : Value), f.resultTypes[j]? = some t → (v.resultList f.resultTypes.size)[j]? = some r → Value.okWide P W' .any 0 t r) :
    s.post enc P f apart fresh handsOn again W args v W' := by
  have hlt := hW.lt
  have hold : ∀ p ∈ before, (fun b => decide (b < W.heap.size)) p.block = true := fun p hp => by simpa using hW.lt p hp
  refine ⟨ds, gs, before, [], pa, pv, hW, hres _ _ _, hargs _ hold, hvars _ hold, World.keptBut_mono (fun p hp => ⟨hp, ?_⟩) hk, fun _ => ?_⟩
  · rw [hps, List.mem_append] at hp
    exact Or.inr hp
  · obtain ⟨_, _, _, _, _, hz, hn⟩ := hW
    refine ⟨hok, _, _, ([] ++ pa) ++ pv, ⟨[] ++ pa, pv, trodAll_append (hargs _ (fun _ _ => rfl)) (hres _ _ _), hvars _ (fun _ _ => rfl), rfl, ?_, ?_⟩, ?_⟩
    · intro b off hp
      have hp' : MemPlace.cell b off ∈ before := by rw [hps]; simpa using hp
      rw [hfz _ (by have := hlt _ hp'; simpa [MemPlace.block] using this)]
      exact hz b off hp'
    · intro ha
      have := hn ha
      rw [hps] at this
      simpa using this
    · intro p hp _
      rw [hps]
      simpa using hp
set_option maxRecDepth 100000 in
theorem contract (H : Type) (enc : TypeId × Value → H) (W : World) (base : Nat) (args : Array Value) (ds gs : List (DataW H)) (before : List MemPlace)
    (hval : ∀ (j : Nat) t v, Tryd.f4.params[j]? = some t → args[j]? = some v → Value.okWide Tryd.prog W .any base t v)
    (hW : DataW.Whole enc Tryd.prog Tryd.f4.params.toList Rows.fnUnsafeDefaultPrincipalDataSpec.vars false W args.toList ds gs before) (hL : laidMetH Tryd.prog Rows.fnUnsafeDefaultPrincipalDataUptoRow.laid W) :
    Calls Tryd.prog 4 args W fun e W' => ∃ v, e = .returned v ∧ Rows.fnUnsafeDefaultPrincipalDataSpec.post enc Tryd.prog Tryd.f4 false true false false W args v W' := by
  have hgl := laid_gl hL (List.mem_cons_self) (by rfl) (g := 1) (by kernel_rfl)
  have hW' := hW
  obtain ⟨p, q, hA0, hV, rfl, hfz, hnd⟩ := hW
  have hA : DataW.TrodAll enc Tryd.prog W 0 (fun _ => true) true Tryd.f4.params.toList args.toList ds p := hA0
  rw [Tryd.params4] at hA hval
  obtain ⟨vb, db, rfl, rfl, hb0⟩ := trodAll_one hA
  obtain ⟨rfl, rfl⟩ := trodVars_none hV
  obtain ⟨sa, sl, sc, rfl⟩ := okWide_slice Tryd.underlying22 (hval 0 22 vb rfl rfl)
  have hb0k := hb0
  obtain ⟨fuelb, hb0⟩ := hb0
  obtain ⟨ub, bd, b1, b2, b3, b4⟩ := rep_trod (w := W) bulkOk goodAll (fun _ => rfl) fuelb 22 _ _ (by decide) hb0
  have hub : ub = .slice sa sl sc := by
    have e := b3 (by kernel_rfl)
    have e2 : (Value.slice sa sl sc).cells.toList = [.slice sa sl sc] := rfl
    rw [e2] at e
    exact ((List.cons.inj e).1).symm
  subst hub
  clear hA0
  simp only [List.append_nil] at hW'
  refine (Go.Proofs.lawCalls (ok := fun b => b < W.heap.size) b2 (fun b hb => hb) hgl).mono fun e W' ⟨he, hfr⟩ => ?_
  subst he
  have hb : Below W.heap.size W W' := ⟨hfr.os, hfr.tape, hfr.output, hfr.size, fun k hk => hfr.block k hk (fun h => h)⟩
  have hlt : ∀ x ∈ p, x.block < W.heap.size := fun x hx => by simpa using hW'.lt x (by simpa using hx)
  exact ⟨_, rfl, post_of_old (pa := p) (pv := []) hW' (fun _ _ _ => trodAll_mk1 (shut_bool Tryd.underlying4 _))
    (fun sp hsp => trodAll_mk1 (WideElems.Trod_stays laidOut (by kernel_rfl) (of_decide_eq_true (by kernel_rfl)) hb0k (fun x hx => hb.same (hlt x hx)) (fun x hx => hsp x (by simpa using hx))))
    (fun _ _ => rfl) (by simp) (hb.frame _) (fun a ha => hb.frozen ha) (ok_one (by kernel_rfl) rfl (okWide_bool_mk Tryd.underlying4 _))⟩
set_option maxRecDepth 100000 in
noncomputable def lowB : Nat := (World.holding Tryd.prog default ⟨#[], #[], []⟩).heap.size
def errText : ByteArray := { data := #[114, 101, 115, 112, 111, 110, 115, 101, 32, 100, 105, 100, 32, 110, 111, 116, 32, 99, 111, 110, 116, 97, 105, 110, 32, 101, 110, 111, 117, 103, 104, 32, 100, 97, 116, 97, 32, 116, 111, 32, 98, 101, 32, 118, 97, 108, 105, 100] }
noncomputable def laidWorld (os : Os) : World :=
  let w0 := World.holding Tryd.prog os ⟨#[.cells #[.string errText] 247], #[], []⟩
  { w0 with heap := w0.heap.modify 1 fun
      | .cells _ t frozen => .cells #[.iface 229 (.pointer (some ⟨lowB, 0, none⟩))] t frozen
      | o => o }
def argsW : Array Value := #[.slice none 0 0]
theorem laid_met (os : Os) : laidMet Tryd.prog Rows.fnUnsafeDefaultPrincipalDataUptoRow.laid ((laidWorld os).forCall (fun _ _ => 0) ⟨#[], argsW, []⟩).memory :=
  laidMet_of_run' 8 (by kernel_rfl) (by kernel_rfl)
theorem reads (os : Os) {H : Type} (enc : TypeId × Value → H) : ∃ places, DataW.whole enc Tryd.prog ((laidWorld os).forCall (fun _ _ => 0) ⟨#[], argsW, []⟩).memory Tryd.f4.params.toList Rows.fnUnsafeDefaultPrincipalDataSpec.vars false argsW.toList 8 = some ([.nil], [], places) :=
  ⟨[], by kernel_rfl⟩
set_option maxRecDepth 100000 in
theorem lifted (os : Os) (started : os.Started) (H : Type) (enc : TypeId × Value → H) (F : Stop.Interp) :
    ReturnsInHanded {} Tryd.checked os 4 .any ((Rows.OpenSpec.upto Rows.fnUnsafeDefaultPrincipalDataSpec).preRow enc Tryd.prog Tryd.f4 Rows.fnUnsafeDefaultPrincipalDataUptoRow.domain false Rows.fnUnsafeDefaultPrincipalDataUptoRow.laid) (((Rows.OpenSpec.upto Rows.fnUnsafeDefaultPrincipalDataSpec).at F).post enc Tryd.prog Tryd.f4 false true false false) := by
  obtain ⟨places, hx⟩ := reads os enc
  refine returnsInHanded_of_row (C := Tryd.checked) (s := Rows.OpenSpec.upto Rows.fnUnsafeDefaultPrincipalDataSpec) own started (by kernel_rfl) Tryd.func4
    (witness_row_at (enc := enc) (C := Tryd.checked) false (laidWorld os) argsW rfl (by kernel_rfl) (by kernel_rfl) (by kernel_rfl)
      (OpenSpec.preRow_of_cond 8 hx (by kernel_rfl) (fun k hk => by cases hk; kernel_rfl) (by kernel_rfl) (laid_met os))) ?_
  intro W base args ds gs before hval hW _ hcond _ hL _ _
  exact contract H enc W base args ds gs before hval hW hL
set_option maxHeartbeats 8000000 in
theorem closedOk : joinedFacts Tryd.prog 4 Tryd.f4 (Rows.OpenSpec.upto Rows.fnUnsafeDefaultPrincipalDataSpec).bare Rows.fnUnsafeDefaultPrincipalDataUptoRow = true := by
  unfold joinedFacts
  simp only [Bool.and_eq_true]
  repeat' apply And.intro
  all_goals first
    | with_reducible exact laidOut
    | with_reducible exact mapsOk
    | with_reducible exact heardOk
    | with_reducible exact enterOk
    | with_reducible exact liftsOk
    | (as_aux_lemma => kernel_rfl)
set_option maxHeartbeats 8000000 in
theorem said : Rows.FnUnsafeDefaultPrincipalDataUptoSaid :=
  OpenClaim.holds_of_cond 4 Tryd.f4 rfl rfl rfl rfl rfl rfl rfl ⟨rfl, rfl, rfl, rfl, rfl⟩ rfl rfl rfl rfl rfl (by as_aux_lemma => kernel_rfl) Tryd.func4 closedOk
    (of_decide_eq_true (by as_aux_lemma => kernel_rfl)) (by unfold Func.isWrapper; first | (rw [if_pos (by decide +kernel)]; kernel_rfl) | (rw [if_neg (by decide +kernel)]; exact ⟨rfl, rfl⟩))
    (fun os started H enc _ F => by rw [OpenClaim.pre_eq_preRow]; exact lifted os started H enc F)
set_option maxHeartbeats 8000000 in
theorem plain (f : FuncId) (fn : Func) (hf : Tryd.pinned.checked.prog.funcNamed "pub-mailsack/laws.FnUnsafeDefaultPrincipalData" = some f) (hfn : Tryd.pinned.checked.prog.funcs[f]? = some fn) :
    false = Tryd.pinned.checked.prog.looks [] ∧ ∀ (j : Nat) t, fn.params[j]? = some t → Tryd.pinned.checked.prog.wantsStandIn t = false := by
  obtain rfl : f = 4 := Option.some.inj ((show Tryd.prog.funcNamed "pub-mailsack/laws.FnUnsafeDefaultPrincipalData" = some 4 by kernel_rfl).symm.trans hf) |>.symm
  obtain rfl : fn = Tryd.f4 := (Option.some.inj (Tryd.func4.symm.trans hfn)).symm
  refine ⟨by kernel_rfl, fun j t ht => ?_⟩
  rw [Tryd.params4] at ht
  obtain rfl : t = 22 := by simpa using Array.mem_of_getElem? ht
  exact (show Tryd.prog.wantsStandIn 22 = false by kernel_rfl)
set_option maxHeartbeats 8000000 in
theorem holds : Rows.FnUnsafeDefaultPrincipalDataUptoCardSaid :=
  Claim7.holds_tied_plain_at .later [] _ _ _ _ said (fun _ h => by cases h) (by as_aux_lemma => kernel_rfl) (fun _ h => by cases h) fnUnsafeDefaultPrincipalDataUpto_row_tie rfl ⟨rfl, rfl⟩ (by as_aux_lemma => kernel_rfl) rfl plain (by as_aux_lemma => kernel_rfl)
end Go.Proofs.YtefilhocfegfhaaDoor
