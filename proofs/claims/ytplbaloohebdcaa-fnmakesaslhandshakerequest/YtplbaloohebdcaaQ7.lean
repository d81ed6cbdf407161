/- Part of a verified symbolic run of the program's code (no condition of its own). -/
import Derived.Test.YtplbaloohebdcaaQ6
import Derived.Test.YtplbaloohebdcaaRows
import Derived.ProofKit
set_option linter.unusedVariables false
set_option linter.unusedSimpArgs false
namespace Go.Proofs.Ytplbaloohebdcaa
open Go.ChangeShapes Go.WideShapes Go.ChangeAt Go.RowKit
open Go Go.Dx Go.Mx

theorem own : ownKnob Try.prog.godebug = none := by kernel_rfl
theorem laidOut : laidOutB Try.prog = true := by kernel_rfl
def good : List TypeId := [26, 2, 22, 4, 23, 24, 58, 56, 5]
theorem goodOk : (good.all fun t => okT Try.prog good t) = true := by kernel_rfl
theorem goodAll : ∀ t ∈ good, okT Try.prog good t = true := List.all_eq_true.1 goodOk

/-- 'post_of_same', the frozen marks being known of old blocks alone -/
theorem post_of_old {H : Type} {enc : TypeId × Value → H} {P : Program} {f : Func} {s : ChangeSpec} {apart fresh handsOn again : Bool} {W W' : World} {args : Array Value} {v : Value} {ds gs : List (DataW H)} {before pa pv : List MemPlace}
    (hW : DataW.Whole enc P f.params.toList s.vars apart W args.toList ds gs before)
    (hres : ∀ (b : Nat) (sp : Nat → Bool) (hd : Bool), DataW.TrodAll enc P W' b sp hd f.resultTypes.toList (v.resultList f.resultTypes.size) (s.fn H (ds ++ gs)).results [])
    (hargs : ∀ sp : Nat → Bool, (∀ p ∈ before, sp p.block = true) → DataW.TrodAll enc P W' 0 sp true f.params.toList args.toList (s.fn H (ds ++ gs)).args pa)
    (hvars : ∀ sp : Nat → Bool, (∀ p ∈ before, sp p.block = true) → DataW.TrodVars enc P W' sp s.vars (s.fn H (ds ++ gs)).vars pv)
    (hps : before = pa ++ pv) (hk : W.keptBut W' (· ∈ before)) (hfz : ∀ a : Addr, a.block < W.heap.size → W'.frozen? a = W.frozen? a)
    (hok : ∀ (j : Nat) (t : TypeId) (r : Value), f.resultTypes[j]? = some t → (v.resultList f.resultTypes.size)[j]? = some r → Value.okWide P W' .any 0 t r) :
    s.post enc P f apart fresh handsOn again W args v W' := by
  have hlt := hW.lt
  have hold : ∀ p ∈ before, (fun b => decide (b < W.heap.size)) p.block = true := fun p hp => by simpa using hW.lt p hp
  refine ⟨ds, gs, before, [], pa, pv, hW, hres _ _ _, hargs _ hold, hvars _ hold, World.keptBut_mono (fun p hp => ⟨hp, ?_⟩) hk, fun _ => ?_⟩
  · rw [hps, List.mem_append] at hp
    exact Or.inr hp
  · obtain ⟨_, _, _, _, _, hz, hn⟩ := hW
    refine ⟨hok, _, _, ([] ++ pa) ++ pv, ⟨[] ++ pa, pv, trodAll_append (hargs _ (fun _ _ => rfl)) (hres _ _ _), hvars _ (fun _ _ => rfl), rfl, ?_, ?_⟩, ?_⟩
    · intro b off hp
      have hp' : MemPlace.cell b off ∈ before := by rw [hps]; simpa using hp
      rw [hfz _ (by have := hlt _ hp'; simpa [MemPlace.block] using this)]
      exact hz b off hp'
    · intro ha
      have := hn ha
      rw [hps] at this
      simpa using this
    · intro p hp _
      rw [hps]
      simpa using hp

set_option maxRecDepth 100000 in
theorem lifted (os : Os) (started : os.Started) (H : Type) (enc : TypeId × Value → H) :
    ReturnsInHanded {} Try.checked os 3 .any (Rows.fnMakeSASLHandshakeRequestSpec.pre6 enc Try.prog Try.f3 Rows.fnMakeSASLHandshakeRequestRow.domain false) (Rows.fnMakeSASLHandshakeRequestSpec.post enc Try.prog Try.f3 false true false false) := by
  refine returnsInHanded_of_change (C := Try.checked) own started (by kernel_rfl) Try.func3
    (ChangeSpec.witness6 (enc := enc) (C := Try.checked) false ⟨#[], #[.int .u8 0, .agg #[.int .i64 0, .slice none 0 0, .bool false, .slice none 0 0, .slice none 0 0]], []⟩ 8 (by kernel_rfl) (by kernel_rfl) (by kernel_rfl) (by kernel_rfl)) ?_
  intro W base args ds gs before hval0 hW hcnd _
  have hval : ∀ (j : Nat) t v, Try.f3.params[j]? = some t → args[j]? = some v → Value.okWide Try.prog W .any base t v := hval0
  have hW' := hW
  obtain ⟨p, q, hA0, hV, rfl, hfz, hnd⟩ := hW
  have hA : DataW.TrodAll enc Try.prog W 0 (fun _ => true) true Try.f3.params.toList args.toList ds p := hA0
  rw [Try.params3] at hA hval
  obtain ⟨v0, v1, d0, d1, p0, p1, rfl, rfl, rfl, h0, h1⟩ := trodAll_two hA
  obtain ⟨rfl, rfl⟩ := trodVars_none hV
  obtain ⟨a, rfl, rfl, rfl, wa⟩ := open_int Try.underlying5 (hval 0 5 v0 rfl rfl) h0
  have hv1 := hval 1 26 v1 rfl rfl
  have h1k := h1
  obtain ⟨fuel, h1⟩ := h1
  obtain ⟨v, d, k1, k2, _⟩ := rep_trod (w := W) goodAll (fun _ => rfl) fuel 26 _ _ (by decide) h1
  have hagg : agg Try.prog 26 = true := by kernel_rfl
  have hvv : v = v1 := by
    obtain ⟨dd, hu, ha⟩ := agg_eq hagg
    unfold Value.okWide at hv1
    rw [hu] at hv1
    have hcs : ∃ cs, v1 = .agg cs := by
      cases dd <;> simp [isAggD] at ha
      · obtain ⟨cs, h, _⟩ := hv1; exact ⟨cs, h⟩
      · obtain ⟨cs, h, _⟩ := hv1; exact ⟨cs, h⟩
    obtain ⟨cs, rfl⟩ := hcs
    obtain ⟨ds', rfl, _, _⟩ := rep_row hagg k2
    cases k2 with
    | row _ _ _ _ _ _ => exact congrArg Value.agg (Array.toList_inj.1 k1)
  subst hvv
  clear hA0 hval0
  simp only [List.append_nil] at hW'
  refine (Go.Proofs.lawCalls (ok := fun b => b < W.heap.size) wa Try.underlying5 k2 (fun b hb => hb)).mono fun e W' ⟨he, hfr⟩ => ?_
  subst he
  have hb : Below W.heap.size W W' := ⟨hfr.os, hfr.tape, hfr.output, hfr.size, fun k hk => hfr.block k hk (fun h => h)⟩
  have hlt : ∀ x ∈ p1, x.block < W.heap.size := fun x hx => by simpa using hW'.lt x (by simpa using hx)
  exact ⟨_, rfl, post_of_old (pa := p1) (pv := []) hW' (fun _ _ _ => trodAll_mk1 (shut_bool Try.underlying4 _))
    (fun sp hsp => by
      have := trodAll_mk2 (enc := enc) (P := Try.prog) (w := W') (base := 0) (spare := sp) (held := true) (shut_int Try.underlying5 wa) (WideElems.Trod_stays laidOut (by kernel_rfl) (of_decide_eq_true (by kernel_rfl)) h1k (fun x hx => hb.same (hlt x hx)) (fun x hx => hsp x (by simpa using hx)))
      rw [List.nil_append] at this
      exact this)
    (fun _ _ => rfl) (by simp) (hb.frame _) (fun a ha => hb.frozen ha) (ok_one (by kernel_rfl) rfl (okWide_bool_mk Try.underlying4 _))⟩

theorem holds : Rows.FnMakeSASLHandshakeRequestSaid :=
  OpenClaim.holds_of_wide 3 Try.f3 rfl rfl rfl rfl rfl rfl rfl ⟨rfl, rfl, rfl, rfl, rfl⟩ rfl rfl rfl rfl rfl (by kernel_rfl) Try.func3 (by kernel_rfl)
    (of_decide_eq_true (by kernel_rfl)) (by unfold Func.isWrapper; first | (rw [if_pos (by decide +kernel)]; kernel_rfl) | (rw [if_neg (by decide +kernel)]; exact ⟨rfl, rfl⟩))
    (fun os started H enc _ => lifted os started H enc)
end Go.Proofs.Ytplbaloohebdcaa
