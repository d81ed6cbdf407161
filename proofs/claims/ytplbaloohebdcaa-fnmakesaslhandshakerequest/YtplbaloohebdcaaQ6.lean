/- Part of a verified symbolic run of the program's code (no condition of its own). -/
import Derived.Test.YtplbaloohebdcaaQ5
import Derived.Test.YtplbaloohebdcaaProg
import Derived.KernelRfl
set_option linter.unusedVariables false
set_option linter.unusedSimpArgs false
open Go Go.Dx Go.Mx
namespace Go.Proofs

/-! ## The functions of this seat -/
def tabS : List (Nat × Ctr) := [(7, ⟨[.val 26], .val 4, 54, true⟩),
  (10, ⟨[.val 5, .val 3], .val 3, 58, true⟩),
  (11, ⟨[.val 22, .val 22], .val 4, 52, true⟩),
  (13, ⟨[.val 26], .val 39, 44, true⟩),
  (14, ⟨[.val 29, .val 3, .val 26], .val 26, 43, true⟩),
  (15, ⟨[.val 31, .val 3, .val 26], .own 22, 59, true⟩),
  (31, ⟨[.val 50, .val 3, .val 26], .val 26, 42, true⟩),
  (32, ⟨[.val 26, .val 3], .val 26, 40, true⟩),
  (33, ⟨[.val 29, .val 24], .own 24, 41, true⟩),
  (35, ⟨[.val 29, .val 3, .val 4, .val 26], .own 22, 47, true⟩),
  (38, ⟨[.val 2, .val 3], .own 22, 45, true⟩),
  (51, ⟨[.val 39, .val 3], .val 39, 1, true⟩),
  (52, ⟨[.own 22, .val 9], .own 22, 11, true⟩),
  (53, ⟨[.val 50, .val 3, .val 26], .val 4, 56, true⟩),
  (55, ⟨[.val 29], .val 56, 51, true⟩),
  (56, ⟨[.val 50, .val 3], .val 4, 57, true⟩),
  (57, ⟨[.val 50, .val 3, .val 4, .val 26], .own 22, 49, true⟩),
  (58, ⟨[.val 50, .val 26], .val 4, 50, true⟩),
  (59, ⟨[.val 93], .own 22, 46, true⟩),
  (61, ⟨[.own 22, .val 45], .own 22, 4, true⟩),
  (76, ⟨[.val 4, .val 4, .val 3, .val 3], .own 22, 53, true⟩),
  (77, ⟨[.val 3, .val 29, .val 4, .val 3, .val 4, .val 26], .own 22, 48, true⟩),
  (78, ⟨[.val 3], .val 3, 55, true⟩),
  (79, ⟨[.own 22, .val 109], .own 22, 5, true⟩)]
noncomputable def namesOk? (l : List Func) : Bool := l.all fun fn => !(fn.name == "runtime.NumGoroutine")
theorem nm0 : namesOk? Try.prog.funcs.toList = true := by kernel_rfl
theorem nm : NamesOk Try.prog := fun f fn hf => by
  have := List.all_eq_true.1 nm0 fn (by
    rw [← Array.getElem?_toList] at hf
    exact List.mem_of_getElem? hf)
  simpa using this
theorem ord : Try.prog.follows .mixedOrders = true := by kernel_rfl
theorem c7 : ctrOk? Try.prog tabS 7 ⟨[.val 26], .val 4, 54, true⟩ = true := by kernel_rfl
theorem c10 : ctrOk? Try.prog tabS 10 ⟨[.val 5, .val 3], .val 3, 58, true⟩ = true := by kernel_rfl
theorem c11 : ctrOk? Try.prog tabS 11 ⟨[.val 22, .val 22], .val 4, 52, true⟩ = true := by kernel_rfl
theorem c13 : ctrOk? Try.prog tabS 13 ⟨[.val 26], .val 39, 44, true⟩ = true := by kernel_rfl
theorem c14 : ctrOk? Try.prog tabS 14 ⟨[.val 29, .val 3, .val 26], .val 26, 43, true⟩ = true := by kernel_rfl
theorem c15 : ctrOk? Try.prog tabS 15 ⟨[.val 31, .val 3, .val 26], .own 22, 59, true⟩ = true := by kernel_rfl
theorem c31 : ctrOk? Try.prog tabS 31 ⟨[.val 50, .val 3, .val 26], .val 26, 42, true⟩ = true := by kernel_rfl
theorem c32 : ctrOk? Try.prog tabS 32 ⟨[.val 26, .val 3], .val 26, 40, true⟩ = true := by kernel_rfl
theorem c33 : ctrOk? Try.prog tabS 33 ⟨[.val 29, .val 24], .own 24, 41, true⟩ = true := by kernel_rfl
theorem c35 : ctrOk? Try.prog tabS 35 ⟨[.val 29, .val 3, .val 4, .val 26], .own 22, 47, true⟩ = true := by kernel_rfl
theorem c38 : ctrOk? Try.prog tabS 38 ⟨[.val 2, .val 3], .own 22, 45, true⟩ = true := by kernel_rfl
theorem c51 : ctrOk? Try.prog tabS 51 ⟨[.val 39, .val 3], .val 39, 1, true⟩ = true := by kernel_rfl
theorem c52 : ctrOk? Try.prog tabS 52 ⟨[.own 22, .val 9], .own 22, 11, true⟩ = true := by kernel_rfl
theorem c53 : ctrOk? Try.prog tabS 53 ⟨[.val 50, .val 3, .val 26], .val 4, 56, true⟩ = true := by kernel_rfl
theorem c55 : ctrOk? Try.prog tabS 55 ⟨[.val 29], .val 56, 51, true⟩ = true := by kernel_rfl
theorem c56 : ctrOk? Try.prog tabS 56 ⟨[.val 50, .val 3], .val 4, 57, true⟩ = true := by kernel_rfl
theorem c57 : ctrOk? Try.prog tabS 57 ⟨[.val 50, .val 3, .val 4, .val 26], .own 22, 49, true⟩ = true := by kernel_rfl
theorem c58 : ctrOk? Try.prog tabS 58 ⟨[.val 50, .val 26], .val 4, 50, true⟩ = true := by kernel_rfl
theorem c59 : ctrOk? Try.prog tabS 59 ⟨[.val 93], .own 22, 46, true⟩ = true := by kernel_rfl
theorem c61 : ctrOk? Try.prog tabS 61 ⟨[.own 22, .val 45], .own 22, 4, true⟩ = true := by kernel_rfl
theorem c76 : ctrOk? Try.prog tabS 76 ⟨[.val 4, .val 4, .val 3, .val 3], .own 22, 53, true⟩ = true := by kernel_rfl
theorem c77 : ctrOk? Try.prog tabS 77 ⟨[.val 3, .val 29, .val 4, .val 3, .val 4, .val 26], .own 22, 48, true⟩ = true := by kernel_rfl
theorem c78 : ctrOk? Try.prog tabS 78 ⟨[.val 3], .val 3, 55, true⟩ = true := by kernel_rfl
theorem c79 : ctrOk? Try.prog tabS 79 ⟨[.own 22, .val 109], .own 22, 5, true⟩ = true := by kernel_rfl
theorem hall : ∀ p ∈ tabS, ctrOk? Try.prog tabS p.1 p.2 = true := List.forall_mem_cons.2 ⟨c7, List.forall_mem_cons.2 ⟨c10, List.forall_mem_cons.2 ⟨c11, List.forall_mem_cons.2 ⟨c13, List.forall_mem_cons.2 ⟨c14, List.forall_mem_cons.2 ⟨c15, List.forall_mem_cons.2 ⟨c31, List.forall_mem_cons.2 ⟨c32, List.forall_mem_cons.2 ⟨c33, List.forall_mem_cons.2 ⟨c35, List.forall_mem_cons.2 ⟨c38, List.forall_mem_cons.2 ⟨c51, List.forall_mem_cons.2 ⟨c52, List.forall_mem_cons.2 ⟨c53, List.forall_mem_cons.2 ⟨c55, List.forall_mem_cons.2 ⟨c56, List.forall_mem_cons.2 ⟨c57, List.forall_mem_cons.2 ⟨c58, List.forall_mem_cons.2 ⟨c59, List.forall_mem_cons.2 ⟨c61, List.forall_mem_cons.2 ⟨c76, List.forall_mem_cons.2 ⟨c77, List.forall_mem_cons.2 ⟨c78, List.forall_mem_cons.2 ⟨c79, (by intro p hp; cases hp)⟩⟩⟩⟩⟩⟩⟩⟩⟩⟩⟩⟩⟩⟩⟩⟩⟩⟩⟩⟩⟩⟩⟩⟩
theorem ctrsOk : ∀ f c, lk f tabS = some c → CtrOk Try.prog X side f c :=
  all_ok (hand := fun _ => false) nm ord (fun _ _ _ h => by cases h) (fun f c h _ => hall (f, c) (lk_mem h)) (fun _ h => by cases h)

/-! ## What is made -/
def ctrM : Ctr := ⟨[.val 3, .val 39], .own 22, 100, true⟩
noncomputable def CM : Cfg := ⟨Try.prog, fun g => lk g tabS⟩
noncomputable def runsTo (C : Cfg) (f : Nat) (c : Ctr) (ks : List (Nat × Int)) (d : DE) (os : List Ob) : Bool :=
  match Try.prog.funcs[f]? with
  | some fn => match runFK C 100000 8 c fn ks with
    | some (d', os') => d'.beq d && obbeqs os' os
    | none => false
  | none => false
theorem runsTo_eq {C : Cfg} {f : Nat} {c : Ctr} {ks : List (Nat × Int)} {d : DE} {os : List Ob} (h : runsTo C f c ks d os = true) : ∃ fn, Try.prog.funcs[f]? = some fn ∧ runFK C 100000 8 c fn ks = some (d, os) := by
  unfold runsTo at h
  split at h
  · rename_i fn hf
    split at h
    · rename_i d' os' hr
      simp only [Bool.and_eq_true] at h
      have e1 := DE.beq_eq h.1
      have e2 := obbeqs_eq h.2
      subst e1; subst e2
      exact ⟨fn, hf, hr⟩
    · cases h
  · cases h
theorem m0 : runsTo CM 12 ctrM [(0, 0)] de100 ob100 = true := by kernel_rfl
theorem m1 : runsTo CM 12 ctrM [(0, 1)] de100 ob100 = true := by kernel_rfl
theorem mBody : (match Try.prog.funcs[12]? with | some fn => fn.body.isSome | none => false) = true := by kernel_rfl
theorem mSig : areA Try.prog [.int .i64, .tree] ctrM.args = true := by kernel_rfl
theorem makeOk : CtrOk Try.prog X side 12 ctrM := by
  obtain ⟨fn, hf, h0⟩ := runsTo_eq m0
  obtain ⟨fn', hf', h1⟩ := runsTo_eq m1
  rw [hf] at hf'; cases hf'
  have hb := mBody
  rw [hf] at hb
  refine make_ok (C := CM) rfl nm ord ctrsOk hf hb rfl mSig (ver := fun v => v = 0 ∨ v = 1) (fun v t h => ?_) (fun v hv => ?_)
  · have h := (side_100 _ _).mp h
    obtain ⟨⟨a, b⟩, _⟩ := h
    simp only [int_i] at a b
    omega
  · rcases hv with rfl | rfl
    · exact ⟨_, _, h0, fun t h => ev100 0 t h⟩
    · exact ⟨_, _, h1, fun t h => ev100 1 t h⟩

/-! ## The law's function -/
def ctrL : Ctr := ⟨[.val 5, .val 26], .val 4, 200, false⟩
noncomputable def CL : Cfg := ⟨Try.prog, fun g => if g = 12 then some ctrM else lk g tabS⟩
theorem lawRun : runsTo CL 3 ctrL [] (lawE 100 sc100 (-1) 1) (lawO 100 sc100 (-1) 1) = true := by kernel_rfl
theorem lawSig : areA Try.prog [.int .u8, .tree] ctrL.args = true := by kernel_rfl
theorem lawBo : isBo Try.prog 4 = true := by kernel_rfl
theorem partLen (v : Int) (t : T) (h0 : 0 ≤ v) : (partS sc100 v (Flexible (-1) v) t).length ≤ lim := by
  have hnull : Mx.null fl100 v (at' t 0) = false := by simp [Mx.null, fl100, Fl.null]
  have e3 : partS sc100 v false t = Fixed ((at' t 0).S.take Most).length 2 ++ (at' t 0).S.take Most := by
    rw [partS_false]
    show cellO v (rowP v false t 0 fl100) ++ [] = _
    have h4 : cellO v (rowP v false t 0 fl100) = field fl100 v false (at' t 0) := by
      rw [cellO, if_pos ⟨by show (-1 : Int) < 0; omega, by show has fl100 v = true; simp [has, fl100, Fl.frm, Fl.to, h0]⟩]; rfl
    rw [h4, field_eq, hnull, List.append_nil]
    rfl
  show (partS sc100 v false t).length ≤ lim
  rw [e3, List.length_append, Fixed_len, List.length_take]
  simp only [Most, lim]; omega
theorem lawCalls {ok : Nat → Prop} {w : World} {n : Int} {tv : Value} {d : D} (hn : (Lit.int .u8 n).wf = true) (hu : Try.prog.underlying 5 = some (.int .u8)) (ht : Rep Try.prog ok w 26 tv d) (hok : ∀ b, ok b → b < w.heap.size) :
    Calls Try.prog 3 #[.int .u8 n, tv] w fun e w' => e = .returned (.bool true) ∧ Fr (fun _ => False) w w' := by
  obtain ⟨fn, hf, hr⟩ := runsTo_eq lawRun
  have hA : ArgsOk Try.prog ok w ctrL.args [.int .u8 n, tv] [.int n, d] := .cons (.val (.int hu hn)) (.cons (.val ht) .nil)
  have hk := areA_ok lawSig hA
  obtain @⟨⟩ | @⟨_, d1, _, _, k1, hk⟩ := hk
  obtain @⟨⟩ | @⟨_, d2, _, _, k2, hk⟩ := hk
  obtain ⟨t, rfl⟩ := k2
  have hl := law_ok made100 n t (wf_u8 hn).1 (fun _ v h0 _ => partLen v t h0)
  have hW : ∀ b, ¬ Wr w ctrL.args [.int .u8 n, tv] b := fun b h => by simp [Wr, ctrL, wrA] at h
  have := callK (C := CL) nm ord (fun f c hc => ?_) hf hr hA (fun b hb => ⟨hok b hb, hW b⟩) (fun j k hj => by simp [lk] at hj) hl.1 (by rw [hl.2]; exact (X_200 _).symm)
  · refine Calls.mono this (fun e w' he => ?_)
    obtain ⟨v, rfl, hfr, hres⟩ := he
    have e1 : Rep Try.prog (fun b => ok b ∨ w.heap.size ≤ b) w' 4 v (X 200 [.int n, t.d]) := hres (fun b => ok b ∨ w.heap.size ≤ b) (fun _ h => .inl h) (fun _ h _ => .inr h)
    rw [X_200] at e1
    refine ⟨?_, hfr.mono (fun b _ hb => (hW b hb).elim)⟩
    cases e1; rfl
  · have hc : (if f = 12 then some ctrM else lk f tabS) = some c := hc
    split at hc
    · rename_i h12
      cases hc; subst h12; exact makeOk
    · exact ctrsOk f c hc
end Go.Proofs
