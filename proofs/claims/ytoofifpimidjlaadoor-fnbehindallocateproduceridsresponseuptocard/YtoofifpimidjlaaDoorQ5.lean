/- Part of a verified symbolic run of the program's code (no condition of its own). -/
import Derived.Test.YtoofifpimidjlaaDoorQ4
set_option linter.unusedVariables false
set_option linter.unusedSimpArgs false
namespace Go.Mx
open Go Go.Dx
def deK : Nat -> DE
 | 2 => de2
 | 3 => de3
 | 4 => de4
 | 5 => de5
 | 6 => de6
 | 7 => de7
 | 10 => de10
 | 11 => de11
 | 12 => de12
 | 13 => de13
 | 14 => de14
 | 15 => de15
 | 17 => de17
 | 19 => de19
 | 20 => de20
 | 21 => de21
 | 22 => de22
 | 29 => de29
 | 30 => de30
 | 31 => de31
 | 40 => de40
 | 41 => de41
 | 42 => de42
 | 45 => de45
 | 46 => de46
 | 47 => de47
 | 48 => de48
 | 49 => de49
 | 50 => de50
 | 51 => de51
 | 52 => de52
 | 53 => de53
 | 54 => de54
 | 55 => de55
 | 56 => de56
 | 57 => de57
 | 58 => de58
 | 59 => de59
 | _ => .k .nil
def obK : Nat -> List Ob
 | 2 => ob2
 | 3 => ob3
 | 4 => ob4
 | 5 => ob5
 | 6 => ob6
 | 7 => ob7
 | 10 => ob10
 | 11 => ob11
 | 12 => ob12
 | 13 => ob13
 | 14 => ob14
 | 15 => ob15
 | 17 => ob17
 | 19 => ob19
 | 20 => ob20
 | 21 => ob21
 | 22 => ob22
 | 29 => ob29
 | 30 => ob30
 | 31 => ob31
 | 40 => ob40
 | 41 => ob41
 | 42 => ob42
 | 45 => ob45
 | 46 => ob46
 | 47 => ob47
 | 48 => ob48
 | 49 => ob49
 | 50 => ob50
 | 51 => ob51
 | 52 => ob52
 | 53 => ob53
 | 54 => ob54
 | 55 => ob55
 | 56 => ob56
 | 57 => ob57
 | 58 => ob58
 | 59 => ob59
 | _ => []
def sig : Nat -> List K
 | 2 => [.byts, .bool]
 | 3 => [.byts, .int .i8]
 | 4 => [.byts, .int .i16]
 | 5 => [.byts, .int .u16]
 | 6 => [.byts, .int .i32]
 | 7 => [.byts, .int .i64]
 | 10 => [.byts, .int .u32]
 | 11 => [.byts, .str]
 | 12 => [.byts, .str]
 | 13 => [.byts, .pstr]
 | 14 => [.byts, .pstr]
 | 15 => [.byts, .byts]
 | 17 => [.byts, .byts]
 | 19 => [.byts, .int .i64]
 | 20 => [.byts, .int .i64]
 | 21 => [.byts, .int .i64, .bool]
 | 22 => [.byts, .int .i64, .bool]
 | 29 => [.byts, .int .u64]
 | 30 => [.byts, .int .u32]
 | 31 => [.int .u32]
 | 40 => [.tree, .int .i64]
 | 41 => [.fls, .tags]
 | 42 => [.fl, .int .i64, .tree]
 | 45 => [.int .i64, .int .i64]
 | 46 => [.int .u64]
 | 47 => [.fls, .int .i64, .bool, .tree]
 | 48 => [.int .i64, .fls, .bool, .int .i64, .bool, .tree]
 | 49 => [.fl, .int .i64, .bool, .tree]
 | 50 => [.fl, .tree]
 | 51 => [.fls]
 | 52 => [.byts, .byts]
 | 53 => [.bool, .bool, .int .i64, .int .i64]
 | 54 => [.tree]
 | 55 => [.int .i64]
 | 56 => [.fl, .int .i64, .tree]
 | 57 => [.fl, .int .i64]
 | 58 => [.int .u8, .int .i64]
 | 59 => [.msg, .int .i64, .tree]
 | _ => []
def rank : Nat -> Nat
 | 4 => 1
 | 6 => 1
 | 7 => 1
 | 10 => 1
 | 11 => 2
 | 12 => 2
 | 13 => 3
 | 14 => 3
 | 15 => 2
 | 17 => 3
 | 19 => 2
 | 20 => 2
 | 21 => 2
 | 22 => 2
 | 41 => 1
 | 42 => 5
 | 47 => 5
 | 48 => 5
 | 49 => 5
 | 50 => 5
 | 53 => 1
 | 59 => 6
 | _ => 0
def known? : Nat -> Bool
 | 2 => true
 | 3 => true
 | 4 => true
 | 5 => true
 | 6 => true
 | 7 => true
 | 10 => true
 | 11 => true
 | 12 => true
 | 13 => true
 | 14 => true
 | 15 => true
 | 17 => true
 | 19 => true
 | 20 => true
 | 21 => true
 | 22 => true
 | 29 => true
 | 30 => true
 | 31 => true
 | 40 => true
 | 41 => true
 | 42 => true
 | 45 => true
 | 46 => true
 | 47 => true
 | 48 => true
 | 49 => true
 | 50 => true
 | 51 => true
 | 52 => true
 | 53 => true
 | 54 => true
 | 55 => true
 | 56 => true
 | 57 => true
 | 58 => true
 | 59 => true
 | _ => false
theorem wf_u8 {n : Int} (h : (Lit.int .u8 n).wf = true) : 0 <= n /\ n < 256 := by
 simp [Lit.wf, IntKind.min, IntKind.max, IntKind.signed, IntKind.bits] at h; omega
theorem wf_u32 {n : Int} (h : (Lit.int .u32 n).wf = true) : 0 <= n /\ n < 4294967296 := by
 simp [Lit.wf, IntKind.min, IntKind.max, IntKind.signed, IntKind.bits] at h; omega
theorem wf_u64 {n : Int} (h : (Lit.int .u64 n).wf = true) : 0 <= n /\ n < 18446744073709551616 := by
 simp [Lit.wf, IntKind.min, IntKind.max, IntKind.signed, IntKind.bits] at h; omega
mutual
theorem Ob.mono {Y : Nat -> List D -> D} {P Q : Nat -> List D -> Prop} (h : ∀ k ds, P k ds -> Q k ds) : ∀ (o : Ob) (δ : List D), o.holds Y P δ -> o.holds Y Q δ
 | .room _ _, _, ho => ho
 | .cap _ _, _, ho => ho
 | .nz _, _, ho => ho
 | .ge0 _, _, ho => ho
 | .term _ _ _ _, _, ho => ho
 | .idx _ _ _, _, ho => ho
 | .pre _ _, _, ho => h _ _ ho
 | .all _ _ _ os, _, ho => fun k hk => Obs.mono h os _ (ho k hk)
 | .when _ _ os, _, ho => fun hc => Obs.mono h os _ (ho hc)
theorem Obs.mono {Y : Nat -> List D -> D} {P Q : Nat -> List D -> Prop} (h : ∀ k ds, P k ds -> Q k ds) : ∀ (os : List Ob) (δ : List D), obsHold Y P os δ -> obsHold Y Q os δ
 | [], _, _ => trivial
 | o :: os, _, ho => ⟨Ob.mono h o _ ho.1, Obs.mono h os _ ho.2⟩
end
theorem pre_side {n k : Nat} {ds : List D} (h : Pre n k ds) : side k ds := h.2
theorem ctr_mono {P : Program} {Y : Nat -> List D -> D} {A B : Nat -> List D -> Prop} {f : FuncId} {c : Ctr} (h : ∀ ds, B c.fn ds -> A c.fn ds) (hc : CtrOk P Y A f c) : CtrOk P Y B f c :=
 ⟨hc.1, fun ok w vs ds h1 h2 h3 h4 => hc.2 ok w vs ds h1 h2 h3 (fun hp => h ds (h4 hp))⟩
theorem evA2 : ∀ (ds : List D), KsOk (sig 2) ds -> side 2 ds -> obsHold X side (obK 2) ds /\ (deK 2).eval X ds = X 2 ds := fun ds hk h => by
 obtain @⟨⟩ | @⟨_, d1, _, _, k1, hk⟩ := hk
 obtain @⟨⟩ | @⟨_, d2, _, _, k2, hk⟩ := hk
 cases hk
 obtain ⟨x1, rfl⟩ := k1
 obtain ⟨x2, rfl⟩ := k2
 have e := ev2 x1 x2 0 h
 exact ⟨Obs.mono (fun _ _ h => pre_side h) _ _ e.1, e.2⟩
theorem evA3 : ∀ (ds : List D), KsOk (sig 3) ds -> side 3 ds -> obsHold X side (obK 3) ds /\ (deK 3).eval X ds = X 3 ds := fun ds hk h => by
 obtain @⟨⟩ | @⟨_, d1, _, _, k1, hk⟩ := hk
 obtain @⟨⟩ | @⟨_, d2, _, _, k2, hk⟩ := hk
 cases hk
 obtain ⟨x1, rfl⟩ := k1
 obtain ⟨x2, rfl, w2⟩ := k2
 have e := ev3 x1 x2 0 h
 exact ⟨Obs.mono (fun _ _ h => pre_side h) _ _ e.1, e.2⟩
theorem evA4 : ∀ (ds : List D), KsOk (sig 4) ds -> side 4 ds -> obsHold X side (obK 4) ds /\ (deK 4).eval X ds = X 4 ds := fun ds hk h => by
 obtain @⟨⟩ | @⟨_, d1, _, _, k1, hk⟩ := hk
 obtain @⟨⟩ | @⟨_, d2, _, _, k2, hk⟩ := hk
 cases hk
 obtain ⟨x1, rfl⟩ := k1
 obtain ⟨x2, rfl, w2⟩ := k2
 have e := ev4 x1 x2 0 h
 exact ⟨Obs.mono (fun _ _ h => pre_side h) _ _ e.1, e.2⟩
theorem evA5 : ∀ (ds : List D), KsOk (sig 5) ds -> side 5 ds -> obsHold X side (obK 5) ds /\ (deK 5).eval X ds = X 5 ds := fun ds hk h => by
 obtain @⟨⟩ | @⟨_, d1, _, _, k1, hk⟩ := hk
 obtain @⟨⟩ | @⟨_, d2, _, _, k2, hk⟩ := hk
 cases hk
 obtain ⟨x1, rfl⟩ := k1
 obtain ⟨x2, rfl, w2⟩ := k2
 have e := ev5 x1 x2 0 h
 exact ⟨Obs.mono (fun _ _ h => pre_side h) _ _ e.1, e.2⟩
theorem evA6 : ∀ (ds : List D), KsOk (sig 6) ds -> side 6 ds -> obsHold X side (obK 6) ds /\ (deK 6).eval X ds = X 6 ds := fun ds hk h => by
 obtain @⟨⟩ | @⟨_, d1, _, _, k1, hk⟩ := hk
 obtain @⟨⟩ | @⟨_, d2, _, _, k2, hk⟩ := hk
 cases hk
 obtain ⟨x1, rfl⟩ := k1
 obtain ⟨x2, rfl, w2⟩ := k2
 have e := ev6 x1 x2 0 h
 exact ⟨Obs.mono (fun _ _ h => pre_side h) _ _ e.1, e.2⟩
theorem evA7 : ∀ (ds : List D), KsOk (sig 7) ds -> side 7 ds -> obsHold X side (obK 7) ds /\ (deK 7).eval X ds = X 7 ds := fun ds hk h => by
 obtain @⟨⟩ | @⟨_, d1, _, _, k1, hk⟩ := hk
 obtain @⟨⟩ | @⟨_, d2, _, _, k2, hk⟩ := hk
 cases hk
 obtain ⟨x1, rfl⟩ := k1
 obtain ⟨x2, rfl, w2⟩ := k2
 have e := ev7 x1 x2 0 h
 exact ⟨Obs.mono (fun _ _ h => pre_side h) _ _ e.1, e.2⟩
theorem evA10 : ∀ (ds : List D), KsOk (sig 10) ds -> side 10 ds -> obsHold X side (obK 10) ds /\ (deK 10).eval X ds = X 10 ds := fun ds hk h => by
 obtain @⟨⟩ | @⟨_, d1, _, _, k1, hk⟩ := hk
 obtain @⟨⟩ | @⟨_, d2, _, _, k2, hk⟩ := hk
 cases hk
 obtain ⟨x1, rfl⟩ := k1
 obtain ⟨x2, rfl, w2⟩ := k2
 have e := ev10 x1 x2 0 (wf_u32 w2).1 (wf_u32 w2).2 h
 exact ⟨Obs.mono (fun _ _ h => pre_side h) _ _ e.1, e.2⟩
theorem evA11 : ∀ (ds : List D), KsOk (sig 11) ds -> side 11 ds -> obsHold X side (obK 11) ds /\ (deK 11).eval X ds = X 11 ds := fun ds hk h => by
 obtain @⟨⟩ | @⟨_, d1, _, _, k1, hk⟩ := hk
 obtain @⟨⟩ | @⟨_, d2, _, _, k2, hk⟩ := hk
 cases hk
 obtain ⟨x1, rfl⟩ := k1
 obtain ⟨x2, rfl⟩ := k2
 have e := ev11 x1 x2 0 h
 exact ⟨Obs.mono (fun _ _ h => pre_side h) _ _ e.1, e.2⟩
theorem evA12 : ∀ (ds : List D), KsOk (sig 12) ds -> side 12 ds -> obsHold X side (obK 12) ds /\ (deK 12).eval X ds = X 12 ds := fun ds hk h => by
 obtain @⟨⟩ | @⟨_, d1, _, _, k1, hk⟩ := hk
 obtain @⟨⟩ | @⟨_, d2, _, _, k2, hk⟩ := hk
 cases hk
 obtain ⟨x1, rfl⟩ := k1
 obtain ⟨x2, rfl⟩ := k2
 have e := ev12 x1 x2 0 h
 exact ⟨Obs.mono (fun _ _ h => pre_side h) _ _ e.1, e.2⟩
theorem evA13 : ∀ (ds : List D), KsOk (sig 13) ds -> side 13 ds -> obsHold X side (obK 13) ds /\ (deK 13).eval X ds = X 13 ds := fun ds hk h => by
 obtain @⟨⟩ | @⟨_, d1, _, _, k1, hk⟩ := hk
 obtain @⟨⟩ | @⟨_, d2, _, _, k2, hk⟩ := hk
 cases hk
 obtain ⟨x1, rfl⟩ := k1
 obtain ⟨x2, rfl⟩ := k2
 have e := ev13 x1 x2 0 h
 exact ⟨Obs.mono (fun _ _ h => pre_side h) _ _ e.1, e.2⟩
theorem evA14 : ∀ (ds : List D), KsOk (sig 14) ds -> side 14 ds -> obsHold X side (obK 14) ds /\ (deK 14).eval X ds = X 14 ds := fun ds hk h => by
 obtain @⟨⟩ | @⟨_, d1, _, _, k1, hk⟩ := hk
 obtain @⟨⟩ | @⟨_, d2, _, _, k2, hk⟩ := hk
 cases hk
 obtain ⟨x1, rfl⟩ := k1
 obtain ⟨x2, rfl⟩ := k2
 have e := ev14 x1 x2 0 h
 exact ⟨Obs.mono (fun _ _ h => pre_side h) _ _ e.1, e.2⟩
theorem evA15 : ∀ (ds : List D), KsOk (sig 15) ds -> side 15 ds -> obsHold X side (obK 15) ds /\ (deK 15).eval X ds = X 15 ds := fun ds hk h => by
 obtain @⟨⟩ | @⟨_, d1, _, _, k1, hk⟩ := hk
 obtain @⟨⟩ | @⟨_, d2, _, _, k2, hk⟩ := hk
 cases hk
 obtain ⟨x1, rfl⟩ := k1
 obtain ⟨x2, rfl⟩ := k2
 have e := ev15 x1 x2 0 h
 exact ⟨Obs.mono (fun _ _ h => pre_side h) _ _ e.1, e.2⟩
theorem evA17 : ∀ (ds : List D), KsOk (sig 17) ds -> side 17 ds -> obsHold X side (obK 17) ds /\ (deK 17).eval X ds = X 17 ds := fun ds hk h => by
 obtain @⟨⟩ | @⟨_, d1, _, _, k1, hk⟩ := hk
 obtain @⟨⟩ | @⟨_, d2, _, _, k2, hk⟩ := hk
 cases hk
 obtain ⟨x1, rfl⟩ := k1
 obtain ⟨x2, rfl⟩ := k2
 have e := ev17 x1 x2 0 h
 exact ⟨Obs.mono (fun _ _ h => pre_side h) _ _ e.1, e.2⟩
theorem evA19 : ∀ (ds : List D), KsOk (sig 19) ds -> side 19 ds -> obsHold X side (obK 19) ds /\ (deK 19).eval X ds = X 19 ds := fun ds hk h => by
 obtain @⟨⟩ | @⟨_, d1, _, _, k1, hk⟩ := hk
 obtain @⟨⟩ | @⟨_, d2, _, _, k2, hk⟩ := hk
 cases hk
 obtain ⟨x1, rfl⟩ := k1
 obtain ⟨x2, rfl, w2⟩ := k2
 have e := ev19 x1 x2 0 h
 exact ⟨Obs.mono (fun _ _ h => pre_side h) _ _ e.1, e.2⟩
theorem evA20 : ∀ (ds : List D), KsOk (sig 20) ds -> side 20 ds -> obsHold X side (obK 20) ds /\ (deK 20).eval X ds = X 20 ds := fun ds hk h => by
 obtain @⟨⟩ | @⟨_, d1, _, _, k1, hk⟩ := hk
 obtain @⟨⟩ | @⟨_, d2, _, _, k2, hk⟩ := hk
 cases hk
 obtain ⟨x1, rfl⟩ := k1
 obtain ⟨x2, rfl, w2⟩ := k2
 have e := ev20 x1 x2 0 h
 exact ⟨Obs.mono (fun _ _ h => pre_side h) _ _ e.1, e.2⟩
theorem evA21 : ∀ (ds : List D), KsOk (sig 21) ds -> side 21 ds -> obsHold X side (obK 21) ds /\ (deK 21).eval X ds = X 21 ds := fun ds hk h => by
 obtain @⟨⟩ | @⟨_, d1, _, _, k1, hk⟩ := hk
 obtain @⟨⟩ | @⟨_, d2, _, _, k2, hk⟩ := hk
 obtain @⟨⟩ | @⟨_, d3, _, _, k3, hk⟩ := hk
 cases hk
 obtain ⟨x1, rfl⟩ := k1
 obtain ⟨x2, rfl, w2⟩ := k2
 obtain ⟨x3, rfl⟩ := k3
 have e := ev21 x1 x2 x3 0 h
 exact ⟨Obs.mono (fun _ _ h => pre_side h) _ _ e.1, e.2⟩
theorem evA22 : ∀ (ds : List D), KsOk (sig 22) ds -> side 22 ds -> obsHold X side (obK 22) ds /\ (deK 22).eval X ds = X 22 ds := fun ds hk h => by
 obtain @⟨⟩ | @⟨_, d1, _, _, k1, hk⟩ := hk
 obtain @⟨⟩ | @⟨_, d2, _, _, k2, hk⟩ := hk
 obtain @⟨⟩ | @⟨_, d3, _, _, k3, hk⟩ := hk
 cases hk
 obtain ⟨x1, rfl⟩ := k1
 obtain ⟨x2, rfl, w2⟩ := k2
 obtain ⟨x3, rfl⟩ := k3
 have e := ev22 x1 x2 x3 0 h
 exact ⟨Obs.mono (fun _ _ h => pre_side h) _ _ e.1, e.2⟩
theorem evA29 : ∀ (ds : List D), KsOk (sig 29) ds -> side 29 ds -> obsHold X side (obK 29) ds /\ (deK 29).eval X ds = X 29 ds := fun ds hk h => by
 obtain @⟨⟩ | @⟨_, d1, _, _, k1, hk⟩ := hk
 obtain @⟨⟩ | @⟨_, d2, _, _, k2, hk⟩ := hk
 cases hk
 obtain ⟨x1, rfl⟩ := k1
 obtain ⟨x2, rfl, w2⟩ := k2
 have e := ev29 x1 x2 0 h
 exact ⟨Obs.mono (fun _ _ h => pre_side h) _ _ e.1, e.2⟩
theorem evA30 : ∀ (ds : List D), KsOk (sig 30) ds -> side 30 ds -> obsHold X side (obK 30) ds /\ (deK 30).eval X ds = X 30 ds := fun ds hk h => by
 obtain @⟨⟩ | @⟨_, d1, _, _, k1, hk⟩ := hk
 obtain @⟨⟩ | @⟨_, d2, _, _, k2, hk⟩ := hk
 cases hk
 obtain ⟨x1, rfl⟩ := k1
 obtain ⟨x2, rfl, w2⟩ := k2
 have e := ev30 x1 x2 0 h
 exact ⟨Obs.mono (fun _ _ h => pre_side h) _ _ e.1, e.2⟩
theorem evA31 : ∀ (ds : List D), KsOk (sig 31) ds -> side 31 ds -> obsHold X side (obK 31) ds /\ (deK 31).eval X ds = X 31 ds := fun ds hk h => by
 obtain @⟨⟩ | @⟨_, d1, _, _, k1, hk⟩ := hk
 cases hk
 obtain ⟨x1, rfl, w1⟩ := k1
 have e := ev31 x1 0 (wf_u32 w1).1 (wf_u32 w1).2
 exact ⟨Obs.mono (fun _ _ h => pre_side h) _ _ e.1, e.2⟩
theorem evA40 : ∀ (ds : List D), KsOk (sig 40) ds -> side 40 ds -> obsHold X side (obK 40) ds /\ (deK 40).eval X ds = X 40 ds := fun ds hk h => by
 obtain @⟨⟩ | @⟨_, d1, _, _, k1, hk⟩ := hk
 obtain @⟨⟩ | @⟨_, d2, _, _, k2, hk⟩ := hk
 cases hk
 obtain ⟨x1, rfl⟩ := k1
 obtain ⟨x2, rfl, w2⟩ := k2
 have e := ev40 x1 x2 h 0
 exact ⟨Obs.mono (fun _ _ h => pre_side h) _ _ e.1, e.2⟩
theorem evA41 : ∀ (ds : List D), KsOk (sig 41) ds -> side 41 ds -> obsHold X side (obK 41) ds /\ (deK 41).eval X ds = X 41 ds := fun ds hk h => by
 obtain @⟨⟩ | @⟨_, d1, _, _, k1, hk⟩ := hk
 obtain @⟨⟩ | @⟨_, d2, _, _, k2, hk⟩ := hk
 cases hk
 obtain ⟨x1, rfl⟩ := k1
 obtain ⟨x2, rfl⟩ := k2
 have e := ev41 x1 x2 0 (by rw [side_41, decF_enc] at h; exact h)
 exact ⟨Obs.mono (fun _ _ h => pre_side h) _ _ e.1, e.2⟩
theorem evR42 (n : Nat) : ∀ (ds : List D), KsOk (sig 42) ds -> Pre (n + 1) 42 ds -> obsHold X (Pre n) (obK 42) ds /\ (deK 42).eval X ds = X 42 ds := fun ds hk h => by
 obtain @⟨⟩ | @⟨_, d1, _, _, k1, hk⟩ := hk
 obtain @⟨⟩ | @⟨_, d2, _, _, k2, hk⟩ := hk
 obtain @⟨⟩ | @⟨_, d3, _, _, k3, hk⟩ := hk
 cases hk
 obtain ⟨x1, rfl⟩ := k1
 obtain ⟨x2, rfl, w2⟩ := k2
 obtain ⟨x3, rfl⟩ := k3
 exact ev42 x1 x2 x3 n h
theorem evA45 : ∀ (ds : List D), KsOk (sig 45) ds -> side 45 ds -> obsHold X side (obK 45) ds /\ (deK 45).eval X ds = X 45 ds := fun ds hk h => by
 obtain @⟨⟩ | @⟨_, d1, _, _, k1, hk⟩ := hk
 obtain @⟨⟩ | @⟨_, d2, _, _, k2, hk⟩ := hk
 cases hk
 obtain ⟨x1, rfl, w1⟩ := k1
 obtain ⟨x2, rfl, w2⟩ := k2
 have e := ev45 x1 x2 0 (by rw [side_45] at h; exact h.1) (by rw [side_45] at h; exact h.2)
 exact ⟨Obs.mono (fun _ _ h => pre_side h) _ _ e.1, e.2⟩
theorem evA46 : ∀ (ds : List D), KsOk (sig 46) ds -> side 46 ds -> obsHold X side (obK 46) ds /\ (deK 46).eval X ds = X 46 ds := fun ds hk h => by
 obtain @⟨⟩ | @⟨_, d1, _, _, k1, hk⟩ := hk
 cases hk
 obtain ⟨x1, rfl, w1⟩ := k1
 have e := ev46 x1 (wf_u64 w1).1 (wf_u64 w1).2 0
 exact ⟨Obs.mono (fun _ _ h => pre_side h) _ _ e.1, e.2⟩
theorem evR47 (n : Nat) : ∀ (ds : List D), KsOk (sig 47) ds -> Pre (n + 1) 47 ds -> obsHold X (Pre n) (obK 47) ds /\ (deK 47).eval X ds = X 47 ds := fun ds hk h => by
 obtain @⟨⟩ | @⟨_, d1, _, _, k1, hk⟩ := hk
 obtain @⟨⟩ | @⟨_, d2, _, _, k2, hk⟩ := hk
 obtain @⟨⟩ | @⟨_, d3, _, _, k3, hk⟩ := hk
 obtain @⟨⟩ | @⟨_, d4, _, _, k4, hk⟩ := hk
 cases hk
 obtain ⟨x1, rfl⟩ := k1
 obtain ⟨x2, rfl, w2⟩ := k2
 obtain ⟨x3, rfl⟩ := k3
 obtain ⟨x4, rfl⟩ := k4
 exact ev47 (fs := x1) (v := x2) (x := x3) (t := x4) n h
theorem evR48 (n : Nat) : ∀ (ds : List D), KsOk (sig 48) ds -> Pre (n + 1) 48 ds -> obsHold X (Pre n) (obK 48) ds /\ (deK 48).eval X ds = X 48 ds := fun ds hk h => by
 obtain @⟨⟩ | @⟨_, d1, _, _, k1, hk⟩ := hk
 obtain @⟨⟩ | @⟨_, d2, _, _, k2, hk⟩ := hk
 obtain @⟨⟩ | @⟨_, d3, _, _, k3, hk⟩ := hk
 obtain @⟨⟩ | @⟨_, d4, _, _, k4, hk⟩ := hk
 obtain @⟨⟩ | @⟨_, d5, _, _, k5, hk⟩ := hk
 obtain @⟨⟩ | @⟨_, d6, _, _, k6, hk⟩ := hk
 cases hk
 obtain ⟨x1, rfl, w1⟩ := k1
 obtain ⟨x2, rfl⟩ := k2
 obtain ⟨x3, rfl⟩ := k3
 obtain ⟨x4, rfl, w4⟩ := k4
 obtain ⟨x5, rfl⟩ := k5
 obtain ⟨x6, rfl⟩ := k6
 exact ev48 x1 x2 x3 x4 x5 x6 n h
theorem evR49 (n : Nat) : ∀ (ds : List D), KsOk (sig 49) ds -> Pre (n + 1) 49 ds -> obsHold X (Pre n) (obK 49) ds /\ (deK 49).eval X ds = X 49 ds := fun ds hk h => by
 obtain @⟨⟩ | @⟨_, d1, _, _, k1, hk⟩ := hk
 obtain @⟨⟩ | @⟨_, d2, _, _, k2, hk⟩ := hk
 obtain @⟨⟩ | @⟨_, d3, _, _, k3, hk⟩ := hk
 obtain @⟨⟩ | @⟨_, d4, _, _, k4, hk⟩ := hk
 cases hk
 obtain ⟨x1, rfl⟩ := k1
 obtain ⟨x2, rfl, w2⟩ := k2
 obtain ⟨x3, rfl⟩ := k3
 obtain ⟨x4, rfl⟩ := k4
 exact ev49 x1 x2 x3 x4 n h
theorem evR50 (n : Nat) : ∀ (ds : List D), KsOk (sig 50) ds -> Pre (n + 1) 50 ds -> obsHold X (Pre n) (obK 50) ds /\ (deK 50).eval X ds = X 50 ds := fun ds hk h => by
 obtain @⟨⟩ | @⟨_, d1, _, _, k1, hk⟩ := hk
 obtain @⟨⟩ | @⟨_, d2, _, _, k2, hk⟩ := hk
 cases hk
 obtain ⟨x1, rfl⟩ := k1
 obtain ⟨x2, rfl⟩ := k2
 exact ev50 x1 x2 n h
theorem evA51 : ∀ (ds : List D), KsOk (sig 51) ds -> side 51 ds -> obsHold X side (obK 51) ds /\ (deK 51).eval X ds = X 51 ds := fun ds hk h => by
 obtain @⟨⟩ | @⟨_, d1, _, _, k1, hk⟩ := hk
 cases hk
 obtain ⟨x1, rfl⟩ := k1
 have e := ev51 x1 (by rw [side_51, decF_enc] at h; exact h) 0
 exact ⟨Obs.mono (fun _ _ h => pre_side h) _ _ e.1, e.2⟩
theorem evA52 : ∀ (ds : List D), KsOk (sig 52) ds -> side 52 ds -> obsHold X side (obK 52) ds /\ (deK 52).eval X ds = X 52 ds := fun ds hk h => by
 obtain @⟨⟩ | @⟨_, d1, _, _, k1, hk⟩ := hk
 obtain @⟨⟩ | @⟨_, d2, _, _, k2, hk⟩ := hk
 cases hk
 obtain ⟨x1, rfl⟩ := k1
 obtain ⟨x2, rfl⟩ := k2
 have e := ev52 x1 x2 0
 exact ⟨Obs.mono (fun _ _ h => pre_side h) _ _ e.1, e.2⟩
theorem evA53 : ∀ (ds : List D), KsOk (sig 53) ds -> side 53 ds -> obsHold X side (obK 53) ds /\ (deK 53).eval X ds = X 53 ds := fun ds hk h => by
 obtain @⟨⟩ | @⟨_, d1, _, _, k1, hk⟩ := hk
 obtain @⟨⟩ | @⟨_, d2, _, _, k2, hk⟩ := hk
 obtain @⟨⟩ | @⟨_, d3, _, _, k3, hk⟩ := hk
 obtain @⟨⟩ | @⟨_, d4, _, _, k4, hk⟩ := hk
 cases hk
 obtain ⟨x1, rfl⟩ := k1
 obtain ⟨x2, rfl⟩ := k2
 obtain ⟨x3, rfl, w3⟩ := k3
 obtain ⟨x4, rfl, w4⟩ := k4
 have e := ev53 x1 x2 x3 x4 0 (by rw [side_53] at h; exact h.1) (by rw [side_53] at h; exact h.2.1) (by rw [side_53] at h; exact h.2.2)
 exact ⟨Obs.mono (fun _ _ h => pre_side h) _ _ e.1, e.2⟩
theorem evA54 : ∀ (ds : List D), KsOk (sig 54) ds -> side 54 ds -> obsHold X side (obK 54) ds /\ (deK 54).eval X ds = X 54 ds := fun ds hk h => by
 obtain @⟨⟩ | @⟨_, d1, _, _, k1, hk⟩ := hk
 cases hk
 obtain ⟨x1, rfl⟩ := k1
 have e := ev54 x1 0
 exact ⟨Obs.mono (fun _ _ h => pre_side h) _ _ e.1, e.2⟩
theorem evA55 : ∀ (ds : List D), KsOk (sig 55) ds -> side 55 ds -> obsHold X side (obK 55) ds /\ (deK 55).eval X ds = X 55 ds := fun ds hk h => by
 obtain @⟨⟩ | @⟨_, d1, _, _, k1, hk⟩ := hk
 cases hk
 obtain ⟨x1, rfl, w1⟩ := k1
 exact ⟨trivial, ev55 x1⟩
theorem evA56 : ∀ (ds : List D), KsOk (sig 56) ds -> side 56 ds -> obsHold X side (obK 56) ds /\ (deK 56).eval X ds = X 56 ds := fun ds hk h => by
 obtain @⟨⟩ | @⟨_, d1, _, _, k1, hk⟩ := hk
 obtain @⟨⟩ | @⟨_, d2, _, _, k2, hk⟩ := hk
 obtain @⟨⟩ | @⟨_, d3, _, _, k3, hk⟩ := hk
 cases hk
 obtain ⟨x1, rfl⟩ := k1
 obtain ⟨x2, rfl, w2⟩ := k2
 obtain ⟨x3, rfl⟩ := k3
 exact ⟨trivial, ev56 x1 x2 x3⟩
theorem evA57 : ∀ (ds : List D), KsOk (sig 57) ds -> side 57 ds -> obsHold X side (obK 57) ds /\ (deK 57).eval X ds = X 57 ds := fun ds hk h => by
 obtain @⟨⟩ | @⟨_, d1, _, _, k1, hk⟩ := hk
 obtain @⟨⟩ | @⟨_, d2, _, _, k2, hk⟩ := hk
 cases hk
 obtain ⟨x1, rfl⟩ := k1
 obtain ⟨x2, rfl, w2⟩ := k2
 exact ⟨trivial, ev57 x1 x2⟩
theorem evA58 : ∀ (ds : List D), KsOk (sig 58) ds -> side 58 ds -> obsHold X side (obK 58) ds /\ (deK 58).eval X ds = X 58 ds := fun ds hk h => by
 obtain @⟨⟩ | @⟨_, d1, _, _, k1, hk⟩ := hk
 obtain @⟨⟩ | @⟨_, d2, _, _, k2, hk⟩ := hk
 cases hk
 obtain ⟨x1, rfl, w1⟩ := k1
 obtain ⟨x2, rfl, w2⟩ := k2
 have e := ev58 x1 x2 0 (wf_u8 w1).1 (wf_u8 w1).2 (by rw [side_58] at h; exact h.2.1) (by rw [side_58] at h; exact h.2.2)
 exact ⟨Obs.mono (fun _ _ h => pre_side h) _ _ e.1, e.2⟩
theorem evA59 : ∀ (ds : List D), KsOk (sig 59) ds -> side 59 ds -> obsHold X side (obK 59) ds /\ (deK 59).eval X ds = X 59 ds := fun ds hk h => by
 obtain @⟨⟩ | @⟨_, d1, _, _, k1, hk⟩ := hk
 obtain @⟨⟩ | @⟨_, d2, _, _, k2, hk⟩ := hk
 obtain @⟨⟩ | @⟨_, d3, _, _, k3, hk⟩ := hk
 cases hk
 obtain ⟨x1, y1, rfl⟩ := k1
 obtain ⟨x2, rfl, w2⟩ := k2
 obtain ⟨x3, rfl⟩ := k3
 have e := ev59 x1 y1 x2 x3 (3 * wFs x1 + 1) h (by omega)
 exact ⟨Obs.mono (fun _ _ h => pre_side h) _ _ e.1, e.2⟩
theorem evA (k : Nat) (hk : known? k = true) (hr : recur k = false) : ∀ (ds : List D), KsOk (sig k) ds -> side k ds -> obsHold X side (obK k) ds /\ (deK k).eval X ds = X k ds := by
 unfold known? at hk
 split at hk
 ·exact evA2
 ·exact evA3
 ·exact evA4
 ·exact evA5
 ·exact evA6
 ·exact evA7
 ·exact evA10
 ·exact evA11
 ·exact evA12
 ·exact evA13
 ·exact evA14
 ·exact evA15
 ·exact evA17
 ·exact evA19
 ·exact evA20
 ·exact evA21
 ·exact evA22
 ·exact evA29
 ·exact evA30
 ·exact evA31
 ·exact evA40
 ·exact evA41
 ·simp [recur] at hr
 ·exact evA45
 ·exact evA46
 ·simp [recur] at hr
 ·simp [recur] at hr
 ·simp [recur] at hr
 ·simp [recur] at hr
 ·exact evA51
 ·exact evA52
 ·exact evA53
 ·exact evA54
 ·exact evA55
 ·exact evA56
 ·exact evA57
 ·exact evA58
 ·exact evA59
 ·cases hk
theorem evR (k : Nat) (hk : known? k = true) (hr : recur k = true) (n : Nat) : ∀ (ds : List D), KsOk (sig k) ds -> Pre (n + 1) k ds -> obsHold X (Pre n) (obK k) ds /\ (deK k).eval X ds = X k ds := by
 unfold known? at hk
 split at hk
 ·simp [recur] at hr
 ·simp [recur] at hr
 ·simp [recur] at hr
 ·simp [recur] at hr
 ·simp [recur] at hr
 ·simp [recur] at hr
 ·simp [recur] at hr
 ·simp [recur] at hr
 ·simp [recur] at hr
 ·simp [recur] at hr
 ·simp [recur] at hr
 ·simp [recur] at hr
 ·simp [recur] at hr
 ·simp [recur] at hr
 ·simp [recur] at hr
 ·simp [recur] at hr
 ·simp [recur] at hr
 ·simp [recur] at hr
 ·simp [recur] at hr
 ·simp [recur] at hr
 ·simp [recur] at hr
 ·simp [recur] at hr
 ·exact evR42 n
 ·simp [recur] at hr
 ·simp [recur] at hr
 ·exact evR47 n
 ·exact evR48 n
 ·exact evR49 n
 ·exact evR50 n
 ·simp [recur] at hr
 ·simp [recur] at hr
 ·simp [recur] at hr
 ·simp [recur] at hr
 ·simp [recur] at hr
 ·simp [recur] at hr
 ·simp [recur] at hr
 ·simp [recur] at hr
 ·simp [recur] at hr
 ·cases hk
def ctrs (tab : List (Nat × Ctr)) (r : Nat) (f : FuncId) : Option Ctr :=
 match lk f tab with
 | some c => if rank c.fn < r || (r == 5 && recur c.fn) then some c else none
 | none => none
def noRd : RK -> Bool
 | .rd _ => false
 | _ => true
theorem good_noRd {c : Ctr} (h : noRd c.res = true) (d : D) : GoodR c d := fun t ht => by rw [ht] at h; cases h
def runOk (P : Program) (tab : List (Nat × Ctr)) (f : FuncId) (c : Ctr) : Bool :=
 match P.funcs[f]? with
 | some fn =>
  match runF ⟨P, ctrs tab (rank c.fn), fun _ _ _ => none⟩ 100000 8 c fn with
  | some (d, os) => noRd c.res && (d.beq (deK c.fn) && obbeqs os (obK c.fn))
  | none => false
 | none => false
def ctrOk? (P : Program) (tab : List (Nat × Ctr)) (f : FuncId) (c : Ctr) : Bool :=
 known? c.fn && areA P (sig c.fn) c.args && c.pre && runOk P tab f c
theorem rank5 {k : Nat} (hk : known? k = true) : rank k = 5 ↔ recur k = true := by
 unfold known? at hk
 split at hk
 all_goals first | cases hk; done | decide
theorem ctrs_some {tab : List (Nat × Ctr)} {r : Nat} {f : FuncId} {c : Ctr} (h : ctrs tab r f = some c) : lk f tab = some c /\ (rank c.fn < r ∨ (r = 5 /\ recur c.fn = true)) := by
 unfold ctrs at h
 split at h
 ·rename_i c' hc
  split at h
  ·rename_i hb
   cases h
   simp only [Bool.or_eq_true, decide_eq_true_eq, Bool.and_eq_true, beq_iff_eq] at hb
   exact ⟨hc, hb⟩
  ·cases h
 ·cases h
theorem one_ok {P : Program} {A B : Nat -> List D -> Prop} {tab : List (Nat × Ctr)} (hnm : NamesOk P) (hord : P.follows .mixedOrders = true) {f : FuncId} {c : Ctr} (hrun : runOk P tab f c = true) (hsig : areA P (sig c.fn) c.args = true) (hpre : c.pre = true)
  (hc : ∀ g d, ctrs tab (rank c.fn) g = some d -> CtrOk P X A g d) (hX : ∀ ds, KsOk (sig c.fn) ds -> B c.fn ds -> obsHold X A (obK c.fn) ds /\ (deK c.fn).eval X ds = X c.fn ds) : CtrOk P X B f c := by
 unfold runOk at hrun
 split at hrun
 rotate_left
 ·cases hrun
 rename_i fn hf
 split at hrun
 rotate_left
 ·cases hrun
 rename_i d os hr
 simp only [Bool.and_eq_true] at hrun
 have e1 := DE.beq_eq hrun.2.1
 have e2 := obbeqs_eq hrun.2.2
 subst e1; subst e2
 exact ctrOk_of_run (C := ⟨P, ctrs tab (rank c.fn), fun _ _ _ => none⟩) hnm hord hc hf hr (fun ok w vs ds hA hp => by
  obtain ⟨q1, q2⟩ := hX ds (areA_ok hsig hA) (hp hpre)
  exact ⟨q1, q2, good_noRd hrun.1 _⟩)
theorem tab_ok {P : Program} {tab : List (Nat × Ctr)} {hand : Nat -> Bool} (hnm : NamesOk P) (hord : P.follows .mixedOrders = true)
  (hh : ∀ f c, lk f tab = some c -> hand c.fn = true -> CtrOk P X side f c) (hchk : ∀ f c, lk f tab = some c -> hand c.fn = false -> ctrOk? P tab f c = true) (hhr : ∀ k, hand k = true -> recur k = false) : ∀ r f c, lk f tab = some c -> rank c.fn = r -> CtrOk P X side f c := by
 intro r
 induction r using Nat.strongRecOn with
 | ind r ih =>
  intro f c hl hr
  cases hx : hand c.fn with
  | true => exact hh f c hl hx
  | false =>
   have h := hchk f c hl hx
   unfold ctrOk? at h
   simp only [Bool.and_eq_true] at h
   obtain ⟨⟨⟨hk, hsig⟩, hpre⟩, hrun⟩ := h
   cases hrec : recur c.fn with
   | false =>
    refine one_ok hnm hord hrun hsig hpre (A := side) (fun g d hg => ?_) (evA c.fn hk hrec)
    obtain ⟨h1, h2⟩ := ctrs_some hg
    rcases h2 with h2 | ⟨h2, _⟩
    ·exact ih _ (by omega) g d h1 rfl
    ·have := (rank5 hk).1 h2
     rw [hrec] at this; cases this
   | true =>
    have h5 : r = 5 := by rw [<- hr]; exact (rank5 hk).2 hrec
    have main : ∀ n f c, lk f tab = some c -> known? c.fn = true -> recur c.fn = true -> areA P (sig c.fn) c.args = true -> c.pre = true -> runOk P tab f c = true -> CtrOk P X (Pre n) f c := by
     intro n
     induction n with
     | zero =>
      intro f c hl hk hrec hsig hpre hrun
      refine one_ok hnm hord hrun hsig hpre (A := fun _ _ => False) (fun g d hg => ?_) (fun ds _ hB => ?_)
      ·have hg' := ctrs_some hg
       have hdx : hand d.fn = false ∨ hand d.fn = true := by cases hand d.fn <;> simp
       have hex : ∃ fn b, P.funcs[g]? = some fn /\ fn.body = some b /\ d.pre = true ∨ CtrOk P X side g d := by
        rcases hdx with hdx | hdx
        ·have h := hchk g d hg'.1 hdx
         unfold ctrOk? at h
         simp only [Bool.and_eq_true] at h
         obtain ⟨⟨⟨_, _⟩, hp⟩, hr⟩ := h
         unfold runOk at hr
         split at hr
         ·rename_i fn hf
          split at hr
          ·rename_i d' os hr'
           unfold runF at hr'
           split at hr'
           ·rename_i body q hb _
            exact ⟨fn, body, .inl ⟨hf, hb, hp⟩⟩
           ·cases hr'
          ·cases hr
         ·cases hr
        ·have := hh g d hg'.1 hdx
         obtain ⟨fn, b, _, _⟩ := this.1
         exact ⟨fn, b, .inr this⟩
       obtain ⟨fn, b, h | h⟩ := hex
       ·exact ⟨⟨fn, b, h.1, h.2.1⟩, fun ok w vs ds _ _ _ h4 => (h4 h.2.2).elim⟩
       ·exact ctr_mono (fun _ h => h.elim) h
      ·exact absurd (hB.1 hrec) (by omega)
     | succ n ihn =>
      intro f c hl hk hrec hsig hpre hrun
      refine one_ok hnm hord hrun hsig hpre (A := Pre n) (fun g d hg => ?_) (evR c.fn hk hrec n)
      obtain ⟨h1, h2⟩ := ctrs_some hg
      have hr5 := (rank5 hk).2 hrec
      by_cases hd : rank d.fn < 5
      ·exact ctr_mono (fun _ h => h.2) (ih (rank d.fn) (by omega) g d h1 rfl)
      ·have hdr : recur d.fn = true := by
        rcases h2 with h2 | h2
        ·omega
        ·exact h2.2
       cases hdx : hand d.fn with
       | true => exact ctr_mono (fun _ h => h.2) (hh g d h1 hdx)
       | false =>
        have h := hchk g d h1 hdx
        unfold ctrOk? at h
        simp only [Bool.and_eq_true] at h
        obtain ⟨⟨⟨q1, q2⟩, q3⟩, q4⟩ := h
        exact ihn g d h1 q1 hdr q2 q3 q4
    have hfin := fun n => main n f c hl hk hrec hsig hpre hrun
    refine ⟨(hfin 0).1, fun ok w vs ds h1 h2 h3 h4 => ?_⟩
    exact (hfin (meas c.fn ds + 1)).2 ok w vs ds h1 h2 h3 (fun hp => ⟨fun _ => by omega, h4 hp⟩)
theorem all_ok {P : Program} {tab : List (Nat × Ctr)} {hand : Nat -> Bool} (hnm : NamesOk P) (hord : P.follows .mixedOrders = true)
  (hh : ∀ f c, lk f tab = some c -> hand c.fn = true -> CtrOk P X side f c) (hchk : ∀ f c, lk f tab = some c -> hand c.fn = false -> ctrOk? P tab f c = true) (hhr : ∀ k, hand k = true -> recur k = false) : ∀ f c, lk f tab = some c -> CtrOk P X side f c :=
 fun f c h => tab_ok hnm hord hh hchk hhr _ f c h rfl
end Go.Mx
namespace Go.Dx
open Go
section
variable {P : Program} {X : Nat -> List D -> D} {Pre : Nat -> List D -> Prop} {δ : List D}
theorem overK_spec {ks : List (Nat × Int)} {ds : List D} (hk : ∀ j k, lk j ks = some k -> ds.getD j .nil = .int k) (g : Gh) : ∀ (l : List SV) (i : Nat), dens X ds g (overK ks i l) = dens X ds g l /\ (oks X ds l -> oks X ds (overK ks i l)) /\ (overK ks i l).length = l.length
 | [], i => ⟨rfl, id, rfl⟩
 | v :: r, i => by
  obtain ⟨h1, h2, h3⟩ := overK_spec hk g r (i + 1)
  have main : ∀ u : SV, overK ks i (v :: r) = u :: overK ks (i + 1) r -> u.den X ds g = v.den X ds g -> (v.ok X ds -> u.ok X ds) -> dens X ds g (overK ks i (v :: r)) = dens X ds g (v :: r) /\ (oks X ds (v :: r) -> oks X ds (overK ks i (v :: r))) /\ (overK ks i (v :: r)).length = (v :: r).length := fun u e e1 e2 => by
   rw [e]
   refine ⟨by simp only [dens]; rw [e1, h1], fun h => ?_, by simp [h3]⟩
   simp only [oks] at h ⊢
   exact ⟨e2 h.1, h2 h.2⟩
  simp only [overK] at main ⊢
  split at main
  ·rename_i t j
   split at main
   ·rename_i k hj
    refine main _ rfl ?_ (fun h => ?_)
    ·simp only [SV.den, DE.eval, hk j k hj]
    ·simp only [SV.ok, SV.okk] at h ⊢
     first
      | trivial
      | (have e := hk j k hj; simp only [DE.eval] at h ⊢; rw [e] at h; exact h)
   ·exact main _ rfl rfl id
  ·exact main _ rfl rfl id
theorem argEnv_some : ∀ (l : List SV) (i s : Nat) (sv : SV), l[s]? = some sv -> lk (i + s) (argEnv i l) = some sv
 | [], _, _, _, h => by simp at h
 | x :: l, i, 0, sv, h => by
  simp only [List.getElem?_cons_zero, Option.some.injEq] at h; subst h
  simp [argEnv, lk]
 | x :: l, i, s + 1, sv, h => by
  simp only [List.getElem?_cons_succ] at h
  have := argEnv_some l (i + 1) s sv h
  have hne : (i + (s + 1) == i) = false := by simp
  simp only [argEnv, lk, hne]
  rw [show i + (s + 1) = i + 1 + s by omega]
  simpa using this
theorem start_memK {ok : Nat -> Prop} {w : World} {ks : List AK} {vs : List Value} {ds : List D} {nt : Nat} {q : Sa} {cs : List (Nat × Int)} (hq : startArgs P 0 ks = some q) (ho : owns ks <= 1) (hnt : ks.length <= nt)
  (h : ArgsOk P ok w ks vs ds) (hok : ∀ b, ok b -> b < w.heap.size /\ ¬ Wr w ks vs b) (hk : ∀ j k, lk j cs = some k -> ds.getD j .nil = .int k) :
  Mem P X (startB ok w ks vs) ds (startS ks.length { q with as := overK cs 0 q.as } nt) (startG ok w ks vs) w /\ Env X ds (startS ks.length { q with as := overK cs 0 q.as } nt) (startG ok w ks vs) { tmps := vs.toArray ++ Array.replicate (nt - vs.toArray.size) undef, defers := [] } := by
 obtain ⟨hm, he⟩ := start_mem (X := X) hq ho hnt h hok
 obtain ⟨o1, o2, o3⟩ := overK_spec (X := X) hk (startG ok w ks vs) q.as 0
 refine ⟨hm.same rfl rfl rfl rfl, ⟨fun s sv hs => ?_, he.df, he.sz⟩⟩
 obtain ⟨_, hs'⟩ := argEnv_lk (overK cs 0 q.as) 0 s sv hs
 rw [Nat.sub_zero] at hs'
 have hlt : s < q.as.length := by rw [<- o3]; exact (List.getElem?_eq_some_iff.1 hs').1
 have hu : q.as[s]? = some q.as[s] := List.getElem?_eq_getElem hlt
 have hl := argEnv_some q.as 0 s _ hu
 rw [Nat.zero_add] at hl
 obtain ⟨t1, _⟩ := he.tm s _ hl
 have e1 : (dens X ds (startG ok w ks vs) (overK cs 0 q.as))[s]? = some (sv.den X ds (startG ok w ks vs)) := by rw [dens_map, List.getElem?_map, hs']; rfl
 have e2 : (dens X ds (startG ok w ks vs) q.as)[s]? = some (q.as[s].den X ds (startG ok w ks vs)) := by rw [dens_map, List.getElem?_map, hu]; rfl
 rw [o1, e2] at e1
 refine ⟨by rw [<- Option.some.inj e1]; exact t1, ?_⟩
 have hall : oks X ds q.as := oks_all.2 fun x hx => by
  obtain ⟨j, hj, hjx⟩ := List.mem_iff_getElem.1 hx
  have := argEnv_some q.as 0 j x (by rw [List.getElem?_eq_getElem hj, hjx])
  rw [Nat.zero_add] at this
  exact (he.tm j x this).2
 exact oks_all.1 (o2 hall) sv (List.mem_of_getElem? hs')
end
section
variable {X : Nat -> List D -> D} {Pre : Nat -> List D -> Prop}
theorem callK {C : Cfg} (hnm : NamesOk C.P) (hord : C.P.follows .mixedOrders = true) (hctr : ∀ f c, C.ctr f = some c -> CtrOk C.P X Pre f c) {n dp : Nat} {f : FuncId} {c : Ctr} {fn : Func} {de : DE} {os : List Ob} {ks : List (Nat × Int)}
  (hf : C.P.funcs[f]? = some fn) (hrun : runFK C n dp c fn ks = some (de, os)) {ok : Nat -> Prop} {w : World} {vs : List Value} {ds : List D} (hA : ArgsOk C.P ok w c.args vs ds)
  (hok : ∀ b, ok b -> b < w.heap.size /\ ¬ Wr w c.args vs b) (hk : ∀ j k, lk j ks = some k -> ds.getD j .nil = .int k) (hob : obsHold X Pre os ds) (hde : de.eval X ds = X c.fn ds) (hgood : GoodR c (X c.fn ds)) :
  Calls C.P f vs.toArray w fun e w' => ∃ v, e = .returned v /\ Fr (Wr w c.args vs) w w' /\ ResOk C.P ok w w' c vs v (X c.fn ds) := by
 unfold runFK at hrun
 split at hrun
 rotate_left
 ·cases hrun
 rename_i body q hbody hq
 split at hrun
 rotate_left
 ·cases hrun
 rename_i hoc
 simp only [Bool.and_eq_true, decide_eq_true_eq] at hoc
 obtain ⟨hoo, hnt⟩ := hoc
 split at hrun
 rotate_left
 ·cases hrun
 rename_i outs houts
 split at hrun
 rotate_left
 ·cases hrun
 rename_i hall
 split at hrun
 rotate_left
 ·cases hrun
 rename_i dl hdl
 split at hrun
 rotate_left
 ·cases hrun
 rename_i d' o' htd hto
 cases hrun
 obtain ⟨hm, he⟩ := start_memK (X := X) hq (owns_le hoo) hnt hA hok hk
 have hsound := exec_sound hnm hord hctr n dp
 refine calls_of_wp hf hbody (wpC_mono_single ?_)
 refine hsound.sound _ ds [body] _ outs _ w _ hm he houts (fun o ho hpc => treeO_sound hto hob (o.pc, o.st.obl) (List.mem_map.2 ⟨o, ho, rfl⟩) hpc) _ (fun o ho hpc g' w' a' k1 k2 k3 => ?_)
 obtain ⟨dd, hod, hdm⟩ := outsD_mem hdl o ho
 unfold outD at hod
 split at hod
 rotate_left
 ·cases hod
 rename_i l hrs
 obtain ⟨d2, hd2, rfl⟩ := Option.map_eq_some_iff.1 hod
 have hev : de.eval X ds = d2.eval X ds := treeD_sound htd _ hdm hpc
 obtain ⟨r1, r2⟩ := results_sound k2 k3 hrs
 have hfr : Fr (Wr w c.args vs) w w' := k2.fr
 have hres : ResOk C.P ok w w' c vs ((tupS l).den X ds g') (X c.fn ds) := by
  rw [<- hde, hev]
  have k1' : Ext (startS c.args.length q fn.ntmps) (startG ok w c.args vs) o.st g' := ⟨fun n vi hn => k1.rv n vi hn, fun o cs ho => k1.rb o cs ho⟩
  exact ret_ok k2 hoo hq hA k1' r2 hd2 (fun t ht => by rw [<- hev, hde]; exact hgood t ht)
 have hpost : a'.defers = [] /\ ∃ v, (results fn a'.tmps).run C.P w' = .ok v w' /\ (∃ v', Ending.returned v = .returned v' /\ Fr (Wr w c.args vs) w w' /\ ResOk C.P ok w w' c vs v' (X c.fn ds)) :=
  ⟨k3.df, _, r1, _, rfl, hfr, hres⟩
 rcases allRet_ex hall o ho with hx | hx
 ·rw [hx]; exact hpost
 ·rw [hx]; exact hpost
end
end Go.Dx
namespace Go.Mx
open Go Go.Dx
mutual
def flE : Fl -> DE
 | .mk k f t n g d o s => .f .mkrow [.k (.int k), .k (.int f), .k (.int t), .k (.int n), .k (.int g), .k (.int d), .k (.int o), scE s]
def scE : Option (List Fl) -> DE
 | none => .k .nil
 | some l => .f .mklist (flEs l)
def flEs : List Fl -> List DE
 | [] => []
 | f :: r => flE f :: flEs r
end
mutual
theorem flE_eval (δ : List D) : ∀ f : Fl, (flE f).eval X δ = f.d
 | .mk k f t n g d o s => by
  simp only [flE, ev_f, evs_cons, evs_nil, ev_k, fe_mkrow, scE_eval δ s, Fl.d]
theorem scE_eval (δ : List D) : ∀ s : Option (List Fl), (scE s).eval X δ = encF s
 | none => rfl
 | some l => by simp only [scE, ev_f, fe_mklist, flEs_eval δ l, encF]
theorem flEs_eval (δ : List D) : ∀ l : List Fl, evals X (flEs l) δ = fds l
 | [] => rfl
 | f :: r => by simp only [flEs, evs_cons, flE_eval δ f, flEs_eval δ r, fds]
end
structure Made (m : Nat) (fs : Option (List Fl)) (fx most : Int) : Prop where
 wf : wfFs fs = true
 most0 : 0 <= most
 most1 : most <= 1000
 made : ∀ (v : Int) (t : T), 0 <= v -> v <= most -> fitsTo t = true -> (partS fs v (Flexible fx v) t).length <= lim -> (X m [.int v, (given (FitS fs v t)).d]).asStr = partS fs v (Flexible fx v) t /\ side m [.int v, (given (FitS fs v t)).d]
end Go.Mx
namespace Go.Mx
open Go Go.Dx
theorem wfTl_all : ∀ {l : List T}, wfTl l = true ↔ ∀ x ∈ l, wfT x = true
 | [] => by simp [wfTl]
 | a :: l => by simp [wfTl, wfTl_all (l := l)]
section
variable {P : Program} {ok : Nat -> Prop} {w : World}
theorem isI_u32 {n : Int} (h : (Lit.int .u32 n).wf = true) : 0 <= n /\ n < 4294967296 := by
 simp [Lit.wf, IntKind.min, IntKind.max, IntKind.signed, IntKind.bits] at h; omega
theorem rep_tagW {t : TypeId} {v : Value} {x : Tg} (h : isTag P t = true) (hr : Rep P ok w t v x.d) : wfTg x = true := by
 unfold isTag at h
 simp only [Bool.and_eq_true] at h
 obtain ⟨ha, h⟩ := h
 obtain ⟨ds, hd, hlen, hcell⟩ := rep_row ha hr
 have hd' : ds = [.int x.key, encB x.val] := by simp only [Tg.d, D.row.injEq] at hd; exact hd.symm
 subst hd'
 split at h
 ·rename_i a b hty
  simp only [Bool.and_eq_true] at h
  rw [hty] at hcell
  obtain ⟨v1, r1⟩ := hcell 0 a _ rfl rfl
  obtain ⟨n, hn, hw⟩ := rep_int h.1 r1
  cases hn
  have := isI_u32 hw
  simp [wfTg, this]
 ·cases h
theorem rep_tagsW {t : TypeId} {v : Value} {l : Option (List Tg)} (h : isTags P t = true) (hr : Rep P ok w t v (encU l)) : (l.getD []).all wfTg = true := by
 unfold isTags at h
 split at h
 ·rename_i e he
  rcases rep_list he (isTag_agg h) hr with hx | ⟨ds, hx, hall⟩
  ·cases l with
   | none => rfl
   | some l => simp [encU] at hx
  ·cases l with
   | none => rfl
   | some l =>
    simp only [encU, D.list.injEq] at hx
    subst hx
    refine List.all_eq_true.2 fun x hx => ?_
    obtain ⟨v', hv⟩ := hall x.d (List.mem_map.2 ⟨x, hx, rfl⟩)
    exact rep_tagW h hv
 ·cases h
theorem rep_treeW {t : TypeId} {v : Value} {d : D} (hr : Rep P ok w t v d) : (isTree P t = true -> ∀ x : T, d = x.d -> wfT x = true) /\ ∀ e, sl P t = some e -> isTree P e = true -> ∀ l, d = encT l -> wfTo l = true := by
 have noAgg : ∀ {t : TypeId} {d : TypeDesc}, P.underlying t = some d -> isAggD d = false -> ¬ isTree P t = true := fun hu hd h => by
  obtain ⟨d', hu', ha⟩ := agg_eq (isTree_agg h)
  rw [hu] at hu'; cases hu'; rw [hd] at ha; cases ha
 have noSl : ∀ {t e : TypeId} {d : TypeDesc}, P.underlying t = some d -> sl P t = some e -> d = .slice e := fun hu h => by
  have := sl_eq h
  rw [hu] at this; cases this; rfl
 induction hr with
 | int hu _ => exact ⟨fun h => absurd h (noAgg hu rfl), fun e he => absurd (noSl hu he) (by simp)⟩
 | bool hu => exact ⟨fun h => absurd h (noAgg hu rfl), fun e he => absurd (noSl hu he) (by simp)⟩
 | str hu _ => exact ⟨fun h => absurd h (noAgg hu rfl), fun e he => absurd (noSl hu he) (by simp)⟩
 | flt hu => exact ⟨fun h => absurd h (noAgg hu rfl), fun e he => absurd (noSl hu he) (by simp)⟩
 | snil hu =>
  refine ⟨fun h => absurd h (noAgg hu rfl), fun e he ht l hl => ?_⟩
  cases l with
  | none => rfl
  | some l => simp [encT] at hl
 | bytes hu he8 _ _ _ _ =>
  refine ⟨fun h => absurd h (noAgg hu rfl), fun e he ht => ?_⟩
  have := noSl hu he
  cases this
  exact absurd ht (noAgg he8 rfl)
 | list hu he8 hi hok hlen hcap hmax hsz hc hr ih =>
  rename_i t' e' cap ad i vs ds
  refine ⟨fun h => absurd h (noAgg hu rfl), fun e he ht l hl => ?_⟩
  have := noSl hu he
  cases this
  cases l with
  | none => rfl
  | some l =>
   simp only [encT, D.list.injEq, tds_map] at hl
   subst hl
   refine wfTl_all.2 fun x hx => ?_
   obtain ⟨j, hj, hjx⟩ := List.mem_iff_getElem.1 hx
   have hj1 : (l.map T.d)[j]? = some x.d := by rw [List.getElem?_map, List.getElem?_eq_getElem hj, hjx]; rfl
   have hj2 : j < vs.length := by simp at hlen; omega
   exact (ih j _ _ (List.getElem?_eq_getElem hj2) hj1).1 ht x rfl
 | row hu hd hlen hlen' h1 hr ih =>
  rename_i t' d' vs ds
  refine ⟨fun h x hx => ?_, fun e he ht => ?_⟩
  rotate_left
  ·have := noSl hu he
   subst this
   simp [isAggD] at hd
  have h0 := h
  unfold isTree at h
  simp only [Bool.and_eq_true] at h
  obtain ⟨ha, h⟩ := h
  split at h
  ·rename_i a b c d'' e hty
   simp only [Bool.and_eq_true, decide_eq_true_eq] at h
   obtain ⟨⟨⟨⟨q1, q2⟩, q3⟩, q4⟩, q5⟩ := h
   obtain ⟨n, s, bb, l, u⟩ := x
   simp only [T.d, D.row.injEq] at hx
   subst hx
   have cell : ∀ (j : Nat), j < 5 -> ∃ v', vs[j]? = some v' := fun j hj => by
    have hj2 : j < vs.length := by rw [hlen, hty]; exact hj
    exact ⟨vs[j], List.getElem?_eq_getElem hj2⟩
   rw [hty] at hr ih
   obtain ⟨v1, r1⟩ := cell 0 (by omega)
   obtain ⟨v4, r4⟩ := cell 3 (by omega)
   obtain ⟨v5, r5⟩ := cell 4 (by omega)
   obtain ⟨n', hn, hw⟩ := rep_int q1 (hr 0 a v1 _ rfl r1 rfl)
   cases hn
   have hl := (ih 3 d'' v4 _ rfl r4 rfl).2 t' q4 h0 l rfl
   have hu := rep_tagsW q5 (hr 4 e v5 _ rfl r5 rfl)
   simp only [wfT, Bool.and_eq_true]
   exact ⟨⟨hw, hl⟩, hu⟩
  ·cases h
 | pnil hu => exact ⟨fun h => absurd h (noAgg hu rfl), fun e he => absurd (noSl hu he) (by simp)⟩
 | ptr hu _ _ _ _ => exact ⟨fun h => absurd h (noAgg hu rfl), fun e he => absurd (noSl hu he) (by simp)⟩
 | mnil hu => exact ⟨fun h => absurd h (noAgg hu rfl), fun e he => absurd (noSl hu he) (by simp)⟩
 | map hu _ _ _ _ _ _ _ _ _ _ => exact ⟨fun h => absurd h (noAgg hu rfl), fun e he => absurd (noSl hu he) (by simp)⟩
end
end Go.Mx
namespace Go.Mx
open Go Go.Dx
theorem insTag_mem (x : Tg) : ∀ (l : List Tg) (y : Tg), y ∈ insTag x l -> y = x ∨ y ∈ l
 | [], y, h => by simp [insTag] at h; exact .inl h
 | t :: r, y, h => by
  simp only [insTag] at h
  split at h
  ·rcases List.mem_cons.1 h with rfl | h
   ·simp
   ·rcases insTag_mem x r y h with h | h
    ·exact .inl h
    ·exact .inr (by simp [h])
  ·split at h
   ·exact .inr h
   ·rcases List.mem_cons.1 h with h | h
    ·exact .inl h
    ·exact .inr h
theorem insTag_srt (x : Tg) : ∀ (l : List Tg), SrtT l -> SrtT (insTag x l)
 | [], _ => by simp [insTag, SrtT]
 | t :: r, h => by
  obtain ⟨h1, h2⟩ := List.pairwise_cons.1 h
  simp only [insTag]
  split
  ·rename_i hlt
   refine List.pairwise_cons.2 ⟨fun y hy => ?_, insTag_srt x r h2⟩
   rcases insTag_mem x r y hy with rfl | hy
   ·exact hlt
   ·exact h1 y hy
  ·split
   ·exact h
   ·refine List.pairwise_cons.2 ⟨fun y hy => ?_, h⟩
    rcases List.mem_cons.1 hy with rfl | hy
    ·omega
    ·have := h1 y hy; omega
theorem insTag_last (x : Tg) : ∀ (l : List Tg), (∀ y ∈ l, y.key < x.key) -> insTag x l = l ++ [x]
 | [], _ => rfl
 | t :: r, h => by
  simp only [insTag, if_pos (h t (by simp))]
  rw [insTag_last x r (fun y hy => h y (by simp [hy]))]; rfl
theorem unk_fold (k : Int) : ∀ (l out : List Tg), SrtT out -> (∀ y ∈ out, k <= y.key) -> SrtT (l.foldl (fun out t => if t.key < k then out else insTag t out) out) /\ ∀ y ∈ l.foldl (fun out t => if t.key < k then out else insTag t out) out, k <= y.key /\ (y ∈ out ∨ y ∈ l)
 | [], out, h, hk => ⟨h, fun y hy => ⟨hk y hy, .inl hy⟩⟩
 | t :: l, out, h, hk => by
  simp only [List.foldl]
  by_cases c : t.key < k
  ·rw [if_pos c]
   obtain ⟨a, b⟩ := unk_fold k l out h hk
   exact ⟨a, fun y hy => ⟨(b y hy).1, (b y hy).2.imp id (fun h => by simp [h])⟩⟩
  ·rw [if_neg c]
   obtain ⟨a, b⟩ := unk_fold k l (insTag t out) (insTag_srt t out h) (fun y hy => by
    rcases insTag_mem t out y hy with rfl | hy
    ·omega
    ·exact hk y hy)
   refine ⟨a, fun y hy => ⟨(b y hy).1, ?_⟩⟩
   rcases (b y hy).2 with h | h
   ·rcases insTag_mem t out y h with rfl | h
    ·exact .inr (by simp)
    ·exact .inl h
   ·exact .inr (by simp [h])
theorem unk_spec (fs : List Fl) (u : Option (List Tg)) : SrtT (unknown fs u) /\ ∀ y ∈ unknown fs u, (known fs : Int) <= y.key /\ y ∈ u.getD [] := by
 obtain ⟨a, b⟩ := unk_fold (known fs) ((u.getD []).take Most) [] List.Pairwise.nil (fun y hy => by cases hy)
 refine ⟨a, fun y hy => ⟨(b y hy).1, ?_⟩⟩
 rcases (b y hy).2 with h | h
 ·cases h
 ·exact List.mem_of_mem_take h
theorem unk_again (k : Int) : ∀ (l out : List Tg), SrtT (out ++ l) -> (∀ y ∈ l, k <= y.key) -> l.foldl (fun out t => if t.key < k then out else insTag t out) out = out ++ l
 | [], out, _, _ => by simp
 | t :: l, out, h, hk => by
  simp only [List.foldl]
  rw [if_neg (by have := hk t (by simp); omega), insTag_last t out (fun y hy => (List.pairwise_append.1 h).2.2 y hy t (by simp))]
  rw [unk_again k l (out ++ [t]) (by simpa using h) (fun y hy => hk y (by simp [hy]))]
  simp
theorem unk_id (fs : List Fl) (l : List Tg) (h : SrtT l) (hk : ∀ y ∈ l, (known fs : Int) <= y.key) (hl : l.length <= Most) : unknown fs (nz l) = l := by
 unfold unknown
 rw [nz_getD, List.take_of_length_le hl]
 have := unk_again (known fs) l [] (by simpa using h) hk
 simpa using this
theorem srt_cut {l : List Tg} (h : SrtT l) : SrtT (l.map cut) := List.pairwise_map.2 (h.imp fun h => h)
theorem unk_cut (fs : List Fl) (u : Option (List Tg)) : unknown fs (nz ((unknown fs u).map cut)) = (unknown fs u).map cut := by
 obtain ⟨a, b⟩ := unk_spec fs u
 refine unk_id fs _ (srt_cut a) (fun y hy => ?_) (by rw [List.length_map]; exact unknown_len fs u)
 obtain ⟨z, hz, rfl⟩ := List.mem_map.1 hy
 exact (b z hz).1
theorem unkB_cut (x : Tg) : unkB (cut x) = unkB x := by
 unfold unkB cut
 simp only [whole_getD]
 rw [List.take_take]; simp
mutual
def okU : Fl -> Bool
 | .mk _ _ _ n _ _ _ s => decide (n <= 0) && okUs s
def okUs : Option (List Fl) -> Bool
 | none => true
 | some l => okUl l
def okUl : List Fl -> Bool
 | [] => true
 | f :: r => okU f && okUl r
end
mutual
def okG : Fl -> Bool
 | .mk k a b n g d o s => (decide (g < 0) || (okU (.mk k a b n g d o s) && (decide (k ≠ 11) || decide (n < 0)))) && (decide (k ≠ 11) || decide (o ≠ 11)) && okGs s
def okGs : Option (List Fl) -> Bool
 | none => true
 | some l => okGl l
def okGl : List Fl -> Bool
 | [] => true
 | f :: r => okG f && okGl r
end
theorem okGl_all : ∀ {l : List Fl}, okGl l = true -> ∀ f ∈ l, okG f = true
 | a :: l, h, f, hf => by
  simp only [okGl, Bool.and_eq_true] at h
  rcases List.mem_cons.1 hf with rfl | hf
  ·exact h.1
  ·exact okGl_all h.2 f hf
theorem at_nz (l : List T) (i : Nat) (n : Int) (s : Option (List UInt8)) (b : Bool) (u : Option (List Tg)) : at' (.mk n s b (nz l) u) i = l.getD i T.zero := by
 have : (T.mk n s b (nz l) u).L = l := by show (nz l).getD [] = l; exact nz_getD l
 unfold at'
 rw [this]
 by_cases h : i < l.length
 ·rw [if_pos (by omega)]; rfl
 ·rw [if_neg (by omega), List.getD_eq_getElem?_getD, List.getElem?_eq_none (by omega)]; rfl
theorem mapI_congr {A B : Type} {g g' : Nat -> A -> B} : ∀ (l : List A) (k : Nat), (∀ i a, l[i]? = some a -> g (k + i) a = g' (k + i) a) -> mapI g k l = mapI g' k l
 | [], _, _ => rfl
 | a :: l, k, h => by
  simp only [mapI]
  have h0 : g k a = g' k a := h 0 a rfl
  have h1 : mapI g (k + 1) l = mapI g' (k + 1) l := mapI_congr l (k + 1) (fun i b hb => by
   have := h (i + 1) b hb
   rwa [show k + (i + 1) = k + 1 + i by omega] at this)
  rw [h0, h1]
theorem given_eq (n : Int) (s : Option (List UInt8)) (b : Bool) (l : List T) (u : Option (List Tg)) : given (.mk n s b (nz l) u) = .mk n s b (nz (l.map given)) (nz (u.getD [])) := by
 cases l with
 | nil => rfl
 | cons a l => simp only [nz, given, givenO, givenL_map]
theorem gF (fs : Option (List Fl)) (v : Int) (t : T) : given (FitS fs v t) = .mk 0 none false (nz (mapI (fun i f => given (fitted f v (at' t i))) 0 (fs.getD []))) (nz ((unknown (fs.getD []) t.u).map cut)) := by
 rw [FitS_eq, given_eq, mapI_map, nz_getD]
theorem at_gF (fs : Option (List Fl)) (v : Int) (t : T) (i : Nat) (f : Fl) (h : (fs.getD [])[i]? = some f) : at' (given (FitS fs v t)) i = given (fitted f v (at' t i)) := by
 rw [gF, at_nz, List.getD_eq_getElem?_getD, mapI_get _ _ 0 i f h, Nat.zero_add]; rfl
theorem u_gF (fs : Option (List Fl)) (v : Int) (t : T) : unknown (fs.getD []) (given (FitS fs v t)).u = (unknown (fs.getD []) t.u).map cut := by
 rw [gF]; exact unk_cut _ _
theorem given_n (t : T) : (given t).n = t.n := by cases t; rfl
theorem given_s (t : T) : (given t).s = t.s := by cases t; rfl
theorem given_null (t : T) : (given t).null = t.null := by cases t; rfl
theorem given_L (t : T) : (given t).L = t.L.map given := by
 obtain ⟨n, s, b, l, u⟩ := t
 show (givenO l).getD [] = (l.getD []).map given
 cases l with
 | none => rfl
 | some l => rw [givenO, nz_getD, givenL_map]; rfl
theorem given_u (t : T) : (given t).u = nz t.U := by cases t; rfl
end Go.Mx
namespace Go.Mx
open Go Go.Dx
theorem partS_nl (fs : Option (List Fl)) (v : Int) (x : Bool) {a b : T} (hl : a.L = b.L) (hu : unknown (fs.getD []) a.u = unknown (fs.getD []) b.u) : partS fs v x a = partS fs v x b := by
 have hat : ∀ i, at' a i = at' b i := fun i => by unfold at'; rw [hl]
 have e : rowP v x a = rowP v x b := by funext i f; unfold rowP; rw [hat]
 rw [partS_eq, partS_eq]
 unfold partB
 rw [e, hu]
theorem usualS_nl (fs : Option (List Fl)) {a b : T} (hl : a.L = b.L) (hu : unknown (fs.getD []) a.u = unknown (fs.getD []) b.u) : usualS fs a = usualS fs b := by
 rw [usualS_eq, usualS_eq, hu]
 have hat : ∀ i, at' a i = at' b i := fun i => by unfold at'; rw [hl]
 have : ∀ (l : List Fl) (i : Nat), usualL l i a = usualL l i b := fun l => by
  induction l with
  | nil => intro i; rfl
  | cons f r ih => intro i; rw [usualL, usualL, hat, ih]
 rw [this]
def gB (kind : Int) (b : Bool) (sub : Option (List Fl)) (v : Int) (t : T) : T := given (fittedB kind b t (FitS sub v t))
theorem gB_null (kind : Int) (b : Bool) (sub : Option (List Fl)) (v : Int) (t : T) : (gB kind b sub v t).null = if kind = 8 ∨ kind = 9 ∨ kind = 10 then b else false := by
 unfold gB fittedB
 rw [given_null]
 by_cases h1 : kind = 8 ∨ kind = 9
 ·rw [if_pos h1, if_pos (by omega)]; rfl
 ·rw [if_neg h1]
  by_cases h2 : kind = 10
  ·rw [if_pos h2, if_pos (by omega)]; rfl
  ·rw [if_neg h2, if_neg (by omega)]; rfl
theorem gB_S (kind : Int) (b : Bool) (sub : Option (List Fl)) (v : Int) (t : T) (h : kind ≠ 10) : (gB kind b sub v t).S = if kind = 8 ∨ kind = 9 then t.S.take Most else t.S := by
 unfold gB fittedB T.S
 rw [given_s]
 by_cases h1 : kind = 8 ∨ kind = 9
 ·rw [if_pos h1, if_pos h1]; exact whole_getD _
 ·rw [if_neg h1, if_neg h1, if_neg h]; rfl
theorem gB_n (kind : Int) (b : Bool) (sub : Option (List Fl)) (v : Int) (t : T) (h : kind ≠ 10) (h8 : kind ≠ 8) (h9 : kind ≠ 9) : (gB kind b sub v t).n = t.n := by
 unfold gB fittedB
 rw [given_n, if_neg (by omega), if_neg h]; rfl
theorem gB_10 (b : Bool) (sub : Option (List Fl)) (v : Int) (t : T) : (gB 10 b sub v t).L = (given (FitS sub v t)).L /\ (gB 10 b sub v t).u = (given (FitS sub v t)).u := by
 unfold gB fittedB
 rw [if_neg (by decide), if_pos rfl, given_L, given_L, given_u, given_u]
 exact ⟨rfl, rfl⟩
theorem partS_gB (b : Bool) (sub : Option (List Fl)) (v : Int) (x : Bool) (t : T) : partS sub v x (gB 10 b sub v t) = partS sub v x (given (FitS sub v t)) :=
 partS_nl _ _ _ (gB_10 b sub v t).1 (by rw [(gB_10 b sub v t).2])
theorem take_take_self {A : Type} (l : List A) (n : Nat) : (l.take n).take n = l.take n := by rw [List.take_take]; simp
theorem valueG (kind : Int) (b : Bool) (sub : Option (List Fl)) (v : Int) (x : Bool) (t : T) (hp : partS sub v x (given (FitS sub v t)) = partS sub v x t) :
  valueB kind b x (gB kind b sub v t) (partS sub v x (gB kind b sub v t)) = valueB kind b x t (partS sub v x t) := by
 by_cases h10 : kind = 10
 ·subst h10
  unfold valueB
  simp only [show ¬ ((10 : Int) = 0) by decide, show ¬ ((10 : Int) = 7) by decide, show ¬ ((10 : Int) = 8) by decide, show ¬ ((10 : Int) = 9) by decide, if_true, if_false]
  rw [partS_gB, hp]
 ·unfold valueB
  by_cases h8 : kind = 8
  ·subst h8
   rw [gB_S _ _ _ _ _ (by omega), if_pos (show (8 : Int) = 8 ∨ (8 : Int) = 9 from .inl rfl)]
   simp only [show ¬ ((8 : Int) = 0) by decide, show ¬ ((8 : Int) = 7) by decide, if_true, if_false, take_take_self]
  ·by_cases h9 : kind = 9
   ·subst h9
    rw [gB_S _ _ _ _ _ (by omega), if_pos (show (9 : Int) = 8 ∨ (9 : Int) = 9 from .inr rfl)]
    simp only [show ¬ ((9 : Int) = 0) by decide, show ¬ ((9 : Int) = 7) by decide, show ¬ ((9 : Int) = 8) by decide, if_true, if_false, take_take_self]
   ·rw [gB_S _ _ _ _ _ h10, gB_n _ _ _ _ _ h10 h8 h9, if_neg (show ¬ (kind = 8 ∨ kind = 9) by omega)]
    simp only [h8, h9, h10, if_false]
theorem fitted_ne (k fr to nl tg df of : Int) (sub : Option (List Fl)) (v : Int) (t : T) (h : k ≠ 11) : given (fitted (.mk k fr to nl tg df of sub) v t) = gB k (Mx.null (.mk k fr to nl tg df of sub) v t) sub v t := by
 rw [fitted, if_neg h]; rfl
theorem fitted_11 (fr to nl tg df of : Int) (sub : Option (List Fl)) (v : Int) (t : T) : given (fitted (.mk 11 fr to nl tg df of sub) v t) = .mk 0 none (Mx.null (.mk 11 fr to nl tg df of sub) v t || (decide (0 <= tg) && t.L.length == 0)) (nz ((t.L.take Most).map (gB of false sub v))) none := by
 rw [fitted, if_pos rfl, given_eq, List.map_map]; rfl
theorem mk_L (n : Int) (s : Option (List UInt8)) (b : Bool) (l : List T) (u : Option (List Tg)) : (T.mk n s b (nz l) u).L = l := by show (nz l).getD [] = l; exact nz_getD l
theorem null_eq (f : Fl) (v : Int) (t : T) : Mx.null f v t = (t.null && (decide (0 <= f.null) && decide (f.null <= v))) := rfl
theorem usualL_at : ∀ (l : List Fl) (a b : T) (i : Nat), (∀ k f, l[k]? = some f -> usual f (at' a (i + k : Nat)) = usual f (at' b (i + k : Nat))) -> usualL l i a = usualL l i b
 | [], _, _, _, _ => rfl
 | f :: r, a, b, i, h => by
  rw [usualL, usualL, show usual f (at' a i) = usual f (at' b i) from h 0 f rfl, usualL_at r a b (i + 1) (fun k g hg => by
   have := h (k + 1) g hg
   rwa [show i + (k + 1) = i + 1 + k by omega] at this)]
theorem usual_mk (k fr to nl tg df of : Int) (sub : Option (List Fl)) (t : T) : usual (.mk k fr to nl tg df of sub) t = if k = 0 then decide (t.n % 2 = df) else if k = 7 then (t.S.take 16).all (· == 0) else
  if k = 8 ∨ k = 9 then (if 0 <= nl then t.null else t.S.length == 0) else if k = 11 then t.L.length == 0 else
  if k = 10 then usualS sub t else Fixed t.n (width k).toNat == Fixed df (width k).toNat := by
 rw [usual]
mutual
theorem usualG : ∀ (f : Fl) (v : Int) (t : T), 0 <= v -> okU f = true -> usual f (given (fitted f v t)) = usual f t
 | .mk k fr to nl tg df of sub, v, t, hv, h => by
  simp only [okU, Bool.and_eq_true, decide_eq_true_eq] at h
  obtain ⟨hn, hs⟩ := h
  have hsub := usualGs sub v t hv hs
  rw [usual_mk, usual_mk]
  by_cases h11 : k = 11
  ·subst h11
   rw [fitted_11]
   simp only [show ¬ ((11 : Int) = 0) by decide, show ¬ ((11 : Int) = 7) by decide, show ¬ ((11 : Int) = 8 ∨ (11 : Int) = 9) by decide, if_true, if_false]
   rw [mk_L]
   have : ((t.L.take Most).map (gB of false sub v)).length = min Most t.L.length := by simp
   rw [this]
   have e : (min Most t.L.length == 0) = (t.L.length == 0) := by
    rw [Bool.eq_iff_iff]; simp [Most]
   rw [e]
  ·rw [fitted_ne _ _ _ _ _ _ _ _ _ _ h11]
   by_cases h10 : k = 10
   ·subst h10
    simp only [show ¬ ((10 : Int) = 0) by decide, show ¬ ((10 : Int) = 7) by decide, show ¬ ((10 : Int) = 8 ∨ (10 : Int) = 9) by decide, show ¬ ((10 : Int) = 11) by decide, if_true, if_false]
    rw [<- hsub]
    exact usualS_nl _ (gB_10 _ sub v t).1 (by rw [(gB_10 _ sub v t).2])
   ·rw [gB_S _ _ _ _ _ h10, gB_null]
    by_cases h89 : k = 8 ∨ k = 9
    ·have h0 : k ≠ 0 := by omega
     have h7 : k ≠ 7 := by omega
     have h8a : k = 8 ∨ k = 9 ∨ k = 10 := by omega
     simp only [if_neg h0, if_neg h7, if_pos h89, if_pos h8a]
     by_cases hz : 0 <= nl
     ·have : nl = 0 := by omega
      subst this
      simp [Mx.null, Fl.null, hv]
     ·rw [if_neg hz, if_neg hz]
      have : (t.S.take Most).length = min Most t.S.length := by simp
      rw [this, Bool.eq_iff_iff]; simp [Most]
    ·rw [gB_n _ _ _ _ _ h10 (by omega) (by omega)]
     simp only [if_neg h89, if_neg h10, if_neg h11]
theorem usualGs : ∀ (fs : Option (List Fl)) (v : Int) (t : T), 0 <= v -> okUs fs = true -> usualS fs (given (FitS fs v t)) = usualS fs t
 | none, v, t, hv, h => by
  rw [usualS_eq, usualS_eq, u_gF, List.length_map]; rfl
 | some l, v, t, hv, h => by
  have hl := usualGl l v hv h
  have e : usualL l 0 (given (FitS (some l) v t)) = usualL l 0 t := usualL_at l _ _ 0 (fun k f hk => by
   have := hl f (List.mem_of_getElem? hk) (at' t k)
   rw [Nat.zero_add, at_gF (some l) v t k f hk]; exact this)
  rw [usualS_eq, usualS_eq, u_gF, List.length_map]
  show (usualL l 0 (given (FitS (some l) v t)) && _) = (usualL l 0 t && _)
  rw [e]
theorem usualGl : ∀ (l : List Fl) (v : Int), 0 <= v -> okUl l = true -> ∀ f ∈ l, ∀ t, usual f (given (fitted f v t)) = usual f t
 | [], _, _, _, f, hf, _ => by cases hf
 | g :: r, v, hv, h, f, hf, t => by
  simp only [okUl, Bool.and_eq_true] at h
  rcases List.mem_cons.1 hf with h1 | h1
  ·rw [h1]; exact usualG g v t hv h.1
  ·exact usualGl r v hv h.2 f h1 t
end
theorem filterMap_eq {A : Type} {a b : List A} {B : Type} (p : A -> Option B) (h : a.map p = b.map p) : a.filterMap p = b.filterMap p := by
 have e : ∀ l : List A, l.filterMap p = (l.map p).filterMap id := fun l => by rw [List.filterMap_map]; rfl
 rw [e, e, h]
theorem partB_cut (v : Int) (x : Bool) (fs : List Fl) (u u' : Option (List Tg)) (rows rows' : List (Fl × T × List UInt8)) (hu : unknown fs u' = (unknown fs u).map cut)
  (h1 : (rows'.map fun r => if r.1.tag < 0 /\ has r.1 v = true then r.2.2 else []) = rows.map fun r => if r.1.tag < 0 /\ has r.1 v = true then r.2.2 else [])
  (h2 : ∀ g : Nat, (rows'.map fun r => if r.1.tag = (g : Int) /\ usual r.1 r.2.1 = false then some (tagB g r.2.2) else none) = rows.map fun r => if r.1.tag = (g : Int) /\ usual r.1 r.2.1 = false then some (tagB g r.2.2) else none) : partB v x fs u' rows' = partB v x fs u rows := by
 unfold partB
 have ht : tagsB rows' (known fs) = tagsB rows (known fs) := by
  unfold tagsB
  congr 1
  funext g
  exact filterMap_eq _ (h2 g)
 have hm : (unknown fs u').map (fun x => tagB (IntKind.u64.wrap x.key).toNat ((x.val.getD []).take Most)) = (unknown fs u).map (fun x => tagB (IntKind.u64.wrap x.key).toNat ((x.val.getD []).take Most)) := by
  rw [hu, List.map_map]
  apply List.map_congr_left
  intro z _
  exact unkB_cut z
 rw [h1, ht, hm]
mutual
theorem fieldG : ∀ (f : Fl) (v : Int) (x : Bool) (t : T), 0 <= v -> okG f = true -> (f.tag < 0 ∨ usual f t = false) -> field f v x (given (fitted f v t)) = field f v x t
 | .mk k fr to nl tg df of sub, v, x, t, hv, h, hu => by
  simp only [okG, Bool.and_eq_true, Bool.or_eq_true, decide_eq_true_eq] at h
  obtain ⟨⟨hg, ho⟩, hs⟩ := h
  have hsub : ∀ t, partS sub v x (given (FitS sub v t)) = partS sub v x t := fun t => partG sub v x t hv hs
  rw [field_eq, field_eq]
  simp only [Fl.kind, Fl.null, Fl.sub, Fl.of]
  by_cases h11 : k = 11
  ·subst h11
   have hn : Mx.null (.mk 11 fr to nl tg df of sub) v (given (fitted (.mk 11 fr to nl tg df of sub) v t)) = Mx.null (.mk 11 fr to nl tg df of sub) v t := by
    rw [fitted_11, null_eq]
    simp only [T.null, Fl.null]
    rcases hu with hu | hu
    ·simp only [Fl.tag] at hu
     have : decide (0 <= tg) = false := by simp; omega
     rw [this, null_eq]
     simp only [Fl.null]
     cases t.null <;> cases decide (0 <= nl) <;> cases decide (nl <= v) <;> simp
    ·have h5 : (t.L.length == 0) = false := by
      rw [usual_eq] at hu
      simpa [Fl.kind] using hu
     rw [h5, null_eq]
     simp only [Fl.null]
     cases t.null <;> cases decide (0 <= nl) <;> cases decide (nl <= v) <;> simp
   rw [hn, fitted_11]
   unfold fieldB
   rw [if_pos rfl, if_pos rfl, mk_L]
   have ht : ((t.L.take Most).map (gB of false sub v)).take Most = (t.L.take Most).map (gB of false sub v) := by
    rw [<- List.map_take, take_take_self]
   cases Mx.null (.mk 11 fr to nl tg df of sub) v t with
   | true => rfl
   | false =>
    simp only [Bool.false_eq_true, if_false]
    rw [ht, List.length_map, List.map_map]
    congr 2
    apply List.map_congr_left
    intro z _
    exact valueG of false sub v x z (hsub z)
  ·have hn : Mx.null (.mk k fr to nl tg df of sub) v (given (fitted (.mk k fr to nl tg df of sub) v t)) = if k = 8 ∨ k = 9 ∨ k = 10 then Mx.null (.mk k fr to nl tg df of sub) v t else false := by
    rw [fitted_ne _ _ _ _ _ _ _ _ _ _ h11, null_eq, gB_null]
    simp only [Fl.null]
    split
    ·rw [null_eq]; simp only [Fl.null]
     cases t.null <;> cases decide (0 <= nl) <;> cases decide (nl <= v) <;> simp
    ·rfl
   rw [hn, fitted_ne _ _ _ _ _ _ _ _ _ _ h11]
   generalize Mx.null (.mk k fr to nl tg df of sub) v t = b
   unfold fieldB
   rw [if_neg h11, if_neg h11]
   by_cases hk : k = 8 ∨ k = 9 ∨ k = 10
   ·rw [if_pos hk, valueG k b sub v x t (hsub t)]
    by_cases h10 : k = 10
    ·subst h10
     show (if (10 : Int) = 10 /\ 0 <= nl then if b = true then Fixed (-1) 1 else Fixed 1 1 ++ partS sub v x (gB 10 b sub v t) else _) = (if (10 : Int) = 10 /\ 0 <= nl then if b = true then Fixed (-1) 1 else Fixed 1 1 ++ partS sub v x t else _)
     rw [partS_gB, hsub]
    ·rw [if_neg (by omega), if_neg (by omega)]
   ·rw [if_neg hk, if_neg (by omega), if_neg (by omega)]
    have hv : ∀ b' : Bool, ∀ t' p, valueB k b' x t' p = valueB k b x t' p := fun b' t' p => by
     unfold valueB; rw [if_neg (show ¬ k = 8 by omega), if_neg (show ¬ k = 9 by omega), if_neg (show ¬ k = 8 by omega), if_neg (show ¬ k = 9 by omega)]
    rw [hv]
    exact valueG k b sub v x t (hsub t)
theorem partG : ∀ (fs : Option (List Fl)) (v : Int) (x : Bool) (t : T), 0 <= v -> okGs fs = true -> partS fs v x (given (FitS fs v t)) = partS fs v x t
 | none, v, x, t, hv, h => by
  have hu : unknown [] (given (FitS none v t)).u = (unknown [] t.u).map cut := u_gF none v t
  rw [partS_eq, partS_eq]
  exact partB_cut v x [] _ _ _ _ hu rfl (fun _ => rfl)
 | some l, v, x, t, hv, h => by
  have hl := partGl l v x hv h
  have hu : unknown l (given (FitS (some l) v t)).u = (unknown l t.u).map cut := u_gF (some l) v t
  rw [partS_eq, partS_eq]
  refine partB_cut v x l _ _ _ _ hu ?_ ?_
  ·rw [mapI_map, mapI_map]
   refine mapI_congr l 0 (fun i f hf => ?_)
   have hm := List.mem_of_getElem? hf
   simp only [rowP, Nat.zero_add]
   by_cases c : f.tag < 0 /\ has f v = true
   ·rw [if_pos c, if_pos c, at_gF (some l) v t i f hf, hl f hm _ (.inl c.1)]
   ·rw [if_neg c, if_neg c]
  ·intro g
   rw [mapI_map, mapI_map]
   refine mapI_congr l 0 (fun i f hf => ?_)
   have hm := List.mem_of_getElem? hf
   simp only [rowP, Nat.zero_add]
   rw [at_gF (some l) v t i f hf]
   by_cases c : f.tag = (g : Int)
   ·have ho := okGl_all h f hm
    have hu' : okU f = true := by
     cases f
     simp only [Fl.tag] at c
     simp only [okG, Bool.and_eq_true, Bool.or_eq_true, decide_eq_true_eq] at ho
     rcases ho.1.1 with h1 | h1
     ·omega
     ·exact h1.1
    rw [usualG f v _ hv hu']
    by_cases d : usual f (at' t i) = false
    ·rw [if_pos ⟨c, d⟩, if_pos ⟨c, d⟩, hl f hm _ (.inr d)]
    ·rw [if_neg (fun h => d h.2), if_neg (fun h => d h.2)]
   ·rw [if_neg (fun h => c h.1), if_neg (fun h => c h.1)]
theorem partGl : ∀ (l : List Fl) (v : Int) (x : Bool), 0 <= v -> okGl l = true -> ∀ f ∈ l, ∀ t, (f.tag < 0 ∨ usual f t = false) -> field f v x (given (fitted f v t)) = field f v x t
 | [], _, _, _, _, f, hf, _, _ => by cases hf
 | g :: r, v, x, hv, h, f, hf, t, hu => by
  simp only [okGl, Bool.and_eq_true] at h
  rcases List.mem_cons.1 hf with h1 | h1
  ·rw [h1] at hu ⊢; exact fieldG g v x t hv h.1 hu
  ·exact partGl r v x hv h.2 f h1 t hu
end
end Go.Mx
namespace Go.Mx
open Go Go.Dx
section
variable {Y : Nat -> List D -> D}
theorem fe_shl (k : IntKind) (a b : Int) : Fn.eval Y (.shl k) [.int a, .int b] = .int (shlI a b k) := rfl
theorem feR_bor (k : IntKind) (a b : Int) : Fn.eval Y (.bor k) [.int a, .int b] = .int (k.wrap (BitVec.ofInt k.bits a ||| BitVec.ofInt k.bits b).toNat) := rfl
theorem fe_drop (a : D) (i : Int) : Fn.eval Y .drop [a, .int i] = a.dropD i.toNat := rfl
theorem fe_toStr (a : D) : Fn.eval Y .toStr [a] = .str a.asStr := rfl
theorem fe_mkptr (a : D) : Fn.eval Y .mkptr [a] = .ptr a := rfl
end
def uns : IntKind -> Bool
 | .u8 | .u16 | .u32 | .u64 => true
 | _ => false
theorem wrap_uns {k : IntKind} (h : uns k = true) {n : Nat} (hn : n < 2 ^ k.bits) : k.wrap (n : Int) = n := by
 cases k <;> simp [uns] at h
 ·rw [IntKind.wrap_u8]; simp [IntKind.bits] at hn; omega
 ·rw [IntKind.wrap_u16]; simp [IntKind.bits] at hn; omega
 ·rw [IntKind.wrap_u32]; simp [IntKind.bits] at hn; omega
 ·rw [IntKind.wrap_u64]; simp [IntKind.bits] at hn; omega
theorem bor_nat {Y : Nat -> List D -> D} {k : IntKind} (hk : uns k = true) (a b i : Nat) (hb : b < 2 ^ i) (h : a * 2 ^ i + b < 2 ^ k.bits) : Fn.eval Y (.bor k) [.int (b : Nat), .int ((a * 2 ^ i : Nat) : Int)] = .int ((a * 2 ^ i + b : Nat) : Int) := by
 rw [feR_bor]
 have e : (BitVec.ofInt k.bits (b : Nat) ||| BitVec.ofInt k.bits ((a * 2 ^ i : Nat) : Int)).toNat = a * 2 ^ i + b := by
  rw [BitVec.toNat_or, BitVec.ofInt_natCast, BitVec.ofInt_natCast, BitVec.toNat_ofNat, BitVec.toNat_ofNat, Nat.mod_eq_of_lt (by omega), Nat.mod_eq_of_lt (by omega)]
  have := Nat.shiftLeft_add_eq_or_of_lt hb a
  rw [Nat.shiftLeft_eq] at this
  rw [this, Nat.or_comm]
 rw [e, wrap_uns hk h]
theorem shl_nat {Y : Nat -> List D -> D} {k : IntKind} (hk : uns k = true) (a i : Nat) (hi : i <= k.bits) (h : a * 2 ^ i < 2 ^ k.bits) : Fn.eval Y (.shl k) [.int (a : Nat), .int (i : Nat)] = .int ((a * 2 ^ i : Nat) : Int) := by
 rw [fe_shl]
 unfold shlI
 have : min (i : Int).toNat k.bits = i := by simp; omega
 rw [this]
 have e : (a : Int) * 2 ^ i = ((a * 2 ^ i : Nat) : Int) := by push_cast; rfl
 rw [e, wrap_uns hk h]
theorem beN_fold (s : List UInt8) : ∀ n : Nat, s.foldl (fun a b => a * 256 + b.toNat) n = n * 256 ^ s.length + beN s := by
 unfold beN
 induction s with
 | nil => intro n; simp
 | cons b s ih =>
  intro n
  rw [List.foldl, List.foldl, ih, ih (0 * 256 + b.toNat), List.length_cons, Nat.pow_succ]
  simp only [Nat.add_mul, Nat.zero_mul, Nat.zero_add, Nat.mul_assoc, Nat.mul_comm 256]
  omega
theorem beN_app (a b : List UInt8) : beN (a ++ b) = beN a * 256 ^ b.length + beN b := by
 have : beN (a ++ b) = b.foldl (fun a b => a * 256 + b.toNat) (beN a) := by unfold beN; rw [List.foldl_append]
 rw [this, beN_fold]
theorem beN_cons (b : UInt8) (s : List UInt8) : beN (b :: s) = b.toNat * 256 ^ s.length + beN s := by
 have := beN_app [b] s
 simpa [beN] using this
theorem beN_lt : ∀ s : List UInt8, beN s < 256 ^ s.length
 | [] => by simp [beN]
 | b :: s => by
  have h1 := beN_lt s
  have h2 := b.toNat_lt
  rw [beN_cons, List.length_cons, Nat.pow_succ, Nat.mul_comm (256 ^ s.length) 256]
  have h3 : (b.toNat + 1) * 256 ^ s.length <= 256 * 256 ^ s.length := Nat.mul_le_mul_right _ (by omega)
  rw [Nat.add_mul, Nat.one_mul] at h3
  omega
theorem Fixed_succ (n : Int) (k : Nat) : Fixed n (k + 1) = byteAt n k :: Fixed n k := by
 unfold Fixed
 rw [List.range_succ, List.reverse_append]; rfl
theorem mod_step (n p : Int) (hp : 0 < p) : (n / p % 256) * p + n % p = n % (p * 256) := by
 have h8 : n / (p * 256) = n / p / 256 := by rw [Int.ediv_ediv, if_neg (by omega), Int.sub_zero]
 rw [Int.emod_def n (p * 256), Int.emod_def n p, Int.emod_def (n / p) 256, h8, Int.sub_mul, Int.mul_assoc, Int.mul_comm (n / p) p]
 have : (256 : Int) * (n / p / 256 * p) = p * 256 * (n / p / 256) := by
  rw [Int.mul_comm (n / p / 256) p, <- Int.mul_assoc, Int.mul_comm 256 p]
 omega
theorem beN_Fixed (n : Int) : ∀ k : Nat, (beN (Fixed n k) : Int) = n % 2 ^ (8 * k)
 | 0 => by
  show ((0 : Nat) : Int) = n % 1
  omega
 | k + 1 => by
  have ih := beN_Fixed n k
  rw [Fixed_succ, beN_cons, Fixed_len, Int.natCast_add, Int.natCast_mul, ih]
  have hb : ((byteAt n k).toNat : Int) = (n.fdiv (2 ^ (8 * k))) % 256 := by
   unfold byteAt
   rw [IntKind.wrap_u8]
   have h0 : 0 <= (n.fdiv (2 ^ (8 * k))) % 256 := Int.emod_nonneg _ (by decide)
   have h2 : (n.fdiv (2 ^ (8 * k))) % 256 < 256 := Int.emod_lt_of_pos _ (by decide)
   rw [UInt8.toNat_ofNat']
   omega
  have hp : (0 : Int) < 2 ^ (8 * k) := Int.pow_pos (by decide)
  have e256 : ((256 ^ k : Nat) : Int) = 2 ^ (8 * k) := by
   rw [Int.pow_mul, Int.natCast_pow]; rfl
  have e4 : (2 : Int) ^ (8 * (k + 1)) = 2 ^ (8 * k) * 256 := by
   rw [show 8 * (k + 1) = 8 * k + 8 by omega, Int.pow_add]; rfl
  rw [hb, e256, e4, Int.fdiv_eq_ediv_of_nonneg _ (Int.le_of_lt hp)]
  exact mod_step n _ hp
end Go.Mx
namespace Go.Mx
open Go Go.Dx
theorem take_app {A : Type} (a b : List A) {n : Nat} (h : a.length = n) : (a ++ b).take n = a := by subst h; simp
theorem drop_app {A : Type} (a b : List A) {n : Nat} (h : a.length = n) : (a ++ b).drop n = b := by subst h; simp
theorem wrap_mod (k : IntKind) (z : Int) : k.wrap (z % 2 ^ k.bits) = k.wrap z := by
 unfold IntKind.wrap
 rw [Int.emod_emod]
theorem rI_Fixed (k : IntKind) (n : Nat) (hk : k.bits = 8 * n) (z : Int) (r : List UInt8) : rI k n (Fixed z n ++ r) = (k.wrap z, r) := by
 unfold rI
 rw [take_app _ _ (Fixed_len z n), drop_app _ _ (Fixed_len z n), beN_Fixed, <- hk, wrap_mod]
theorem uvD_Uvarint (n : Nat) (r : List UInt8) : uvD (Uvarint n ++ r) = (n, (Uvarint n).length) := by
 induction n using Nat.strongRecOn with
 | ind n ih =>
  rw [Uvarint]
  by_cases h : 127 < n
  ·rw [if_pos h]
   simp only [List.cons_append, uvD, List.length_cons]
   have e : (UInt8.ofNat (n % 128 + 128)).toNat = n % 128 + 128 := by rw [UInt8.toNat_ofNat']; omega
   rw [e, if_neg (by omega), ih (n / 128) (by omega)]
   simp only [Prod.mk.injEq, and_true]
   omega
  ·rw [if_neg h]
   have e : (UInt8.ofNat n).toNat = n := by rw [UInt8.toNat_ofNat']; omega
   simp only [List.cons_append, uvD, e, List.length_cons, List.length_nil]
   rw [if_pos (by omega)]
theorem rUv_Uvarint (n : Nat) (r : List UInt8) : rUv (Uvarint n ++ r) = (n, r) := by
 unfold rUv
 rw [uvD_Uvarint]
 simp
theorem rSp_app (v r : List UInt8) : rSp v.length (v ++ r) = (v, r) := by simp [rSp]
theorem wrap_i16 (n : Int) : IntKind.i16.wrap n = (n + 32768) % 65536 - 32768 := by
 simp [IntKind.wrap, IntKind.bits, IntKind.signed]
 split <;> omega
theorem wrap_len16 {n : Nat} (h : n <= Most) : IntKind.i16.wrap (n : Int) = n := by simp only [Most] at h; rw [wrap_i16]; omega
theorem wrap_len32 {n : Nat} (h : n <= Most) : IntKind.i32.wrap (n : Int) = n := by simp only [Most] at h; rw [IntKind.wrap_i32]; omega
theorem rI16 (z : Int) (r : List UInt8) : rI .i16 2 (Fixed z 2 ++ r) = (IntKind.i16.wrap z, r) := rI_Fixed _ _ (by decide) z r
theorem rI32 (z : Int) (r : List UInt8) : rI .i32 4 (Fixed z 4 ++ r) = (IntKind.i32.wrap z, r) := rI_Fixed _ _ (by decide) z r
theorem rStr_enc {v : List UInt8} (r : List UInt8) (h : v.length <= Most) : rStr (Fixed (v.length : Nat) 2 ++ (v ++ r)) = (v, r) := by
 unfold rStr
 rw [rI16, wrap_len16 h, Int.toNat_natCast, rSp_app]
theorem rCStr_enc (v r : List UInt8) : rCStr (Uvarint (v.length + 1) ++ (v ++ r)) = (v, r) := by
 unfold rCStr
 rw [rUv_Uvarint, Nat.add_sub_cancel, rSp_app]
theorem rB4_enc {v : List UInt8} (r : List UInt8) (h : v.length <= Most) : rB4 (Fixed (v.length : Nat) 4 ++ (v ++ r)) = (v, r) := by
 unfold rB4
 rw [rI32, wrap_len32 h, Int.toNat_natCast, rSp_app]
theorem rNStr_none (r : List UInt8) : rNStr (Fixed (-1) 2 ++ r) = (none, r) := by
 unfold rNStr
 rw [rI16]; rfl
theorem rNStr_some {v : List UInt8} (r : List UInt8) (h : v.length <= Most) : rNStr (Fixed (v.length : Nat) 2 ++ (v ++ r)) = (some v, r) := by
 unfold rNStr
 rw [rStr_enc r h, rI16, wrap_len16 h, if_neg (by omega)]
theorem rNB4_none (r : List UInt8) : rNB4 (Fixed (-1) 4 ++ r) = (none, r) := by
 unfold rNB4
 rw [rI32]; rfl
theorem rNB4_some {v : List UInt8} (r : List UInt8) (h : v.length <= Most) : rNB4 (Fixed (v.length : Nat) 4 ++ (v ++ r)) = (some v, r) := by
 unfold rNB4
 rw [rB4_enc r h, rI32, wrap_len32 h, if_neg (by omega)]
theorem rCNStr_none (r : List UInt8) : rCNStr (Uvarint 0 ++ r) = (none, r) := by
 unfold rCNStr
 rw [rUv_Uvarint, if_pos rfl]
theorem rCNStr_some (v r : List UInt8) : rCNStr (Uvarint (v.length + 1) ++ (v ++ r)) = (some v, r) := by
 unfold rCNStr
 rw [rCStr_enc, rUv_Uvarint, if_neg (by omega)]
def tagRd (u : List Tg) (m : D) : D := u.foldl (fun m x => .map (insM x.key (.bytes (x.val.getD [])) (mapL m))) m
theorem rTag_enc : ∀ (u : List Tg) (r : List UInt8) (m : D), (∀ x ∈ u, 0 <= x.key) -> rTag u.length ((u.map fun x : Tg => tagB x.key.toNat (x.val.getD [])).flatten ++ r) m = (tagRd u m, r)
 | [], r, m, _ => rfl
 | x :: u, r, m, h => by
  simp only [List.map_cons, List.flatten_cons, List.length_cons, rTag, tagB, List.append_assoc]
  rw [rUv_Uvarint]
  simp only []
  rw [rUv_Uvarint]
  simp only []
  rw [rSp_app]
  simp only []
  have hx := h x (by simp)
  rw [show ((x.key.toNat : Nat) : Int) = x.key by omega]
  have ih := rTag_enc u r (.map (insM x.key (.bytes (x.val.getD [])) (mapL m))) (fun y hy => h y (by simp [hy]))
  simp only [tagB, List.append_assoc] at ih
  exact ih
theorem rTags_enc (u : List Tg) (r : List UInt8) (h : ∀ x ∈ u, 0 <= x.key) : rTags (Uvarint u.length ++ ((u.map fun x : Tg => tagB x.key.toNat (x.val.getD [])).flatten ++ r)) = (tagRd u .nil, r) := by
 unfold rTags
 rw [rUv_Uvarint]
 exact rTag_enc u r .nil h
end Go.Mx
namespace Go.Mx
open Go Go.Dx
mutual
def wdF (tg : Bool) : Fl -> Nat
 | .mk k _ _ _ _ _ _ sub => if k = 7 then 16 else if k = 10 then wdS tg sub else 1
def wdS (tg : Bool) : Option (List Fl) -> Nat
 | none => if tg then 1 else 0
 | some l => wdL tg l + (if tg then 1 else 0)
def wdL (tg : Bool) : List Fl -> Nat
 | [] => 0
 | f :: r => wdF tg f + wdL tg r
end
def wdV (tg : Bool) (k : Int) (sub : Option (List Fl)) : Nat := if k = 7 then 16 else if k = 10 then wdS tg sub else 1
def getsE (r : DE) (n : Nat) : List DE := (List.range n).map fun j => .f (.get j) [r]
def headE (l : List DE) : DE := l.headD (.k .nil)
def wrTags (x : Bool) (c o : DE) : DE := if x then .f (.ext 25) [c, .f (.ext 10) [o, .f (.add .u32) [.k (.int 0), .f (.wrap .u32) [.f (.ext 24) [c]]]]] else o
def wrV (x : Bool) (k nl v : Int) (cs : List DE) (o sub : DE) : DE :=
 let c := headE cs
 if k = 0 then .f (.ext 2) [o, c] else
 if k = 1 then .f (.ext 3) [o, c] else
 if k = 2 then .f (.ext 4) [o, c] else
 if k = 3 then .f (.ext 6) [o, c] else
 if k = 5 then .f (.ext 5) [o, c] else
 if k = 7 then .f (.ext 9) [o, .f .mkrow cs] else
 if k = 8 then (if 0 <= nl /\ nl <= v then .f (.ext (if x then 14 else 13)) [o, c] else .f (.ext (if x then 12 else 11)) [o, if nl < 0 then c else .f .ite [.f .not [.f .isNil [c]], .f (.get 0) [.f .deref [c]], .k (.str [])]]) else
 if k = 9 then (if 0 <= nl /\ nl <= v then .f (.ext (if x then 18 else 17)) [o, c] else .f (.ext (if x then 16 else 15)) [o, c]) else
 if k = 10 then sub else .f (.ext 7) [o, c]
def wrLen (x : Bool) (nl v : Int) (c o : DE) : DE :=
 if 0 <= nl /\ nl <= v then .f (.ext (if x then 22 else 21)) [o, .f .len [c], .f .isNil [c]] else .f (.ext (if x then 20 else 19)) [o, .f .len [c]]
mutual
def wrF (tg : Bool) (v : Int) (x : Bool) (lv : Nat) : Fl -> List DE -> DE -> DE
 | .mk k _ _ nl _ _ of sub, cs, o =>
  if k = 11 then .fold lv (headE cs) [wrLen x nl v (headE cs) o] [wrV x of (-1) v (getsE (.v (lv + 1)) (wdV tg of sub)) (.v (lv + 2)) (wrS tg v x (lv + 3) sub (getsE (.v (lv + 1)) (wdV tg of sub)) (.v (lv + 2)))] 0 else
  wrV x k nl v cs o (wrS tg v x lv sub cs o)
def wrS (tg : Bool) (v : Int) (x : Bool) (lv : Nat) : Option (List Fl) -> List DE -> DE -> DE
 | none, cs, o => wrTags x (headE cs) o
 | some l, cs, o => wrTags x (headE (cs.drop (wdL tg l))) (wrL tg v x lv l cs o)
def wrL (tg : Bool) (v : Int) (x : Bool) (lv : Nat) : List Fl -> List DE -> DE -> DE
 | [], _, o => o
 | f :: r, cs, o => wrL tg v x lv r (cs.drop (wdF tg f)) (if f.tag < 0 /\ has f v = true then wrF tg v x lv f (cs.take (wdF tg f)) o else o)
end
def alignUp (n a : Nat) : Nat := (n + a - 1) / a * a
mutual
def szF (tg : Bool) : Fl -> Nat × Nat
 | .mk k _ _ nl _ _ _ sub => if k = 11 then (24, 8) else szV k nl (szS tg sub)
def szS (tg : Bool) : Option (List Fl) -> Nat × Nat
 | none => if tg then (8, 8) else (0, 1)
 | some l => let q := szL tg l (0, 1); let q := if tg then (alignUp q.1 8 + 8, 8) else q; (alignUp q.1 q.2, q.2)
def szL (tg : Bool) : List Fl -> Nat × Nat -> Nat × Nat
 | [], q => q
 | f :: r, q => let s := szF tg f; szL tg r (alignUp q.1 s.2 + s.1, max q.2 s.2)
def szV (k nl : Int) (sub : Nat × Nat) : Nat × Nat :=
 if k = 0 ∨ k = 1 then (1, 1) else if k = 2 ∨ k = 5 then (2, 2) else if k = 3 then (4, 4) else if k = 7 then (16, 1) else
 if k = 8 then (if nl < 0 then (16, 8) else (8, 8)) else if k = 9 then (24, 8) else if k = 10 then sub else (8, 8)
end
def owTags (x : Bool) (c o : DE) : List Ob := if x then
 let o' : DE := .f (.ext 10) [o, .f (.add .u32) [.k (.int 0), .f (.wrap .u32) [.f (.ext 24) [c]]]]
 [.pre 25 [c, o'], .pre 10 [o, .f (.add .u32) [.k (.int 0), .f (.wrap .u32) [.f (.ext 24) [c]]]], .pre 24 [c]] else []
def obNil (k nl v : Int) (c : DE) : List Ob := if k = 8 /\ 0 <= nl /\ v < nl then [.when (.f .not [.f .isNil [c]]) true [.when (.f .isNil [c]) true [.nz (.k (.int 0))]]] else []
def preOf : DE -> List Ob
 | .f (.ext n) l => [.pre n l]
 | _ => []
mutual
def owF (tg : Bool) (v : Int) (x : Bool) (lv : Nat) : Fl -> List DE -> DE -> List Ob
 | .mk k _ _ nl _ _ of sub, cs, o =>
  if k = 11 then
   let gs := getsE (.v (lv + 1)) (wdV tg of sub)
   let b := wrV x of (-1) v gs (.v (lv + 2)) (wrS tg v x (lv + 3) sub gs (.v (lv + 2)))
   [.all (headE cs) [wrLen x nl v (headE cs) o] [b] (if of = 10 then owS tg v x (lv + 3) sub gs (.v (lv + 2)) else preOf b)] ++ preOf (wrLen x nl v (headE cs) o)
  else if k = 10 then owS tg v x lv sub cs o else preOf (wrV x k nl v cs o (.k .nil)) ++ obNil k nl v (headE cs)
def owS (tg : Bool) (v : Int) (x : Bool) (lv : Nat) : Option (List Fl) -> List DE -> DE -> List Ob
 | none, cs, o => owTags x (headE cs) o
 | some l, cs, o => owTags x (headE (cs.drop (wdL tg l))) (wrL tg v x lv l cs o) ++ owL tg v x lv l cs o
def owL (tg : Bool) (v : Int) (x : Bool) (lv : Nat) : List Fl -> List DE -> DE -> List Ob
 | [], _, _ => []
 | f :: r, cs, o => (if f.tag < 0 /\ has f v = true then
   owL tg v x lv r (cs.drop (wdF tg f)) (wrF tg v x lv f (cs.take (wdF tg f)) o) ++ owF tg v x lv f (cs.take (wdF tg f)) o
  else owL tg v x lv r (cs.drop (wdF tg f)) o)
end
end Go.Mx
namespace Go.Mx
open Go Go.Dx
def u16D (s : List UInt8) : List D := (sixteen s).map fun x => .int x.toNat
def dV (k nl : Int) (t : T) (sub : List D) : List D :=
 if k = 0 then [.bool (decide (t.n % 2 = 1))] else
 if k = 1 then [.int (IntKind.i8.wrap t.n)] else
 if k = 2 then [.int (IntKind.i16.wrap t.n)] else
 if k = 3 then [.int (IntKind.i32.wrap t.n)] else
 if k = 5 then [.int (IntKind.u16.wrap t.n)] else
 if k = 7 then u16D t.S else
 if k = 8 then (if nl < 0 then [.str t.S] else [if t.null then .nil else .ptr (.str t.S)]) else
 if k = 9 then [if t.null then .nil else .bytes t.S] else
 if k = 10 then sub else [.int t.n]
def rowD (l : List D) : D := match l with | [a] => a | l => .row l
def elD (k : Int) (l : List D) (t : T) : D := if k = 7 then .row (u16D t.S) else if k = 10 then .row l else rowD l
def tagD (u : List Tg) : D := u.foldl (fun m x => .map (insM x.key (encB x.val) (mapL m))) .nil
mutual
def dF (tg : Bool) : Fl -> T -> List D
 | .mk k _ _ nl _ _ of sub, t => if k = 11 then [if t.null then .nil else .list (t.L.map fun y => elD of (dV of (-1) y (dS tg sub y)) y)] else dV k nl t (dS tg sub t)
def dS (tg : Bool) : Option (List Fl) -> T -> List D
 | none, t => if tg then [tagD t.U] else []
 | some l, t => dL tg l 0 t ++ (if tg then [tagD t.U] else [])
def dL (tg : Bool) : List Fl -> Nat -> T -> List D
 | [], _, _ => []
 | f :: r, i, t => dF tg f (at' t i) ++ dL tg r (i + 1) t
end
theorem evals_app (a b : List DE) (δ : List D) : evals X (a ++ b) δ = evals X a δ ++ evals X b δ := by
 induction a with
 | nil => rfl
 | cons x a ih => simp only [List.cons_append, evs_cons, ih]
theorem evals_map {A : Type} (g : A -> DE) (l : List A) (δ : List D) : evals X (l.map g) δ = l.map fun a => (g a).eval X δ := by
 induction l with
 | nil => rfl
 | cons x a ih => simp only [List.map_cons, evs_cons, ih]
theorem evals_eq (l : List DE) (δ : List D) : evals X l δ = l.map fun a => a.eval X δ := by
 have := evals_map (fun a => a) l δ
 simpa using this
theorem env_row {δ : List D} {lv : Nat} (h : lv <= δ.length) (i r a : D) : (DE.v (lv + 1)).eval X (δ.take lv ++ [i, r, a]) = r /\ (DE.v (lv + 2)).eval X (δ.take lv ++ [i, r, a]) = a /\ lv + 3 <= (δ.take lv ++ [i, r, a]).length := by
 have hl : (δ.take lv).length = lv := by simp; omega
 refine ⟨?_, ?_, by simp; omega⟩
 ·rw [ev_v, List.getD_eq_getElem?_getD, List.getElem?_append_right (by omega), hl, show lv + 1 - lv = 1 by omega]; rfl
 ·rw [ev_v, List.getD_eq_getElem?_getD, List.getElem?_append_right (by omega), hl, show lv + 2 - lv = 2 by omega]; rfl
theorem u16_len (s : List UInt8) : (u16D s).length = 16 := by rw [u16D, List.length_map, sixteen_len]
theorem range_getD (l : List D) : (List.range l.length).map (fun j => l.getD j .nil) = l := by
 apply List.ext_getElem (by simp)
 intro i h1 h2
 simp [List.getD_eq_getElem?_getD, h2]
section
variable {δ : List D} {z : DE} {t : T}
end
end Go.Mx
namespace Go.Mx
open Go Go.Dx
theorem appD_ne {o : D} {s : List UInt8} (h : 0 < s.length) : app o s = appD o s := by cases s with | nil => simp at h | cons a s => rfl
theorem appD_str (o : D) (s : List UInt8) : (appD o s).asStr = o.asStr ++ s := by cases s with | nil => simp [appD] | cons a s => rfl
theorem appD_appD (o : D) (a b : List UInt8) : appD (appD o a) b = appD o (a ++ b) := by
 cases a with
 | nil => rfl
 | cons x a => cases b with
  | nil => simp [appD]
  | cons y b =>
   show app (app o (x :: a)) (y :: b) = app o ((x :: a) ++ (y :: b))
   simp [app, D.asStr]
theorem Uvarint_0 : Uvarint 0 = [0] := by rw [Uvarint]; rfl
mutual
def plainF : Fl -> Bool
 | .mk k _ _ nl g _ of sub => decide (g < 0) && (decide (k ≠ 10) || decide (nl < 0)) && (decide (k ≠ 11) || decide (of ≠ 11)) && plainS sub
def plainS : Option (List Fl) -> Bool
 | none => true
 | some l => plainL l
def plainL : List Fl -> Bool
 | [] => true
 | f :: r => plainF f && plainL r
end
section
variable {δ : List D} {o : DE} {od : D}
theorem ev_headE {cs : List DE} {l : List D} (h : evals X cs δ = l) : (headE cs).eval X δ = l.headD .nil := by
 subst h
 cases cs with
 | nil => rfl
 | cons a cs => rfl
theorem rowBytes_u16 (s : List UInt8) : rowBytes (.row (u16D s)) = sixteen s := by
 unfold rowBytes u16D
 simp only [D.cells, List.map_map]
 conv => rhs; rw [<- List.map_id (sixteen s)]
 apply List.map_congr_left
 intro x _
 simp [D.asInt]
theorem Uv_pos {n : Nat} : 0 < (Uvarint n).length := Uvarint_pos n
theorem Fx_pos (n : Int) (k : Nat) (h : 0 < k) : 0 < (Fixed n k).length := by rw [Fixed_len]; exact h
theorem counted_pos (x b : Bool) (n k : Nat) (h : 0 < k) : 0 < (counted x b n k).length := by
 cases x <;> cases b <;> simp [counted, Fixed_len, h]
 exact Uvarint_pos _
theorem cat_pos {a b : List UInt8} (h : 0 < a.length) : 0 < (a ++ b).length := by rw [List.length_append]; omega
theorem ev_wrV {v k nl : Int} (x : Bool) {cs : List DE} {t : T} {sd : List D} {sub : DE} {p : List UInt8} {b : Bool} (hc : evals X cs δ = dV k nl t sd) (ho : o.eval X δ = od) (hs : k = 10 -> sub.eval X δ = appD od p)
  (hok : okV v k nl t) (hb : (k = 8 ∨ k = 9) -> b = (t.null && (decide (0 <= nl) && decide (nl <= v)))) : (wrV x k nl v cs o sub).eval X δ = appD od (valueB k b x t p) := by
 have hh := ev_headE hc
 unfold wrV valueB
 unfold dV at hh hc
 by_cases h0 : k = 0
 ·simp only [if_pos h0] at hh ⊢
  rw [ev_f, evs_cons, evs_cons, evs_nil, ho, hh, fe_ext, X_2]
  rw [<- appD_ne (by simp)]
  show app od [if decide (t.n % 2 = 1) then 1 else 0] = _
  have h2 : t.n % 2 = 0 ∨ t.n % 2 = 1 := by omega
  rcases h2 with h | h <;> rw [h] <;> rfl
 simp only [if_neg h0] at hh hc ⊢
 by_cases h1 : k = 1
 ·subst h1
  simp only [if_true] at hh ⊢
  rw [ev_f, evs_cons, evs_cons, evs_nil, ho, hh, fe_ext, X_3, show ((D.int (IntKind.i8.wrap t.n) :: []).headD .nil).asInt = IntKind.i8.wrap t.n from rfl, fixed_i8]
  exact appD_ne (Fx_pos _ _ (by omega))
 simp only [if_neg h1] at hh hc ⊢
 by_cases h2 : k = 2
 ·subst h2
  simp only [if_true] at hh ⊢
  rw [ev_f, evs_cons, evs_cons, evs_nil, ho, hh, fe_ext, X_4, show ((D.int (IntKind.i16.wrap t.n) :: []).headD .nil).asInt = IntKind.i16.wrap t.n from rfl, fixed_i16]
  exact appD_ne (Fx_pos _ _ (by omega))
 simp only [if_neg h2] at hh hc ⊢
 by_cases h3 : k = 3
 ·subst h3
  simp only [if_true] at hh ⊢
  rw [ev_f, evs_cons, evs_cons, evs_nil, ho, hh, fe_ext, X_6, show ((D.int (IntKind.i32.wrap t.n) :: []).headD .nil).asInt = IntKind.i32.wrap t.n from rfl, fixed_i32]
  exact appD_ne (Fx_pos _ _ (by omega))
 simp only [if_neg h3] at hh hc ⊢
 by_cases h5 : k = 5
 ·subst h5
  simp only [if_true] at hh ⊢
  rw [ev_f, evs_cons, evs_cons, evs_nil, ho, hh, fe_ext, X_5, show ((D.int (IntKind.u16.wrap t.n) :: []).headD .nil).asInt = IntKind.u16.wrap t.n from rfl, fixed_u16]
  exact appD_ne (Fx_pos _ _ (by omega))
 simp only [if_neg h5] at hh hc ⊢
 by_cases h7 : k = 7
 ·subst h7
  simp only [if_true] at hh hc ⊢
  rw [ev_f, evs_cons, evs_cons, evs_nil, ho, ev_f, hc, fe_mkrow, fe_ext, X_9, rowBytes_u16]
  exact appD_ne (by rw [sixteen_len]; omega)
 simp only [if_neg h7] at hh hc ⊢
 by_cases h8 : k = 8
 ·subst h8
  obtain ⟨k1, k2⟩ := hok (.inl rfl)
  have hb := hb (.inl rfl)
  simp only [if_true] at hh hc ⊢
  have ht : t.S.take Most = t.S := List.take_of_length_le k1
  rw [ht]
  by_cases hn : 0 <= nl /\ nl <= v
  ·rw [if_pos hn]
   have hb : b = t.null := by rw [hb]; simp [hn.1, hn.2]
   rw [if_neg (by omega)] at hh
   rw [hb]
   cases x with
   | true =>
    rw [if_pos rfl, ev_f, evs_cons, evs_cons, evs_nil, ho, hh, fe_ext, X_14]
    cases t.null with
    | true =>
     show app od (Uvarint 0) = appD od (counted true true 0 2 ++ [])
     rw [Uvarint_0]; rfl
    | false =>
     show app od (Uvarint (t.S.length + 1) ++ t.S) = appD od (counted true false t.S.length 2 ++ t.S)
     exact appD_ne (cat_pos Uv_pos)
   | false =>
    rw [if_neg (by decide), ev_f, evs_cons, evs_cons, evs_nil, ho, hh, fe_ext, X_13]
    cases t.null with
    | true =>
     show app od (Fixed (-1) 2) = appD od (counted false true 0 2 ++ [])
     rw [List.append_nil]
     exact appD_ne (Fx_pos _ _ (by omega))
    | false =>
     show app od (Fixed t.S.length 2 ++ t.S) = appD od (counted false false t.S.length 2 ++ t.S)
     exact appD_ne (cat_pos (Fx_pos _ _ (by omega)))
  ·rw [if_neg hn]
   have hnl : t.null = false := by
    cases ht : t.null with
    | false => rfl
    | true => exact absurd (k2 ht) hn
   have hb : b = false := by rw [hb, hnl]; rfl
   have ev : (if nl < 0 then headE cs else DE.f .ite [.f .not [.f .isNil [headE cs]], .f (.get 0) [.f .deref [headE cs]], .k (.str [])]).eval X δ = .str t.S := by
    by_cases hn0 : nl < 0
    ·rw [if_pos hn0] at hh ⊢; rw [hh]; rfl
    ·rw [if_neg hn0] at hh ⊢
     simp only [ev_f, evs_cons, evs_nil, ev_k]
     rw [hh, hnl]; rfl
   rw [hb]
   simp only [Bool.false_eq_true, if_false]
   cases x with
   | true =>
    rw [if_pos rfl, ev_f, evs_cons, evs_cons, evs_nil, ho, ev, fe_ext, X_12]
    exact appD_ne (cat_pos Uv_pos)
   | false =>
    rw [if_neg (by decide), ev_f, evs_cons, evs_cons, evs_nil, ho, ev, fe_ext, X_11]
    exact appD_ne (cat_pos (Fx_pos _ _ (by omega)))
 simp only [if_neg h8] at hh hc ⊢
 by_cases h9 : k = 9
 ·subst h9
  obtain ⟨k1, k2⟩ := hok (.inr rfl)
  have hb := hb (.inr rfl)
  simp only [if_true] at hh hc ⊢
  have ht : t.S.take Most = t.S := List.take_of_length_le k1
  rw [ht]
  by_cases hn : 0 <= nl /\ nl <= v
  ·rw [if_pos hn]
   have hb : b = t.null := by rw [hb]; simp [hn.1, hn.2]
   rw [hb]
   cases x with
   | true =>
    rw [if_pos rfl, ev_f, evs_cons, evs_cons, evs_nil, ho, hh, fe_ext, X_18]
    cases t.null with
    | true =>
     show app od (Uvarint 0) = appD od (counted true true 0 4 ++ [])
     rw [Uvarint_0]; rfl
    | false =>
     show app od (Uvarint (t.S.length + 1) ++ t.S) = appD od (counted true false t.S.length 4 ++ t.S)
     exact appD_ne (cat_pos Uv_pos)
   | false =>
    rw [if_neg (by decide), ev_f, evs_cons, evs_cons, evs_nil, ho, hh, fe_ext, X_17]
    cases t.null with
    | true =>
     show app od (Fixed (-1) 4) = appD od (counted false true 0 4 ++ [])
     rw [List.append_nil]
     exact appD_ne (Fx_pos _ _ (by omega))
    | false =>
     show app od (Fixed t.S.length 4 ++ t.S) = appD od (counted false false t.S.length 4 ++ t.S)
     exact appD_ne (cat_pos (Fx_pos _ _ (by omega)))
  ·rw [if_neg hn]
   have hnl : t.null = false := by
    cases ht : t.null with
    | false => rfl
    | true => exact absurd (k2 ht) hn
   have hb : b = false := by rw [hb, hnl]; rfl
   rw [hnl] at hh
   rw [hb]
   simp only [Bool.false_eq_true, if_false]
   cases x with
   | true =>
    rw [if_pos rfl, ev_f, evs_cons, evs_cons, evs_nil, ho, hh, fe_ext, X_16]
    exact appD_ne (cat_pos Uv_pos)
   | false =>
    rw [if_neg (by decide), ev_f, evs_cons, evs_cons, evs_nil, ho, hh, fe_ext, X_15]
    exact appD_ne (cat_pos (Fx_pos _ _ (by omega)))
 simp only [if_neg h9] at hh hc ⊢
 by_cases h10 : k = 10
 ·simp only [if_pos h10]
  exact hs h10
 simp only [if_neg h10] at hh ⊢
 have hw : (width k).toNat = 8 := by unfold width; rw [if_neg h1, if_neg (by omega), if_neg h3]; rfl
 rw [ev_f, evs_cons, evs_cons, evs_nil, ho, hh, fe_ext, X_7, hw]
 exact appD_ne (Fx_pos _ _ (by omega))
theorem ev_wrLen {v nl : Int} (x : Bool) {c : DE} {t : T} {g : T -> D} (hc : c.eval X δ = if t.null then .nil else .list (t.L.map g)) (ho : o.eval X δ = od)
  (hn : t.null = true -> (0 <= nl /\ nl <= v) ∨ t.L = []) {b : Bool} (hb : b = (t.null && (decide (0 <= nl) && decide (nl <= v)))) : (wrLen x nl v c o).eval X δ = appD od (counted x b (if b then 0 else t.L.length) 4) := by
 unfold wrLen
 by_cases h : 0 <= nl /\ nl <= v
 ·have hb : b = t.null := by rw [hb]; simp [h.1, h.2]
  rw [hb, if_pos h, ev_f, evs_cons, evs_cons, evs_cons, evs_nil, ev_f, ev_f, evs_cons, evs_nil, ho, hc, fe_len, fe_isNil, fe_ext]
  cases x with
  | true =>
   rw [if_pos rfl, X_22]
   cases t.null with
   | true =>
    show app od (Uvarint 0) = appD od (counted true true _ 4)
    rw [Uvarint_0]; rfl
   | false =>
    show app od (Uvarint ((t.L.map g).length + 1)) = appD od (Uvarint (t.L.length + 1))
    rw [List.length_map]
    exact appD_ne Uv_pos
  | false =>
   rw [if_neg (by decide), X_21]
   cases t.null with
   | true =>
    show app od (Fixed (-1) 4) = appD od (Fixed (-1) 4)
    exact appD_ne (Fx_pos _ _ (by omega))
   | false =>
    show app od (Fixed ((t.L.map g).length : Nat) 4) = appD od (Fixed t.L.length 4)
    rw [List.length_map]
    exact appD_ne (Fx_pos _ _ (by omega))
 ·have hb : b = false := by
   rw [hb]
   have : (decide (0 <= nl) && decide (nl <= v)) = false := by
    simp only [Bool.and_eq_false_iff, decide_eq_false_iff_not]
    omega
   rw [this, Bool.and_false]
  have hlen : (c.eval X δ).len = t.L.length := by
   rw [hc]
   cases ht : t.null with
   | false => show (t.L.map g).length = _; rw [List.length_map]
   | true =>
    rcases hn ht with h2 | h2
    ·exact absurd h2 h
    ·rw [h2]; rfl
  rw [hb, if_neg h, ev_f, evs_cons, evs_cons, evs_nil, ev_f, evs_cons, evs_nil, ho, fe_len, hlen, fe_ext]
  cases x with
  | true =>
   rw [if_pos rfl, X_20]
   show app od (Uvarint (t.L.length + 1)) = appD od (Uvarint (t.L.length + 1))
   exact appD_ne Uv_pos
  | false =>
   rw [if_neg (by decide), X_19]
   show app od (Fixed (t.L.length : Nat) 4) = appD od (Fixed t.L.length 4)
   exact appD_ne (Fx_pos _ _ (by omega))
theorem insM_last (k : Int) (d : D) : ∀ (l : List (Int × D)), (∀ y ∈ l, y.1 < k) -> insM k d l = l ++ [(k, d)]
 | [], _ => rfl
 | x :: r, h => by
  rw [insM, if_pos (h x (by simp)), insM_last k d r (fun y hy => h y (by simp [hy]))]; rfl
theorem tagD_fold : ∀ (u : List Tg) (a : D), SrtT u -> (∀ x ∈ mapL a, ∀ y ∈ u, x.1 < y.key) -> mapL (u.foldl (fun m x => .map (insM x.key (encB x.val) (mapL m))) a) = mapL a ++ u.map fun x => (x.key, encB x.val)
 | [], a, _, _ => by simp
 | x :: r, a, h, hk => by
  obtain ⟨h1, h2⟩ := List.pairwise_cons.1 h
  have e : insM x.key (encB x.val) (mapL a) = mapL a ++ [(x.key, encB x.val)] := insM_last _ _ _ (fun y hy => hk y hy x (by simp))
  rw [List.foldl, tagD_fold r _ h2 (fun y hy z hz => by
   have hy : y ∈ insM x.key (encB x.val) (mapL a) := hy
   rw [e] at hy
   rcases List.mem_append.1 hy with hy | hy
   ·exact hk y hy z (by simp [hz])
   ·rw [List.mem_singleton] at hy; subst hy; exact h1 z hz)]
  show insM x.key (encB x.val) (mapL a) ++ _ = _
  rw [e]; simp
theorem tagD_L {u : List Tg} (h : SrtT u) : mapL (tagD u) = u.map fun x => (x.key, encB x.val) := by
 have := tagD_fold u .nil h (fun x hx => by cases hx)
 rw [tagD, this]; rfl
def tagsW (u : List Tg) : List UInt8 := Uvarint u.length ++ (u.map unkB).flatten
theorem ev_wrTags (x : Bool) {c : DE} {u : List Tg} {p : List UInt8} (hc : x = true -> c.eval X δ = tagD u) (ho : o.eval X δ = appD od p) (hu : okTags u) : (wrTags x c o).eval X δ = appD od (if x then p ++ tagsW u else p) := by
 cases x with
 | false => exact ho
 | true =>
  have hc := hc rfl
  obtain ⟨h1, h2, h3⟩ := hu
  have hL := tagD_L h1
  have hlen : (mapL (tagD u)).length = u.length := by rw [hL, List.length_map]
  unfold wrTags
  rw [if_pos rfl, if_pos rfl]
  have e10 : (DE.f (.ext 10) [o, .f (.add .u32) [.k (.int 0), .f (.wrap .u32) [.f (.ext 24) [c]]]]).eval X δ = appD od (p ++ Uvarint u.length) := by
   simp only [ev_f, evs_cons, evs_nil, ev_k]
   rw [hc, ho, fe_ext, fe_ext, X_24, hlen, fe_wrap, fe_add, X_10, int_i]
   have e : IntKind.u32.wrap (0 + IntKind.u32.wrap (u.length : Int)) = u.length := by
    rw [wrapu32 (x := (u.length : Int)) (by omega) (by simp [Most] at h2; omega), Int.zero_add, wrapu32 (by omega) (by simp [Most] at h2; omega)]
   rw [e, Int.toNat_natCast, appD_ne Uv_pos, appD_appD]
  rw [ev_f, evs_cons, evs_cons, evs_nil, e10, hc, fe_ext, X_25, hL]
  cases u with
  | nil => show appD od (p ++ Uvarint 0) = appD od (p ++ (Uvarint 0 ++ [])); rw [List.append_nil]
  | cons a u =>
   rw [if_neg (by simp)]
   have ef : (((a :: u).map fun x => (x.key, encB x.val)).map fun x => tagB x.1.toNat x.2.asStr).flatten = ((a :: u).map unkB).flatten := by
    rw [List.map_map]
    congr 1
    apply List.map_congr_left
    intro y hy
    obtain ⟨q1, q2, q3⟩ := h3 y hy
    show tagB y.key.toNat (encB y.val).asStr = tagB (IntKind.u64.wrap y.key).toNat ((y.val.getD []).take Most)
    rw [asStr_encB, List.take_of_length_le q3, IntKind.wrap_u64, Int.emod_eq_of_lt q1 (by omega)]
   rw [ef]
   have hpos : 0 < (((a :: u).map unkB).flatten).length := by
    rw [List.map_cons, List.flatten_cons]
    exact cat_pos (by rw [unkB, tagB]; exact cat_pos (cat_pos Uv_pos))
   rw [appD_ne hpos, appD_appD, tagsW, List.append_assoc]
theorem fold1L {lv : Nat} {s i0 b : DE} {A : Type} {L : List A} {e : A -> D} {h : A -> D -> D} (hs : (s.eval X δ).rows = L.map e) (hb : ∀ (i a : D) y, y ∈ L -> b.eval X (δ.take lv ++ [i, e y, a]) = h y a) :
  (DE.fold lv s [i0] [b] 0).eval X δ = L.foldl (fun a y => h y a) (i0.eval X δ) := by
 rw [DE.eval]
 have key : ∀ (l : List A) (i : Nat) (a : D), (∀ y ∈ l, y ∈ L) -> foldRows (fun i r acc => evals X [b] (δ.take lv ++ (.int i :: r :: acc))) i (l.map e) [a] = [l.foldl (fun a y => h y a) a] := by
  intro l
  induction l with
  | nil => intro i a _; rfl
  | cons y l ih =>
   intro i a hl
   simp only [List.map_cons, foldRows, List.foldl]
   have h1 := hb (.int i) a y (hl y (by simp))
   have e1 : evals X [b] (δ.take lv ++ (.int i :: e y :: [a])) = [h y a] := by rw [evs_cons, evs_nil, h1]
   rw [e1]
   exact ih (i + 1) _ (fun r hr => hl r (by simp [hr]))
 have e9 := key L 0 (i0.eval X δ) (fun _ h => h)
 rw [hs]
 show (foldRows (fun i r acc => evals X [b] (δ.take lv ++ (.int i :: r :: acc))) 0 (L.map e) [i0.eval X δ]).getD 0 .nil = _
 rw [e9]; rfl
end
theorem foldl_appD {A : Type} (w : A -> List UInt8) : ∀ (l : List A) (o : D), l.foldl (fun a y => appD a (w y)) o = appD o ((l.map w).flatten)
 | [], o => rfl
 | y :: l, o => by
  rw [List.foldl, foldl_appD w l, appD_appD]; rfl
theorem evals_take (l : List DE) (n : Nat) (δ : List D) : evals X (l.take n) δ = (evals X l δ).take n := by rw [evals_eq, evals_eq, List.map_take]
theorem evals_drop (l : List DE) (n : Nat) (δ : List D) : evals X (l.drop n) δ = (evals X l δ).drop n := by rw [evals_eq, evals_eq, List.map_drop]
theorem dV_len (k nl : Int) (t : T) (sd : List D) (tg : Bool) (sub : Option (List Fl)) (h : sd.length = wdS tg sub) : (dV k nl t sd).length = wdV tg k sub := by
 unfold dV wdV
 by_cases h7 : k = 7
 ·subst h7
  simp only [show ¬ ((7 : Int) = 0) by decide, show ¬ ((7 : Int) = 1) by decide, show ¬ ((7 : Int) = 2) by decide, show ¬ ((7 : Int) = 3) by decide, show ¬ ((7 : Int) = 5) by decide, if_true, if_false]
  exact u16_len _
 by_cases h10 : k = 10
 ·subst h10
  simp only [show ¬ ((10 : Int) = 0) by decide, show ¬ ((10 : Int) = 1) by decide, show ¬ ((10 : Int) = 2) by decide, show ¬ ((10 : Int) = 3) by decide, show ¬ ((10 : Int) = 5) by decide, show ¬ ((10 : Int) = 7) by decide, show ¬ ((10 : Int) = 8) by decide, show ¬ ((10 : Int) = 9) by decide, if_true, if_false]
  exact h
 rw [if_neg h7, if_neg h7, if_neg h10, if_neg h10]
 repeat (first | rfl | split)
mutual
theorem dF_len (tg : Bool) : ∀ (f : Fl) (t : T), (dF tg f t).length = wdF tg f
 | .mk k a b nl c d of sub, t => by
  rw [dF, wdF]
  by_cases h : k = 11
  ·subst h; rfl
  ·rw [if_neg h, dV_len k nl t _ tg sub (dS_len tg sub t)]; rfl
theorem dS_len (tg : Bool) : ∀ (fs : Option (List Fl)) (t : T), (dS tg fs t).length = wdS tg fs
 | none, t => by rw [dS, wdS]; cases tg <;> rfl
 | some l, t => by rw [dS, wdS, List.length_append, dL_len tg l 0 t]; cases tg <;> rfl
theorem dL_len (tg : Bool) : ∀ (l : List Fl) (i : Nat) (t : T), (dL tg l i t).length = wdL tg l
 | [], _, _ => by rw [dL, wdL]; rfl
 | f :: r, i, t => by rw [dL, wdL, List.length_append, dF_len tg f, dL_len tg r]
end
end Go.Mx
namespace Go.Mx
open Go Go.Dx
theorem gets_all {δ : List D} {r : DE} {l : List D} (hr : (r.eval X δ).cells = l) : evals X (getsE r l.length) δ = l := by
 rw [getsE, evals_map]
 conv => rhs; rw [<- range_getD l]
 apply List.map_congr_left
 intro j _
 rw [ev_f, evs_cons, evs_nil, fe_get, hr]
theorem cells_elD (k : Int) (t : T) (sd : List D) : (elD k (dV k (-1) t sd) t).cells = dV k (-1) t sd := by
 unfold elD
 by_cases h7 : k = 7
 ·subst h7
  rw [if_pos rfl]; rfl
 rw [if_neg h7]
 by_cases h10 : k = 10
 ·rw [if_pos h10]; rfl
 rw [if_neg h10]
 unfold dV
 rw [if_neg h7, if_neg h10]
 by_cases h8 : k = 8
 ·subst h8; rfl
 by_cases h9 : k = 9
 ·subst h9
  simp only [show ¬ ((9 : Int) = 0) by decide, show ¬ ((9 : Int) = 1) by decide, show ¬ ((9 : Int) = 2) by decide, show ¬ ((9 : Int) = 3) by decide, show ¬ ((9 : Int) = 5) by decide, show ¬ ((9 : Int) = 8) by decide, if_true, if_false]
  cases t.null <;> rfl
 rw [if_neg h8, if_neg h9]
 repeat (first | rfl | split)
theorem plainF_mk {k a b nl g d of : Int} {sub : Option (List Fl)} (h : plainF (.mk k a b nl g d of sub) = true) : g < 0 /\ (k = 10 -> nl < 0) /\ (k = 11 -> of ≠ 11) /\ plainS sub = true := by
 simp only [plainF, Bool.and_eq_true, Bool.or_eq_true, decide_eq_true_eq] at h
 obtain ⟨⟨⟨h1, h2⟩, h3⟩, h4⟩ := h
 exact ⟨h1, fun e => by omega, fun e => by omega, h4⟩
theorem plain_tag {f : Fl} (h : plainF f = true) : f.tag < 0 := by cases f; exact (plainF_mk h).1
theorem known_plain {l : List Fl} (h : plainL l = true) : known l = 0 := by
 unfold known
 have : ∀ (l : List Fl) (n : Nat), plainL l = true -> l.foldl (fun n f => if 0 <= f.tag then max n (f.tag.toNat + 1) else n) n = n := by
  intro l
  induction l with
  | nil => intro n _; rfl
  | cons f r ih =>
   intro n h
   simp only [plainL, Bool.and_eq_true] at h
   have := plain_tag h.1
   rw [List.foldl, if_neg (by omega)]
   exact ih n h.2
 exact this l 0 h
theorem unk_self (fs : List Fl) (u : Option (List Tg)) (h : SrtT (u.getD [])) (hk : ∀ y ∈ u.getD [], (known fs : Int) <= y.key) (hl : (u.getD []).length <= Most) : unknown fs u = u.getD [] := by
 unfold unknown
 rw [List.take_of_length_le hl]
 have := unk_again (known fs) (u.getD []) [] (by simpa using h) hk
 simpa using this
theorem unk_plain {fs : Option (List Fl)} {t : T} (hp : plainS fs = true) (h : okTags t.U) : unknown (fs.getD []) t.u = t.U := by
 obtain ⟨h1, h2, h3⟩ := h
 have hk : known (fs.getD []) = 0 := by
  cases fs with
  | none => rfl
  | some l => exact known_plain hp
 exact unk_self _ t.u h1 (fun y hy => by rw [hk]; exact (h3 y hy).1) h2
theorem partS_plain {fs : Option (List Fl)} {t : T} (hp : plainS fs = true) (h : okTags t.U) (v : Int) (x : Bool) : partS fs v x t = if x then outP (fs.getD []) v x t ++ tagsW t.U else outP (fs.getD []) v x t := by
 have hk : known (fs.getD []) = 0 := by
  cases fs with
  | none => rfl
  | some l => exact known_plain hp
 cases x with
 | false => rw [partS_false]; rfl
 | true =>
  rw [partS_true, if_pos rfl]
  have e1 : tags1 (fs.getD []) v true t = [] := by rw [tags1, hk]; rfl
  rw [tagsP, e1, List.nil_append, tags2, unk_plain hp h, List.length_map, List.append_assoc]
  rfl
theorem okS_tags {al : Bool} {v : Int} {fs : Option (List Fl)} {t : T} (h : okS al v fs t) : okTags t.U := by
 cases fs with
 | none => exact h
 | some l => exact h.1
mutual
theorem ev_wrF {al tg x : Bool} {v : Int} (hx : x = true -> tg = true) : ∀ (f : Fl) (lv : Nat) (δ : List D) (cs : List DE) (o : DE) (t : T) (od : D), plainF f = true -> lv <= δ.length -> evals X cs δ = dF tg f t -> o.eval X δ = od -> okF al v f t -> (wrF tg v x lv f cs o).eval X δ = appD od (field f v x t)
 | .mk k a b nl g df of sub, lv, δ, cs, o, t, od, hp, hlv, hc, ho, hok => by
  obtain ⟨_, hp10, hp11, hps⟩ := plainF_mk hp
  rw [field_eq]
  simp only [Fl.kind, Fl.null, Fl.of, Fl.sub]
  rw [wrF]
  unfold fieldB
  by_cases h : k = 11
  ·have hof := hp11 h
   subst h
   rw [if_pos rfl, if_pos rfl]
   rw [dF, if_pos rfl] at hc
   rw [okF, if_pos rfl] at hok
   obtain ⟨q1, q2, q3⟩ := hok
   have hh := ev_headE hc
   have hh : (headE cs).eval X δ = if t.null then .nil else .list (t.L.map fun y => elD of (dV of (-1) y (dS tg sub y)) y) := hh
   have hlen := ev_wrLen x hh ho (fun h => (q2 h).imp id (fun h => h.2)) (b := Mx.null (.mk 11 a b nl g df of sub) v t) rfl
   have hbody : ∀ (i aa : D) (y : T), y ∈ t.L -> (wrV x of (-1) v (getsE (.v (lv + 1)) (wdV tg of sub)) (.v (lv + 2)) (wrS tg v x (lv + 3) sub (getsE (.v (lv + 1)) (wdV tg of sub)) (.v (lv + 2)))).eval X (δ.take lv ++ [i, elD of (dV of (-1) y (dS tg sub y)) y, aa]) = appD aa (valueB of false x y (partS sub v x y)) := by
    intro i aa y hy
    obtain ⟨e1, e2, e3⟩ := env_row hlv i (elD of (dV of (-1) y (dS tg sub y)) y) aa
    have hcells := cells_elD of y (dS tg sub y)
    have hgets : evals X (getsE (.v (lv + 1)) (wdV tg of sub)) (δ.take lv ++ [i, elD of (dV of (-1) y (dS tg sub y)) y, aa]) = dV of (-1) y (dS tg sub y) := by
     have := gets_all (r := .v (lv + 1)) (δ := δ.take lv ++ [i, elD of (dV of (-1) y (dS tg sub y)) y, aa]) (l := dV of (-1) y (dS tg sub y)) (by rw [e1]; exact hcells)
     rwa [dV_len of (-1) y _ tg sub (dS_len tg sub y)] at this
    obtain ⟨o1, o2⟩ := q3 y hy
    refine ev_wrV x hgets e2 (fun h10 => ?_) o1 (fun _ => by simp)
    have hsd : dV of (-1) y (dS tg sub y) = dS tg sub y := by subst h10; rfl
    rw [hsd] at hgets
    exact ev_wrS hx sub (lv + 3) _ _ _ y _ hps e3 (by rw [hsd]; exact hgets) e2 (o2 h10)
   cases hn : t.null with
   | true =>
    rw [hn] at hh
    rw [fold1L (L := ([] : List T)) (e := fun y => elD of (dV of (-1) y (dS tg sub y)) y) (h := fun y a => a) (by rw [hh]; rfl) (fun _ _ y hy => by cases hy)]
    show (wrLen x nl v (headE cs) o).eval X δ = _
    by_cases hnv : 0 <= nl /\ nl <= v
    ·obtain ⟨n1, n2⟩ := hnv
     have hb : Mx.null (.mk 11 a b nl g df of sub) v t = true := by rw [null_eq, hn]; simp [Fl.null, n1, n2]
     rw [hb] at hlen ⊢
     rw [hlen]
     simp
    ·have hb : Mx.null (.mk 11 a b nl g df of sub) v t = false := by
      rw [null_eq]
      have : (decide (0 <= nl) && decide (nl <= v)) = false := by
       simp only [Bool.and_eq_false_iff, decide_eq_false_iff_not]
       omega
      show (t.null && (decide (0 <= nl) && decide (nl <= v))) = false
      rw [this, Bool.and_false]
     have hL : t.L = [] := by
      rcases q2 hn with h2 | h2
      ·exact absurd h2 hnv
      ·exact h2.2
     rw [hb] at hlen ⊢
     rw [hlen, hL]
     simp
   | false =>
    have hb : Mx.null (.mk 11 a b nl g df of sub) v t = false := by rw [null_eq, hn]; rfl
    rw [hb] at hlen ⊢
    rw [hn] at hh
    rw [fold1L (L := t.L) (e := fun y => elD of (dV of (-1) y (dS tg sub y)) y) (h := fun y a => appD a (valueB of false x y (partS sub v x y))) (by rw [hh]; rfl) hbody]
    rw [foldl_appD, hlen, appD_appD]
    simp only [Bool.false_eq_true, if_false]
    rw [List.take_of_length_le q1]
  ·rw [if_neg h, if_neg h]
   rw [dF, if_neg h] at hc
   rw [okF, if_neg h] at hok
   obtain ⟨o1, o2⟩ := hok
   rw [if_neg (fun e => by have := hp10 e.1; omega)]
   refine ev_wrV x hc ho (fun h10 => ?_) o1 (fun _ => rfl)
   have hsd : dV k nl t (dS tg sub t) = dS tg sub t := by subst h10; rfl
   rw [hsd] at hc
   exact ev_wrS hx sub lv δ cs o t od hps hlv hc ho (o2 h10)
theorem ev_wrS {al tg x : Bool} {v : Int} (hx : x = true -> tg = true) : ∀ (fs : Option (List Fl)) (lv : Nat) (δ : List D) (cs : List DE) (o : DE) (t : T) (od : D), plainS fs = true -> lv <= δ.length -> evals X cs δ = dS tg fs t -> o.eval X δ = od -> okS al v fs t -> (wrS tg v x lv fs cs o).eval X δ = appD od (partS fs v x t)
 | none, lv, δ, cs, o, t, od, hp, hlv, hc, ho, hok => by
  rw [partS_plain hp hok, wrS]
  refine ev_wrTags x (fun hxt => ?_) ho hok
  rw [dS, hx hxt, if_pos rfl] at hc
  exact ev_headE hc
 | some l, lv, δ, cs, o, t, od, hp, hlv, hc, ho, hok => by
  rw [partS_plain hp (okS_tags hok), wrS]
  rw [dS] at hc
  have h1 := ev_wrL hx l lv 0 δ cs o t od _ hp hlv hc ho hok.2
  refine ev_wrTags x (fun hxt => ?_) h1 (okS_tags hok)
  have hd : evals X (cs.drop (wdL tg l)) δ = [tagD t.U] := by
   rw [evals_drop, hc, hx hxt, if_pos rfl, <- dL_len true l 0 t, List.drop_left]
  exact ev_headE hd
theorem ev_wrL {al tg x : Bool} {v : Int} (hx : x = true -> tg = true) : ∀ (l : List Fl) (lv i : Nat) (δ : List D) (cs : List DE) (o : DE) (t : T) (od : D) (rest : List D), plainL l = true -> lv <= δ.length -> evals X cs δ = dL tg l i t ++ rest -> o.eval X δ = od -> okL al v l i t -> (wrL tg v x lv l cs o).eval X δ = appD od ((mapI (fun i f => cellO v (rowP v x t i f)) i l).flatten)
 | [], lv, i, δ, cs, o, t, od, rest, hp, hlv, hc, ho, hok => by rw [wrL, ho]; rfl
 | f :: r, lv, i, δ, cs, o, t, od, rest, hp, hlv, hc, ho, hok => by
  simp only [plainL, Bool.and_eq_true] at hp
  rw [okL] at hok
  rw [wrL]
  rw [dL, List.append_assoc] at hc
  have ht : evals X (cs.take (wdF tg f)) δ = dF tg f (at' t i) := by rw [evals_take, hc, <- dF_len tg f (at' t i), List.take_left]
  have hd : evals X (cs.drop (wdF tg f)) δ = dL tg r (i + 1) t ++ rest := by rw [evals_drop, hc, <- dF_len tg f (at' t i), List.drop_left]
  have h1 : (if f.tag < 0 /\ has f v = true then wrF tg v x lv f (cs.take (wdF tg f)) o else o).eval X δ = appD od (cellO v (rowP v x t i f)) := by
   unfold cellO rowP
   by_cases h : f.tag < 0 /\ has f v = true
   ·rw [if_pos h, if_pos h]
    exact ev_wrF hx f lv δ _ o (at' t i) od hp.1 hlv ht ho (hok.1 (.inr h))
   ·rw [if_neg h, if_neg h, ho]; rfl
  rw [ev_wrL hx r lv (i + 1) δ _ _ t _ rest hp.2 hlv hd h1 hok.2, appD_appD]
  rfl
end
end Go.Mx
namespace Go.Mx
open Go Go.Dx
mutual
def smallF (tg : Bool) : Fl -> Bool
 | .mk _ _ _ _ _ _ of sub => decide ((szV of (-1) (szS tg sub)).1 <= 100000) && smallS tg sub
def smallS (tg : Bool) : Option (List Fl) -> Bool
 | none => true
 | some l => smallL tg l
def smallL (tg : Bool) : List Fl -> Bool
 | [] => true
 | f :: r => smallF tg f && smallL tg r
end
section
variable {δ : List D} {P : Nat -> List D -> Prop}
theorem obs_one {o : Ob} (h : o.holds X P δ) : obsHold X P [o] δ := ⟨h, trivial⟩
theorem obs_cons {o : Ob} {l : List Ob} (h : o.holds X P δ) (h2 : obsHold X P l δ) : obsHold X P (o :: l) δ := ⟨h, h2⟩
theorem obs_app {a b : List Ob} (h : obsHold X P a δ) (h2 : obsHold X P b δ) : obsHold X P (a ++ b) δ := obsHold_append.2 ⟨h, h2⟩
theorem foldI_c {A S : Type} (f : A -> S -> S) (l : List A) (s : S) : foldI (fun _ a s => f a s) 0 l s = l.foldl (fun s a => f a s) s := foldI_const f l 0 s
theorem all1L {s i0 b : DE} {A : Type} {L : List A} {e : A -> D} {h : A -> D -> D} {os : List Ob} (hs : (s.eval X δ).rows = L.map e) (hb : ∀ (i a : D) y, y ∈ L -> b.eval X (δ ++ [i, e y, a]) = h y a)
  (ho : ∀ (k : Nat) (y : A), L[k]? = some y -> obsHold X P os (δ ++ [.int k, e y, (L.take k).foldl (fun a y => h y a) (i0.eval X δ)])) : (Ob.all s [i0] [b] os).holds X P δ := by
 have hF : Folds X δ δ.length s [i0] [b] e (fun a => [a]) (fun _ y a => h y a) L (i0.eval X δ) := ⟨List.take_length, hs, rfl, fun i a st hi _ => by
  rw [evs_cons, evs_nil, hb _ _ _ (List.mem_of_getElem? hi)]⟩
 refine hF.all (fun k y hk => ?_)
 rw [foldI_c]
 exact ho k y hk
end
section
variable {δ : List D}
theorem insM_len (k : Int) (d : D) : ∀ l : List (Int × D), (insM k d l).length <= l.length + 1
 | [] => by simp [insM]
 | x :: r => by
  have := insM_len k d r
  rw [insM]
  split
  ·simp; omega
  ·split <;> simp
end
end Go.Mx
namespace Go.Mx
open Go Go.Dx
theorem app_len (o : D) (s : List UInt8) : (app o s).len = o.asStr.length + s.length := by simp [app, D.len]
theorem appD_le (o : D) {s : List UInt8} (h : 0 < s.length) : (appD o s).len = o.asStr.length + s.length := by
 rw [<- appD_ne h, app_len]
section
variable {δ : List D} {o : DE} {od : D}
theorem ob_pre {n : Nat} {l : List DE} (h : side n (evals X l δ)) : obsHold X side [.pre n l] δ := obs_one h
theorem ev_ext (n : Nat) (l : List DE) : X n (evals X l δ) = (DE.f (.ext n) l).eval X δ := by rw [ev_f, fe_ext]
theorem side_d10 (a b : D) : side 10 [a, b] = ((X 10 [a, b]).len <= lim) := rfl
theorem side_d25 (a b : D) : side 25 [a, b] = ((X 25 [a, b]).len <= lim /\ ∀ x ∈ mapL a, x.2.len < 4294967296) := rfl
theorem valueB_pos (k : Int) (b x : Bool) (t : T) (p : List UInt8) (h : k ≠ 10) : 0 < (valueB k b x t p).length := by
 unfold valueB
 by_cases h0 : k = 0
 ·rw [if_pos h0]; simp
 rw [if_neg h0]
 by_cases h7 : k = 7
 ·rw [if_pos h7, sixteen_len]; omega
 rw [if_neg h7]
 by_cases h8 : k = 8
 ·rw [if_pos h8]
  exact cat_pos (counted_pos _ _ _ _ (by omega))
 rw [if_neg h8]
 by_cases h9 : k = 9
 ·rw [if_pos h9]
  exact cat_pos (counted_pos _ _ _ _ (by omega))
 rw [if_neg h9, if_neg h]
 refine Fx_pos _ _ ?_
 unfold width
 repeat (first | decide | split)
theorem S_le (b x : Bool) (t : T) (k : Int) (p : List UInt8) (h : k = 8 ∨ k = 9) (hS : t.S.length <= Most) (hb : b = false) : t.S.length <= (valueB k b x t p).length := by
 subst hb
 rcases h with rfl | rfl
 ·simp only [valueB, show ¬ ((8 : Int) = 0) by decide, show ¬ ((8 : Int) = 7) by decide, if_true, if_false, Bool.false_eq_true]
  rw [List.take_of_length_le hS, List.length_append]; omega
 ·simp only [valueB, show ¬ ((9 : Int) = 0) by decide, show ¬ ((9 : Int) = 7) by decide, show ¬ ((9 : Int) = 8) by decide, if_true, if_false, Bool.false_eq_true]
  rw [List.take_of_length_le hS, List.length_append]; omega
theorem obs_wrV {v k nl : Int} (x : Bool) {cs : List DE} {t : T} {sd : List D} {sub : DE} {p : List UInt8} {b : Bool} (hk : k ≠ 10) (hc : evals X cs δ = dV k nl t sd) (ho : o.eval X δ = od)
  (hok : okV v k nl t) (hb : (k = 8 ∨ k = 9) -> b = (t.null && (decide (0 <= nl) && decide (nl <= v)))) (hlen : od.asStr.length + (valueB k b x t p).length + 16 <= lim) : obsHold X side (preOf (wrV x k nl v cs o sub)) δ := by
 have hev := ev_wrV x (p := p) (sub := sub) hc ho (fun h => absurd h hk) hok hb
 have hd := appD_le od (valueB_pos k b x t p hk)
 have hle : ((wrV x k nl v cs o sub).eval X δ).len <= lim := by rw [hev, hd]; omega
 have two : ∀ (n : Nat) (a c : DE), wrV x k nl v cs o sub = .f (.ext n) [a, c] -> (∀ d e, (X n [d, e]).len <= lim -> side n [d, e]) -> obsHold X side (preOf (wrV x k nl v cs o sub)) δ := fun n a c e h => by
  rw [e] at hle ⊢
  refine ob_pre ?_
  rw [evs_cons, evs_cons, evs_nil]
  refine h _ _ ?_
  rw [<- ev_ext, evs_cons, evs_cons, evs_nil] at hle
  exact hle
 have hh := ev_headE hc
 by_cases h0 : k = 0
 ·exact two 2 o (headE cs) (by unfold wrV; rw [if_pos h0]) (fun d e h => h)
 by_cases h1 : k = 1
 ·exact two 3 o (headE cs) (by unfold wrV; rw [if_neg h0, if_pos h1]) (fun d e h => h)
 by_cases h2 : k = 2
 ·exact two 4 o (headE cs) (by unfold wrV; rw [if_neg h0, if_neg h1, if_pos h2]) (fun d e h => h)
 by_cases h3 : k = 3
 ·exact two 6 o (headE cs) (by unfold wrV; rw [if_neg h0, if_neg h1, if_neg h2, if_pos h3]) (fun d e h => h)
 by_cases h5 : k = 5
 ·exact two 5 o (headE cs) (by unfold wrV; rw [if_neg h0, if_neg h1, if_neg h2, if_neg h3, if_pos h5]) (fun d e h => h)
 by_cases h7 : k = 7
 ·exact two 9 o (.f .mkrow cs) (by unfold wrV; rw [if_neg h0, if_neg h1, if_neg h2, if_neg h3, if_neg h5, if_pos h7]) (fun d e h => h)
 by_cases h8 : k = 8
 ·obtain ⟨k1, k2⟩ := hok (.inl h8)
  have hbe := hb (.inl h8)
  have hm : t.S.length <= 32767 := k1
  have hS : b = false -> t.S.length <= (valueB k b x t p).length := S_le b x t k p (.inl h8) k1
  subst h8
  by_cases hn : 0 <= nl /\ nl <= v
  ·have e : wrV x 8 nl v cs o sub = .f (.ext (if x then 14 else 13)) [o, headE cs] := by unfold wrV; rw [if_neg h0, if_neg h1, if_neg h2, if_neg h3, if_neg h5, if_neg h7, if_pos rfl, if_pos hn]
   cases x with
   | false => exact two 13 o (headE cs) e (fun d e h => h)
   | true =>
    have hbn : b = t.null := by rw [hbe]; simp [hn.1, hn.2]
    rw [e, if_pos rfl]
    refine ob_pre ?_
    rw [evs_cons, evs_cons, evs_nil, ho, hh, side_14]
    have hcell : dV 8 nl t sd = [if t.null then .nil else .ptr (.str t.S)] := by
     show (if nl < 0 then _ else _) = _
     rw [if_neg (by omega)]
    rw [hcell]
    cases htn : t.null with
    | true =>
     show (0 : Nat) < 2147483648 /\ od.asStr.length + 0 + 5 <= lim
     exact ⟨by omega, by omega⟩
    | false =>
     show t.S.length < 2147483648 /\ od.asStr.length + t.S.length + 5 <= lim
     have := hS (by rw [hbn, htn])
     exact ⟨by omega, by omega⟩
  ·have hnl : t.null = false := by
    cases ht : t.null with
    | false => rfl
    | true => exact absurd (k2 ht) hn
   have e : wrV x 8 nl v cs o sub = .f (.ext (if x then 12 else 11)) [o, if nl < 0 then headE cs else .f .ite [.f .not [.f .isNil [headE cs]], .f (.get 0) [.f .deref [headE cs]], .k (.str [])]] := by unfold wrV; rw [if_neg h0, if_neg h1, if_neg h2, if_neg h3, if_neg h5, if_neg h7, if_pos rfl, if_neg hn]
   cases x with
   | false => exact two 11 o _ e (fun d e h => h)
   | true =>
    have ev : (if nl < 0 then headE cs else DE.f .ite [.f .not [.f .isNil [headE cs]], .f (.get 0) [.f .deref [headE cs]], .k (.str [])]).eval X δ = .str t.S := by
     have hcell : dV 8 nl t sd = if nl < 0 then [.str t.S] else [if t.null then .nil else .ptr (.str t.S)] := rfl
     rw [hcell] at hh
     by_cases hn0 : nl < 0
     ·rw [if_pos hn0] at hh ⊢; rw [hh]; rfl
     ·rw [if_neg hn0] at hh ⊢
      simp only [ev_f, evs_cons, evs_nil, ev_k]
      rw [hh, hnl]; rfl
    rw [e, if_pos rfl]
    refine ob_pre ?_
    rw [evs_cons, evs_cons, evs_nil, ho, ev, side_12]
    show t.S.length < 2147483648 /\ od.asStr.length + t.S.length + 5 <= lim
    have := hS (by rw [hbe, hnl]; rfl)
    exact ⟨by omega, by omega⟩
 by_cases h9 : k = 9
 ·obtain ⟨k1, k2⟩ := hok (.inr h9)
  have hbe := hb (.inr h9)
  have hm : t.S.length <= 32767 := k1
  have hS : b = false -> t.S.length <= (valueB k b x t p).length := S_le b x t k p (.inr h9) k1
  subst h9
  have hcell : dV 9 nl t sd = [if t.null then .nil else .bytes t.S] := rfl
  rw [hcell] at hh
  by_cases hn : 0 <= nl /\ nl <= v
  ·have hbn : b = t.null := by rw [hbe]; simp [hn.1, hn.2]
   have e : wrV x 9 nl v cs o sub = .f (.ext (if x then 18 else 17)) [o, headE cs] := by unfold wrV; rw [if_neg h0, if_neg h1, if_neg h2, if_neg h3, if_neg h5, if_neg h7, if_neg h8, if_pos rfl, if_pos hn]
   cases x with
   | false => exact two 17 o (headE cs) e (fun d e h => h)
   | true =>
    rw [e, if_pos rfl]
    refine ob_pre ?_
    rw [evs_cons, evs_cons, evs_nil, ho, hh, side_18]
    cases htn : t.null with
    | true =>
     show (0 : Nat) < 2147483648 /\ od.asStr.length + 0 + 5 <= lim
     exact ⟨by omega, by omega⟩
    | false =>
     show t.S.length < 2147483648 /\ od.asStr.length + t.S.length + 5 <= lim
     have := hS (by rw [hbn, htn])
     exact ⟨by omega, by omega⟩
  ·have hnl : t.null = false := by
    cases ht : t.null with
    | false => rfl
    | true => exact absurd (k2 ht) hn
   have e : wrV x 9 nl v cs o sub = .f (.ext (if x then 16 else 15)) [o, headE cs] := by unfold wrV; rw [if_neg h0, if_neg h1, if_neg h2, if_neg h3, if_neg h5, if_neg h7, if_neg h8, if_pos rfl, if_neg hn]
   cases x with
   | false => exact two 15 o (headE cs) e (fun d e h => h)
   | true =>
    rw [e, if_pos rfl]
    refine ob_pre ?_
    rw [evs_cons, evs_cons, evs_nil, ho, hh, side_16, hnl]
    show t.S.length < 2147483648 /\ od.asStr.length + t.S.length + 5 <= lim
    have := hS (by rw [hbe, hnl]; rfl)
    exact ⟨by omega, by omega⟩
 exact two 7 o (headE cs) (by unfold wrV; rw [if_neg h0, if_neg h1, if_neg h2, if_neg h3, if_neg h5, if_neg h7, if_neg h8, if_neg h9, if_neg hk]) (fun d e h => h)
theorem obs_wrLen {v nl : Int} (x : Bool) {c : DE} {t : T} {g : T -> D} (hc : c.eval X δ = if t.null then .nil else .list (t.L.map g)) (ho : o.eval X δ = od) (hL : t.L.length <= Most)
  (hn : t.null = true -> (0 <= nl /\ nl <= v) ∨ t.L = []) {b : Bool} (hb : b = (t.null && (decide (0 <= nl) && decide (nl <= v)))) (hlen : od.asStr.length + (counted x b (if b then 0 else t.L.length) 4).length + 16 <= lim) : obsHold X side (preOf (wrLen x nl v c o)) δ := by
 have hev := ev_wrLen x hc ho hn hb
 have hd := appD_le od (counted_pos x b (if b then 0 else t.L.length) 4 (by omega))
 have hle : ((wrLen x nl v c o).eval X δ).len <= lim := by rw [hev, hd]; omega
 have hl : (if t.null then D.nil else D.list (t.L.map g)).len <= 32767 := by
  cases t.null
  ·show (t.L.map g).length <= _
   rw [List.length_map]; exact hL
  ·exact Nat.zero_le _
 unfold wrLen at hle ⊢
 by_cases h : 0 <= nl /\ nl <= v
 ·rw [if_pos h] at hle ⊢
  refine ob_pre ?_
  rw [<- ev_ext] at hle
  rw [evs_cons, evs_cons, evs_cons, evs_nil, ev_f, ev_f, evs_cons, evs_nil, fe_len, fe_isNil, ho, hc] at hle ⊢
  cases x with
  | false => exact hle
  | true =>
   show 0 <= (_ : Int) /\ (_ : Int) < 2147483648 /\ od.asStr.length + 5 <= lim
   simp only [int_i]
   exact ⟨Int.natCast_nonneg _, by omega, by omega⟩
 ·rw [if_neg h] at hle ⊢
  refine ob_pre ?_
  rw [<- ev_ext] at hle
  rw [evs_cons, evs_cons, evs_nil, ev_f, evs_cons, evs_nil, fe_len, ho, hc] at hle ⊢
  cases x with
  | false => exact hle
  | true =>
   show 0 <= (_ : Int) /\ (_ : Int) < 2147483648 /\ od.asStr.length + 5 <= lim
   simp only [int_i]
   exact ⟨Int.natCast_nonneg _, by omega, by omega⟩
theorem obs_wrTags (x : Bool) {c : DE} {u : List Tg} {p : List UInt8} (hc : x = true -> c.eval X δ = tagD u) (ho : o.eval X δ = appD od p) (hu : okTags u) (hlen : x = true -> od.asStr.length + (p ++ tagsW u).length + 16 <= lim) : obsHold X side (owTags x c o) δ := by
 cases x with
 | false => trivial
 | true =>
  have hev := ev_wrTags true hc ho hu
  have hlen := hlen rfl
  have hc := hc rfl
  have hpos : 0 < (p ++ tagsW u).length := by rw [List.length_append, tagsW, List.length_append]; have := Uv_pos (n := u.length); omega
  have hd := appD_le od hpos
  unfold wrTags at hev
  rw [if_pos rfl, if_pos rfl] at hev
  unfold owTags
  rw [if_pos rfl]
  have e24 : (DE.f (.add .u32) [.k (.int 0), .f (.wrap .u32) [.f (.ext 24) [c]]]).eval X δ = .int u.length := by
   simp only [ev_f, evs_cons, evs_nil, ev_k]
   have hL := tagD_L hu.1
   have h2 := hu.2.1
   rw [hc, fe_ext, X_24, hL, List.length_map, fe_wrap, fe_add]
   rw [wrapu32 (x := (u.length : Int)) (by omega) (by simp [Most] at h2; omega), Int.zero_add, wrapu32 (by omega) (by simp [Most] at h2; omega)]
  refine obs_cons ?_ (obs_cons ?_ (obs_one ?_))
  ·simp only [Ob.holds]
   rw [evs_cons, evs_cons, evs_nil, side_d25]
   rw [ev_f, evs_cons, evs_cons, evs_nil, fe_ext] at hev
   refine ⟨by rw [hev, hd]; omega, fun x hx => ?_⟩
   rw [hc, tagD_L hu.1] at hx
   obtain ⟨y, hy, rfl⟩ := List.mem_map.1 hx
   have := (hu.2.2 y hy).2.2
   simp only [Most] at this
   show (encB y.val).len < _
   rw [len_encB]; omega
  ·simp only [Ob.holds]
   rw [evs_cons, evs_cons, evs_nil, side_d10, e24, ho, X_10, app_len, int_i, Int.toNat_natCast, appD_str, List.length_append]
   rw [List.length_append, tagsW, List.length_append] at hlen
   omega
  ·exact trivial
theorem obs_obNil (k nl v : Int) (c : DE) : obsHold X side (obNil k nl v c) δ := by
 unfold obNil
 split
 ·refine obs_one ?_
  simp only [Ob.holds]
  intro h
  refine obs_one ?_
  simp only [Ob.holds]
  intro h2
  have e : (DE.f .not [.f .isNil [c]]).eval X δ = .bool (!(c.eval X δ).isNil) := by
   rw [ev_f, evs_cons, evs_nil, ev_f, evs_cons, evs_nil, fe_isNil, fe_not]
  have e2 : (DE.f .isNil [c]).eval X δ = .bool (c.eval X δ).isNil := by
   rw [ev_f, evs_cons, evs_nil, fe_isNil]
  rw [e, bool_b] at h
  rw [e2, bool_b] at h2
  rw [h2] at h
  cases h
 ·trivial
end
end Go.Mx
namespace Go.Mx
open Go Go.Dx
mutual
theorem obs_owF {al tg x : Bool} {v : Int} (hx : x = true -> tg = true) : ∀ (f : Fl) (lv : Nat) (δ : List D) (cs : List DE) (o : DE) (t : T) (od : D), plainF f = true -> lv = δ.length -> evals X cs δ = dF tg f t -> o.eval X δ = od -> okF al v f t -> od.asStr.length + (field f v x t).length + 16 <= lim -> obsHold X side (owF tg v x lv f cs o) δ
 | .mk k a b nl g df of sub, lv, δ, cs, o, t, od, hp, hlv, hc, ho, hok, hlen => by
  obtain ⟨_, hp10, hp11, hps⟩ := plainF_mk hp
  rw [field_eq] at hlen
  simp only [Fl.kind, Fl.null, Fl.of, Fl.sub] at hlen
  rw [owF]
  unfold fieldB at hlen
  by_cases h : k = 11
  ·have hof := hp11 h
   subst h
   subst hlv
   simp only [if_true] at hlen ⊢
   rw [dF, if_pos rfl] at hc
   rw [okF, if_pos rfl] at hok
   obtain ⟨q1, q2, q3⟩ := hok
   have hh : (headE cs).eval X δ = if t.null then .nil else .list (t.L.map fun y => elD of (dV of (-1) y (dS tg sub y)) y) := ev_headE hc
   have q2' : t.null = true -> (0 <= nl /\ nl <= v) ∨ t.L = [] := fun h => (q2 h).imp id (fun h => h.2)
   have hlenD := ev_wrLen x hh ho q2' (b := Mx.null (.mk 11 a b nl g df of sub) v t) rfl
   have hlv : δ.length <= δ.length := Nat.le_refl _
   have env : ∀ (i r a : D), (DE.v (δ.length + 1)).eval X (δ ++ [i, r, a]) = r /\ (DE.v (δ.length + 2)).eval X (δ ++ [i, r, a]) = a /\ δ.length + 3 = (δ ++ [i, r, a]).length := fun i r a => by
    have := env_row (δ := δ) (Nat.le_refl _) i r a
    rw [List.take_length] at this
    exact ⟨this.1, this.2.1, by simp⟩
   have hgets : ∀ (i aa : D) (y : T), evals X (getsE (.v (δ.length + 1)) (wdV tg of sub)) (δ ++ [i, elD of (dV of (-1) y (dS tg sub y)) y, aa]) = dV of (-1) y (dS tg sub y) := by
    intro i aa y
    obtain ⟨e1, e2, e3⟩ := env i (elD of (dV of (-1) y (dS tg sub y)) y) aa
    have hcells := cells_elD of y (dS tg sub y)
    have := gets_all (r := .v (δ.length + 1)) (δ := δ ++ [i, elD of (dV of (-1) y (dS tg sub y)) y, aa]) (l := dV of (-1) y (dS tg sub y)) (by rw [e1]; exact hcells)
    rwa [dV_len of (-1) y _ tg sub (dS_len tg sub y)] at this
   have hsd : of = 10 -> ∀ y, dV of (-1) y (dS tg sub y) = dS tg sub y := fun h10 y => by subst h10; rfl
   have hbody : ∀ (i aa : D) (y : T), y ∈ t.L -> (wrV x of (-1) v (getsE (.v (δ.length + 1)) (wdV tg of sub)) (.v (δ.length + 2)) (wrS tg v x (δ.length + 3) sub (getsE (.v (δ.length + 1)) (wdV tg of sub)) (.v (δ.length + 2)))).eval X (δ ++ [i, elD of (dV of (-1) y (dS tg sub y)) y, aa]) = appD aa (valueB of false x y (partS sub v x y)) := by
    intro i aa y hy
    obtain ⟨e1, e2, e3⟩ := env i (elD of (dV of (-1) y (dS tg sub y)) y) aa
    obtain ⟨o1, o2⟩ := q3 y hy
    refine ev_wrV x (hgets i aa y) e2 (fun h10 => ?_) o1 (fun _ => by simp)
    exact ev_wrS hx sub (δ.length + 3) _ _ _ y _ hps (Nat.le_of_eq e3) ((hgets i aa y).trans (hsd h10 y)) e2 (o2 h10)
   refine obs_app (obs_one ?_) ?_
   ·cases hn : t.null with
    | true =>
     rw [hn] at hh
     exact all1L (L := ([] : List T)) (e := fun y => elD of (dV of (-1) y (dS tg sub y)) y) (h := fun y a => a) (by rw [hh]; rfl) (fun _ _ y hy => by cases hy) (fun k y hk => by simp at hk)
    | false =>
     have hb : Mx.null (.mk 11 a b nl g df of sub) v t = false := by rw [null_eq, hn]; rfl
     rw [hb] at hlenD hlen
     rw [hn] at hh
     simp only [Bool.false_eq_true, if_false] at hlen hlenD
     rw [List.take_of_length_le q1] at hlen
     refine all1L (L := t.L) (e := fun y => elD of (dV of (-1) y (dS tg sub y)) y) (h := fun y a => appD a (valueB of false x y (partS sub v x y))) (by rw [hh]; rfl) hbody (fun kk y hk => ?_)
     have hy := List.mem_of_getElem? hk
     obtain ⟨o1, o2⟩ := q3 y hy
     rw [foldl_appD, hlenD, appD_appD]
     have hw : (t.L.map fun y => valueB of false x y (partS sub v x y))[kk]? = some (valueB of false x y (partS sub v x y)) := by rw [List.getElem?_map, hk]; rfl
     obtain ⟨r, hr⟩ := flat_pre hw
     rw [hr, <- List.map_take] at hlen
     generalize hacc : appD od (counted x false t.L.length 4 ++ ((t.L.take kk).map fun y => valueB of false x y (partS sub v x y)).flatten) = acc
     have hal : acc.asStr.length + (valueB of false x y (partS sub v x y)).length + 16 <= lim := by
      rw [<- hacc, appD_str]
      simp only [List.length_append] at hlen ⊢
      omega
     obtain ⟨e1, e2, e3⟩ := env (.int kk) (elD of (dV of (-1) y (dS tg sub y)) y) acc
     have hg := hgets (.int kk) acc y
     by_cases h10 : of = 10
     ·rw [if_pos h10]
      have hv : valueB of false x y (partS sub v x y) = partS sub v x y := by subst h10; rfl
      rw [hv] at hal
      exact obs_owS hx sub (δ.length + 3) _ _ _ y acc hps e3 (hg.trans (hsd h10 y)) e2 (o2 h10) hal
     ·rw [if_neg h10]
      exact obs_wrV x h10 hg e2 o1 (fun _ => by simp) hal
   ·refine obs_wrLen x hh ho q1 q2' (b := Mx.null (.mk 11 a b nl g df of sub) v t) rfl ?_
    have hle : (counted x (Mx.null (.mk 11 a b nl g df of sub) v t) (if Mx.null (.mk 11 a b nl g df of sub) v t then 0 else t.L.length) 4).length = (counted x (Mx.null (.mk 11 a b nl g df of sub) v t) (if Mx.null (.mk 11 a b nl g df of sub) v t then ([] : List T) else t.L.take Most).length 4).length := by
     rw [List.take_of_length_le q1]
     cases Mx.null (.mk 11 a b nl g df of sub) v t <;> rfl
    rw [hle]
    simp only [List.length_append] at hlen
    omega
  ·rw [if_neg h]
   rw [if_neg h] at hlen
   rw [dF, if_neg h] at hc
   rw [okF, if_neg h] at hok
   obtain ⟨o1, o2⟩ := hok
   rw [if_neg (fun e => by have := hp10 e.1; omega)] at hlen
   by_cases h10 : k = 10
   ·rw [if_pos h10]
    have hsd : dV k nl t (dS tg sub t) = dS tg sub t := by subst h10; rfl
    rw [hsd] at hc
    have hv : ∀ b', valueB k b' x t (partS sub v x t) = partS sub v x t := fun b' => by subst h10; rfl
    rw [hv] at hlen
    exact obs_owS hx sub lv δ cs o t od hps hlv hc ho (o2 h10) hlen
   ·rw [if_neg h10]
    exact obs_app (obs_wrV x h10 hc ho o1 (fun _ => rfl) hlen) (obs_obNil _ _ _ _)
theorem obs_owS {al tg x : Bool} {v : Int} (hx : x = true -> tg = true) : ∀ (fs : Option (List Fl)) (lv : Nat) (δ : List D) (cs : List DE) (o : DE) (t : T) (od : D), plainS fs = true -> lv = δ.length -> evals X cs δ = dS tg fs t -> o.eval X δ = od -> okS al v fs t -> od.asStr.length + (partS fs v x t).length + 16 <= lim -> obsHold X side (owS tg v x lv fs cs o) δ
 | none, lv, δ, cs, o, t, od, hp, hlv, hc, ho, hok, hlen => by
  rw [partS_plain hp hok] at hlen
  rw [owS]
  refine obs_wrTags (od := od) (p := []) x (fun hxt => ?_) ho hok (fun hxt => ?_)
  ·rw [dS, hx hxt, if_pos rfl] at hc
   exact ev_headE hc
  ·rw [hxt, if_pos rfl] at hlen
   exact hlen
 | some l, lv, δ, cs, o, t, od, hp, hlv, hc, ho, hok, hlen => by
  rw [partS_plain hp (okS_tags hok)] at hlen
  rw [owS]
  rw [dS] at hc
  have h1 := ev_wrL hx l lv 0 δ cs o t od _ hp (Nat.le_of_eq hlv) hc ho hok.2
  refine obs_app (obs_wrTags x (fun hxt => ?_) h1 (okS_tags hok) (fun hxt => ?_)) (obs_owL hx l lv 0 δ cs o t od _ hp hlv hc ho hok.2 ?_)
  ·have hd : evals X (cs.drop (wdL tg l)) δ = [tagD t.U] := by
    rw [evals_drop, hc, hx hxt, if_pos rfl, <- dL_len true l 0 t, List.drop_left]
   exact ev_headE hd
  ·rw [hxt, if_pos rfl] at hlen
   rw [hxt]
   exact hlen
  ·cases x with
   | true =>
    rw [if_pos rfl, List.length_append] at hlen
    have : (outP ((some l).getD []) v true t).length = ((mapI (fun i f => cellO v (rowP v true t i f)) 0 l).flatten).length := rfl
    omega
   | false => exact hlen
theorem obs_owL {al tg x : Bool} {v : Int} (hx : x = true -> tg = true) : ∀ (l : List Fl) (lv i : Nat) (δ : List D) (cs : List DE) (o : DE) (t : T) (od : D) (rest : List D), plainL l = true -> lv = δ.length -> evals X cs δ = dL tg l i t ++ rest -> o.eval X δ = od -> okL al v l i t -> od.asStr.length + ((mapI (fun i f => cellO v (rowP v x t i f)) i l).flatten).length + 16 <= lim -> obsHold X side (owL tg v x lv l cs o) δ
 | [], lv, i, δ, cs, o, t, od, rest, hp, hlv, hc, ho, hok, hlen => by rw [owL]; trivial
 | f :: r, lv, i, δ, cs, o, t, od, rest, hp, hlv, hc, ho, hok, hlen => by
  simp only [plainL, Bool.and_eq_true] at hp
  rw [okL] at hok
  rw [owL]
  rw [dL, List.append_assoc] at hc
  have ht : evals X (cs.take (wdF tg f)) δ = dF tg f (at' t i) := by rw [evals_take, hc, <- dF_len tg f (at' t i), List.take_left]
  have hd : evals X (cs.drop (wdF tg f)) δ = dL tg r (i + 1) t ++ rest := by rw [evals_drop, hc, <- dF_len tg f (at' t i), List.drop_left]
  rw [mapI, List.flatten_cons, List.length_append] at hlen
  by_cases h : f.tag < 0 /\ has f v = true
  ·rw [if_pos h]
   have hce : cellO v (rowP v x t i f) = field f v x (at' t i) := by unfold cellO rowP; rw [if_pos h]
   rw [hce] at hlen
   have hokf := hok.1 (.inr h)
   have h1 := ev_wrF hx f lv δ _ o (at' t i) od hp.1 (Nat.le_of_eq hlv) ht ho hokf
   refine obs_app (obs_owL hx r lv (i + 1) δ _ _ t _ rest hp.2 hlv hd h1 hok.2 ?_) (obs_owF hx f lv δ _ o (at' t i) od hp.1 hlv ht ho hokf (by omega))
   rw [appD_str, List.length_append]
   omega
  ·rw [if_neg h]
   exact obs_owL hx r lv (i + 1) δ _ _ t od rest hp.2 hlv hd ho hok.2 (by omega)
end
def okMsg (m : Msg) : Bool := plainS m.fs && smallS m.tg m.fs && (m.tg || decide (m.fx < 0))
theorem msgX {m : Msg} (h : okMsg m = true) (v : Int) : Flexible m.fx v = true -> m.tg = true := by
 simp only [okMsg, Bool.and_eq_true, Bool.or_eq_true, decide_eq_true_eq] at h
 intro hx
 rcases h.2 with h | h
 ·exact h
 ·simp only [Flexible, Bool.and_eq_true, decide_eq_true_eq] at hx
  omega
end Go.Mx
namespace Go.Mx
open Go Go.Dx
def deR61 : DE := (.f .ite [(.f .ltI [(.f .len [(.v 0)]), (.k (.int 1))]), (.f .mkrow [(.k (.bool false)), (.k .nil), (.k (.bool true))]), (.f .mkrow [(.f .neI [(.f (.get 0) [(.f .at [(.v 0), (.k (.int 0))])]), (.k (.int 0))]), (.f .drop [(.v 0), (.k (.int 1))]), (.k (.bool false))])])
def obR61 : List Ob := [(.when (.f .ltI [(.f .len [(.v 0)]), (.k (.int 1))]) false [(.idx (.k (.int 1)) (.v 0) false), (.idx (.k (.int 0)) (.v 0) true)])]
def deR62 : DE := (.f .ite [(.f .ltI [(.f .len [(.v 0)]), (.k (.int 1))]), (.f .mkrow [(.k (.int 0)), (.k .nil), (.k (.bool true))]), (.f .mkrow [(.f (.wrap .i8) [(.f (.get 0) [(.f .at [(.v 0), (.k (.int 0))])])]), (.f .drop [(.v 0), (.k (.int 1))]), (.k (.bool false))])])
def obR62 : List Ob := [(.when (.f .ltI [(.f .len [(.v 0)]), (.k (.int 1))]) false [(.idx (.k (.int 1)) (.v 0) false), (.idx (.k (.int 0)) (.v 0) true)])]
def deR63 : DE := (.f .ite [(.f .ltI [(.f .len [(.v 0)]), (.k (.int 2))]), (.f .mkrow [(.k (.int 0)), (.k .nil), (.k (.bool true))]), (.f .mkrow [(.f (.wrap .i16) [(.f (.bor .u16) [(.f (.wrap .u16) [(.f (.get 0) [(.f .at [(.v 0), (.k (.int 1))])])]), (.f (.shl .u16) [(.f (.wrap .u16) [(.f (.get 0) [(.f .at [(.v 0), (.k (.int 0))])])]), (.k (.int 8))])])]), (.f .drop [(.v 0), (.k (.int 2))]), (.k (.bool false))])])
def obR63 : List Ob := [(.when (.f .ltI [(.f .len [(.v 0)]), (.k (.int 2))]) false [(.idx (.k (.int 2)) (.v 0) false), (.idx (.k (.int 0)) (.v 0) true), (.idx (.k (.int 1)) (.v 0) true), (.idx (.k (.int 1)) (.v 0) true)])]
def deR64 : DE := (.f .ite [(.f .ltI [(.f .len [(.v 0)]), (.k (.int 2))]), (.f .mkrow [(.k (.int 0)), (.k .nil), (.k (.bool true))]), (.f .mkrow [(.f (.bor .u16) [(.f (.wrap .u16) [(.f (.get 0) [(.f .at [(.v 0), (.k (.int 1))])])]), (.f (.shl .u16) [(.f (.wrap .u16) [(.f (.get 0) [(.f .at [(.v 0), (.k (.int 0))])])]), (.k (.int 8))])]), (.f .drop [(.v 0), (.k (.int 2))]), (.k (.bool false))])])
def obR64 : List Ob := [(.when (.f .ltI [(.f .len [(.v 0)]), (.k (.int 2))]) false [(.idx (.k (.int 2)) (.v 0) false), (.idx (.k (.int 0)) (.v 0) true), (.idx (.k (.int 1)) (.v 0) true), (.idx (.k (.int 1)) (.v 0) true)])]
def deR65 : DE := (.f .ite [(.f .ltI [(.f .len [(.v 0)]), (.k (.int 4))]), (.f .mkrow [(.k (.int 0)), (.k .nil), (.k (.bool true))]), (.f .mkrow [(.f (.wrap .i32) [(.f (.ext 87) [(.f .mkrow []), (.v 0)])]), (.f .drop [(.v 0), (.k (.int 4))]), (.k (.bool false))])])
def obR65 : List Ob := [(.when (.f .ltI [(.f .len [(.v 0)]), (.k (.int 4))]) false [(.idx (.k (.int 4)) (.v 0) false), (.pre 87 [(.f .mkrow []), (.v 0)])])]
theorem ks1 {ds : List D} (hk : KsOk [.byts] ds) : ∃ s, ds = [s] := by
 obtain @⟨⟩ | @⟨_, d, _, _, _, hk⟩ := hk
 cases hk
 exact ⟨d, rfl⟩
theorem rows_by (s : List UInt8) : (D.bytes s).rows = s.map fun x => .int x.toNat := rfl
theorem dropD_by (n : Nat) (s : List UInt8) : (D.bytes s).dropD n = .bytes (s.drop n) := rfl
theorem takeD_by (n : Nat) (s : List UInt8) : (D.bytes s).takeD n = .bytes (s.take n) := rfl
theorem str_by (s : List UInt8) : (D.bytes s).asStr = s := rfl
theorem len_by (s : List UInt8) : (D.bytes s).len = s.length := rfl
theorem getB (s : List UInt8) (i : Int) (b : UInt8) (h : s[i.toNat]? = some b) : Fn.eval X (.get 0) [Fn.eval X .at [.bytes s, .int i]] = .int b.toNat := by
 rw [fe_at, rows_by, List.getD_eq_getElem?_getD, List.getElem?_map, h]; rfl
theorem len1 {b : List UInt8} (h : 1 <= b.length) : ∃ x r, b = x :: r := by
 match b, h with
 | x :: r, _ => exact ⟨x, r, rfl⟩
theorem len2 {b : List UInt8} (h : 2 <= b.length) : ∃ x y r, b = x :: y :: r := by
 match b, h with
 | x :: y :: r, _ => exact ⟨x, y, r, rfl⟩
theorem len4 {b : List UInt8} (h : 4 <= b.length) : ∃ x y z u r, b = x :: y :: z :: u :: r := by
 match b, h with
 | x :: y :: z :: u :: r, _ => exact ⟨x, y, z, u, r, rfl⟩
theorem row_rowR (v : D) (s : List UInt8) : Fn.eval X .mkrow [v, .bytes s, .bool false] = rowR v s := by rw [fe_mkrow]; rfl
theorem lt_false {n : Nat} {m : Int} (h : m <= n) : Fn.eval X .ltI [.int (n : Nat), .int m] = .bool false := by
 rw [fe_ltI]; congr 1; simp; omega
theorem ite_f (a b : D) : Fn.eval X .ite [.bool false, a, b] = b := rfl
theorem ite_t (a b : D) : Fn.eval X .ite [.bool true, a, b] = a := rfl
section
variable {δ : List D}
theorem whenF {c : DE} {o : List Ob} (h : obsHold X side o δ) : obsHold X side [.when c false o] δ := obs_one (by simp only [Ob.holds]; exact fun _ => h)
theorem idxF {s : List UInt8} {n : Int} {e d : DE} (he : e.eval X δ = .int n) (hd : d.eval X δ = .bytes s) (h0 : 0 <= n) (h : n.toNat <= s.length) : (Ob.idx e d false).holds X side δ := by
 simp only [Ob.holds, he, hd, int_i, len_by]
 refine ⟨h0, ?_⟩
 simp only [Bool.false_eq_true, if_false]
 omega
theorem idxT {s : List UInt8} {n : Int} {e d : DE} (he : e.eval X δ = .int n) (hd : d.eval X δ = .bytes s) (h0 : 0 <= n) (h : n.toNat < s.length) : (Ob.idx e d true).holds X side δ := by
 simp only [Ob.holds, he, hd, int_i, len_by]
 refine ⟨h0, ?_⟩
 simp only [if_true]
 omega
end
theorem evR61 (ds : List D) (hk : KsOk [.byts] ds) (h : side 61 ds) : obsHold X side obR61 ds /\ deR61.eval X ds = X 61 ds := by
 obtain ⟨s, rfl⟩ := ks1 hk
 rw [side_61] at h
 obtain ⟨b, rfl, hl⟩ := h
 obtain ⟨x, r, rfl⟩ := len1 hl
 have hlt : (1 : Int) <= ((x :: r).length : Nat) := by simp only [List.length_cons]; omega
 refine ⟨?_, ?_⟩
 ·unfold obR61
  refine whenF ?_
  refine ⟨idxF (s := x :: r) rfl rfl (by decide) (by simp only [List.length_cons]; omega), ?_⟩
  repeat (first | exact trivial | (refine ⟨idxT (s := x :: r) rfl rfl (by decide) (by simp only [List.length_cons]; omega), ?_⟩))
 ·simp only [deR61, ev_f, evs_cons, evs_nil, ev_v, ev_k, List.getD_cons_zero]
  rw [fe_len, len_by, lt_false hlt, ite_f, fe_drop, dropD_by]
  have g0 : Fn.eval X (.get 0) [Fn.eval X .at [.bytes (x :: r), .int 0]] = .int x.toNat := getB _ _ _ rfl
  have l0 := x.toNat_lt
  simp only [g0]
  rw [fe_neI, row_rowR, X_61, str_by]
  congr 2
  simp [beN, bne]
  try rw [Bool.eq_iff_iff]; simp; try omega
theorem evR62 (ds : List D) (hk : KsOk [.byts] ds) (h : side 62 ds) : obsHold X side obR62 ds /\ deR62.eval X ds = X 62 ds := by
 obtain ⟨s, rfl⟩ := ks1 hk
 rw [side_62] at h
 obtain ⟨b, rfl, hl⟩ := h
 obtain ⟨x, r, rfl⟩ := len1 hl
 have hlt : (1 : Int) <= ((x :: r).length : Nat) := by simp only [List.length_cons]; omega
 refine ⟨?_, ?_⟩
 ·unfold obR62
  refine whenF ?_
  refine ⟨idxF (s := x :: r) rfl rfl (by decide) (by simp only [List.length_cons]; omega), ?_⟩
  repeat (first | exact trivial | (refine ⟨idxT (s := x :: r) rfl rfl (by decide) (by simp only [List.length_cons]; omega), ?_⟩))
 ·simp only [deR62, ev_f, evs_cons, evs_nil, ev_v, ev_k, List.getD_cons_zero]
  rw [fe_len, len_by, lt_false hlt, ite_f, fe_drop, dropD_by]
  have g0 : Fn.eval X (.get 0) [Fn.eval X .at [.bytes (x :: r), .int 0]] = .int x.toNat := getB _ _ _ rfl
  have l0 := x.toNat_lt
  simp only [g0]
  rw [fe_wrap, row_rowR, X_62, str_by]
  simp [rI, beN]
theorem evR63 (ds : List D) (hk : KsOk [.byts] ds) (h : side 63 ds) : obsHold X side obR63 ds /\ deR63.eval X ds = X 63 ds := by
 obtain ⟨s, rfl⟩ := ks1 hk
 rw [side_63] at h
 obtain ⟨b, rfl, hl⟩ := h
 obtain ⟨x, y, r, rfl⟩ := len2 hl
 have hlt : (2 : Int) <= ((x :: y :: r).length : Nat) := by simp only [List.length_cons]; omega
 refine ⟨?_, ?_⟩
 ·unfold obR63
  refine whenF ?_
  refine ⟨idxF (s := x :: y :: r) rfl rfl (by decide) (by simp only [List.length_cons]; omega), ?_⟩
  repeat (first | exact trivial | (refine ⟨idxT (s := x :: y :: r) rfl rfl (by decide) (by simp only [List.length_cons]; omega), ?_⟩))
 ·simp only [deR63, ev_f, evs_cons, evs_nil, ev_v, ev_k, List.getD_cons_zero]
  rw [fe_len, len_by, lt_false hlt, ite_f, fe_drop, dropD_by]
  have g0 : Fn.eval X (.get 0) [Fn.eval X .at [.bytes (x :: y :: r), .int 0]] = .int x.toNat := getB _ _ _ rfl
  have l0 := x.toNat_lt
  have g1 : Fn.eval X (.get 0) [Fn.eval X .at [.bytes (x :: y :: r), .int 1]] = .int y.toNat := getB _ _ _ rfl
  have l1 := y.toNat_lt
  simp only [g0, g1]
  rw [fe_wrap, fe_wrap]
  have w0 : IntKind.u16.wrap (x.toNat : Int) = x.toNat := wrap_uns rfl (by simp [IntKind.bits]; omega)
  have w1 : IntKind.u16.wrap (y.toNat : Int) = y.toNat := wrap_uns rfl (by simp [IntKind.bits]; omega)
  rw [w0, w1, show (8 : Int) = ((8 : Nat) : Int) from rfl, shl_nat (k := .u16) rfl x.toNat 8 (by decide) (by simp [IntKind.bits]; omega), bor_nat (k := .u16) rfl x.toNat y.toNat 8 (by omega) (by simp [IntKind.bits]; omega)]
  have e : beN ((x :: y :: r).take 2) = x.toNat * 2 ^ 8 + y.toNat := by simp [beN]
  rw [fe_wrap, row_rowR, X_63, str_by]
  simp only [rI, e]
  rfl
theorem evR64 (ds : List D) (hk : KsOk [.byts] ds) (h : side 64 ds) : obsHold X side obR64 ds /\ deR64.eval X ds = X 64 ds := by
 obtain ⟨s, rfl⟩ := ks1 hk
 rw [side_64] at h
 obtain ⟨b, rfl, hl⟩ := h
 obtain ⟨x, y, r, rfl⟩ := len2 hl
 have hlt : (2 : Int) <= ((x :: y :: r).length : Nat) := by simp only [List.length_cons]; omega
 refine ⟨?_, ?_⟩
 ·unfold obR64
  refine whenF ?_
  refine ⟨idxF (s := x :: y :: r) rfl rfl (by decide) (by simp only [List.length_cons]; omega), ?_⟩
  repeat (first | exact trivial | (refine ⟨idxT (s := x :: y :: r) rfl rfl (by decide) (by simp only [List.length_cons]; omega), ?_⟩))
 ·simp only [deR64, ev_f, evs_cons, evs_nil, ev_v, ev_k, List.getD_cons_zero]
  rw [fe_len, len_by, lt_false hlt, ite_f, fe_drop, dropD_by]
  have g0 : Fn.eval X (.get 0) [Fn.eval X .at [.bytes (x :: y :: r), .int 0]] = .int x.toNat := getB _ _ _ rfl
  have l0 := x.toNat_lt
  have g1 : Fn.eval X (.get 0) [Fn.eval X .at [.bytes (x :: y :: r), .int 1]] = .int y.toNat := getB _ _ _ rfl
  have l1 := y.toNat_lt
  simp only [g0, g1]
  rw [fe_wrap, fe_wrap]
  have w0 : IntKind.u16.wrap (x.toNat : Int) = x.toNat := wrap_uns rfl (by simp [IntKind.bits]; omega)
  have w1 : IntKind.u16.wrap (y.toNat : Int) = y.toNat := wrap_uns rfl (by simp [IntKind.bits]; omega)
  rw [w0, w1, show (8 : Int) = ((8 : Nat) : Int) from rfl, shl_nat (k := .u16) rfl x.toNat 8 (by decide) (by simp [IntKind.bits]; omega), bor_nat (k := .u16) rfl x.toNat y.toNat 8 (by omega) (by simp [IntKind.bits]; omega)]
  have e : beN ((x :: y :: r).take 2) = x.toNat * 2 ^ 8 + y.toNat := by simp [beN]
  rw [row_rowR, X_64, str_by]
  simp only [rI, e]
  rw [wrap_uns (k := .u16) rfl (by simp [IntKind.bits]; omega)]; rfl
theorem evR65 (ds : List D) (hk : KsOk [.byts] ds) (h : side 65 ds) : obsHold X side obR65 ds /\ deR65.eval X ds = X 65 ds := by
 obtain ⟨s, rfl⟩ := ks1 hk
 rw [side_65] at h
 obtain ⟨b, rfl, hl⟩ := h
 have hlt : (4 : Int) <= (b.length : Nat) := by omega
 refine ⟨?_, ?_⟩
 ·unfold obR65
  refine whenF ?_
  repeat (first | exact trivial | (refine ⟨idxF (s := b) rfl rfl (by decide) (by simpa using hl), ?_⟩) | (refine ⟨(⟨b, rfl, hl⟩ : side 87 [_, D.bytes b]), ?_⟩))
 ·simp only [deR65, ev_f, evs_cons, evs_nil, ev_v, ev_k, List.getD_cons_zero]
  rw [fe_len, len_by, lt_false hlt, ite_f, fe_drop, dropD_by, fe_ext, X_87, str_by, fe_wrap, row_rowR, X_65, str_by]
  rfl
end Go.Mx
namespace Go.Mx
open Go Go.Dx
def deR66 : DE := (.f .mkrow [(.f (.wrap .i64) [(.f (.get 0) [(.f (.ext 69) [(.v 0)])])]), (.f (.get 1) [(.f (.ext 69) [(.v 0)])]), (.k (.bool false))])
def obR66 : List Ob := [(.pre 69 [(.v 0)])]
def deR69 : DE := (.f .ite [(.f .ltI [(.f .len [(.v 0)]), (.k (.int 8))]), (.f .mkrow [(.k (.int 0)), (.k .nil), (.k (.bool true))]), (.f .mkrow [(.f (.ext 86) [(.f .mkrow []), (.v 0)]), (.f .drop [(.v 0), (.k (.int 8))]), (.k (.bool false))])])
def obR69 : List Ob := [(.when (.f .ltI [(.f .len [(.v 0)]), (.k (.int 8))]) false [(.idx (.k (.int 8)) (.v 0) false), (.pre 86 [(.f .mkrow []), (.v 0)])])]
def deR70 : DE := (.f .ite [(.f .leI [(.f .ite [(.f .ltI [(.f .len [(.v 0)]), (.k (.int 1))]), (.k (.int 0)), (.f .ite [(.f .eqI [(.f (.band .u8) [(.f (.get 0) [(.f .at [(.v 0), (.k (.int 0))])]), (.k (.int 128))]), (.k (.int 0))]), (.k (.int 1)), (.f .ite [(.f .ltI [(.f .len [(.v 0)]), (.k (.int 2))]), (.k (.int 0)), (.f .ite [(.f .eqI [(.f (.band .u8) [(.f (.get 0) [(.f .at [(.v 0), (.k (.int 1))])]), (.k (.int 128))]), (.k (.int 0))]), (.k (.int 2)), (.f .ite [(.f .ltI [(.f .len [(.v 0)]), (.k (.int 3))]), (.k (.int 0)), (.f .ite [(.f .eqI [(.f (.band .u8) [(.f (.get 0) [(.f .at [(.v 0), (.k (.int 2))])]), (.k (.int 128))]), (.k (.int 0))]), (.k (.int 3)), (.f .ite [(.f .ltI [(.f .len [(.v 0)]), (.k (.int 4))]), (.k (.int 0)), (.f .ite [(.f .eqI [(.f (.band .u8) [(.f (.get 0) [(.f .at [(.v 0), (.k (.int 3))])]), (.k (.int 128))]), (.k (.int 0))]), (.k (.int 4)), (.f .ite [(.f .ltI [(.f .len [(.v 0)]), (.k (.int 5))]), (.k (.int 0)), (.f .ite [(.f .leI [(.f (.get 0) [(.f .at [(.v 0), (.k (.int 4))])]), (.k (.int 15))]), (.k (.int 5)), (.k (.int (-5)))])])])])])])])])])]), (.k (.int 0))]), (.f .mkrow [(.k (.int 0)), (.k .nil), (.k (.bool true))]), (.f .mkrow [(.f .ite [(.f .ltI [(.f .len [(.v 0)]), (.k (.int 1))]), (.k (.int 0)), (.f .ite [(.f .eqI [(.f (.band .u8) [(.f (.get 0) [(.f .at [(.v 0), (.k (.int 0))])]), (.k (.int 128))]), (.k (.int 0))]), (.f (.wrap .u32) [(.f (.band .u8) [(.f (.get 0) [(.f .at [(.v 0), (.k (.int 0))])]), (.k (.int 127))])]), (.f .ite [(.f .ltI [(.f .len [(.v 0)]), (.k (.int 2))]), (.k (.int 0)), (.f .ite [(.f .eqI [(.f (.band .u8) [(.f (.get 0) [(.f .at [(.v 0), (.k (.int 1))])]), (.k (.int 128))]), (.k (.int 0))]), (.f (.bor .u32) [(.f (.wrap .u32) [(.f (.band .u8) [(.f (.get 0) [(.f .at [(.v 0), (.k (.int 0))])]), (.k (.int 127))])]), (.f (.shl .u32) [(.f (.wrap .u32) [(.f (.band .u8) [(.f (.get 0) [(.f .at [(.v 0), (.k (.int 1))])]), (.k (.int 127))])]), (.k (.int 7))])]), (.f .ite [(.f .ltI [(.f .len [(.v 0)]), (.k (.int 3))]), (.k (.int 0)), (.f .ite [(.f .eqI [(.f (.band .u8) [(.f (.get 0) [(.f .at [(.v 0), (.k (.int 2))])]), (.k (.int 128))]), (.k (.int 0))]), (.f (.bor .u32) [(.f (.bor .u32) [(.f (.wrap .u32) [(.f (.band .u8) [(.f (.get 0) [(.f .at [(.v 0), (.k (.int 0))])]), (.k (.int 127))])]), (.f (.shl .u32) [(.f (.wrap .u32) [(.f (.band .u8) [(.f (.get 0) [(.f .at [(.v 0), (.k (.int 1))])]), (.k (.int 127))])]), (.k (.int 7))])]), (.f (.shl .u32) [(.f (.wrap .u32) [(.f (.band .u8) [(.f (.get 0) [(.f .at [(.v 0), (.k (.int 2))])]), (.k (.int 127))])]), (.k (.int 14))])]), (.f .ite [(.f .ltI [(.f .len [(.v 0)]), (.k (.int 4))]), (.k (.int 0)), (.f .ite [(.f .eqI [(.f (.band .u8) [(.f (.get 0) [(.f .at [(.v 0), (.k (.int 3))])]), (.k (.int 128))]), (.k (.int 0))]), (.f (.bor .u32) [(.f (.bor .u32) [(.f (.bor .u32) [(.f (.wrap .u32) [(.f (.band .u8) [(.f (.get 0) [(.f .at [(.v 0), (.k (.int 0))])]), (.k (.int 127))])]), (.f (.shl .u32) [(.f (.wrap .u32) [(.f (.band .u8) [(.f (.get 0) [(.f .at [(.v 0), (.k (.int 1))])]), (.k (.int 127))])]), (.k (.int 7))])]), (.f (.shl .u32) [(.f (.wrap .u32) [(.f (.band .u8) [(.f (.get 0) [(.f .at [(.v 0), (.k (.int 2))])]), (.k (.int 127))])]), (.k (.int 14))])]), (.f (.shl .u32) [(.f (.wrap .u32) [(.f (.band .u8) [(.f (.get 0) [(.f .at [(.v 0), (.k (.int 3))])]), (.k (.int 127))])]), (.k (.int 21))])]), (.f .ite [(.f .ltI [(.f .len [(.v 0)]), (.k (.int 5))]), (.k (.int 0)), (.f .ite [(.f .leI [(.f (.get 0) [(.f .at [(.v 0), (.k (.int 4))])]), (.k (.int 15))]), (.f (.bor .u32) [(.f (.bor .u32) [(.f (.bor .u32) [(.f (.bor .u32) [(.f (.wrap .u32) [(.f (.band .u8) [(.f (.get 0) [(.f .at [(.v 0), (.k (.int 0))])]), (.k (.int 127))])]), (.f (.shl .u32) [(.f (.wrap .u32) [(.f (.band .u8) [(.f (.get 0) [(.f .at [(.v 0), (.k (.int 1))])]), (.k (.int 127))])]), (.k (.int 7))])]), (.f (.shl .u32) [(.f (.wrap .u32) [(.f (.band .u8) [(.f (.get 0) [(.f .at [(.v 0), (.k (.int 2))])]), (.k (.int 127))])]), (.k (.int 14))])]), (.f (.shl .u32) [(.f (.wrap .u32) [(.f (.band .u8) [(.f (.get 0) [(.f .at [(.v 0), (.k (.int 3))])]), (.k (.int 127))])]), (.k (.int 21))])]), (.f (.shl .u32) [(.f (.wrap .u32) [(.f (.get 0) [(.f .at [(.v 0), (.k (.int 4))])])]), (.k (.int 28))])]), (.k (.int 0))])])])])])])])])])]), (.f .drop [(.v 0), (.f .ite [(.f .ltI [(.f .len [(.v 0)]), (.k (.int 1))]), (.k (.int 0)), (.f .ite [(.f .eqI [(.f (.band .u8) [(.f (.get 0) [(.f .at [(.v 0), (.k (.int 0))])]), (.k (.int 128))]), (.k (.int 0))]), (.k (.int 1)), (.f .ite [(.f .ltI [(.f .len [(.v 0)]), (.k (.int 2))]), (.k (.int 0)), (.f .ite [(.f .eqI [(.f (.band .u8) [(.f (.get 0) [(.f .at [(.v 0), (.k (.int 1))])]), (.k (.int 128))]), (.k (.int 0))]), (.k (.int 2)), (.f .ite [(.f .ltI [(.f .len [(.v 0)]), (.k (.int 3))]), (.k (.int 0)), (.f .ite [(.f .eqI [(.f (.band .u8) [(.f (.get 0) [(.f .at [(.v 0), (.k (.int 2))])]), (.k (.int 128))]), (.k (.int 0))]), (.k (.int 3)), (.f .ite [(.f .ltI [(.f .len [(.v 0)]), (.k (.int 4))]), (.k (.int 0)), (.f .ite [(.f .eqI [(.f (.band .u8) [(.f (.get 0) [(.f .at [(.v 0), (.k (.int 3))])]), (.k (.int 128))]), (.k (.int 0))]), (.k (.int 4)), (.f .ite [(.f .ltI [(.f .len [(.v 0)]), (.k (.int 5))]), (.k (.int 0)), (.f .ite [(.f .leI [(.f (.get 0) [(.f .at [(.v 0), (.k (.int 4))])]), (.k (.int 15))]), (.k (.int 5)), (.k (.int (-5)))])])])])])])])])])])]), (.k (.bool false))])])
def obR70 : List Ob := [(.when (.f .leI [(.f .ite [(.f .ltI [(.f .len [(.v 0)]), (.k (.int 1))]), (.k (.int 0)), (.f .ite [(.f .eqI [(.f (.band .u8) [(.f (.get 0) [(.f .at [(.v 0), (.k (.int 0))])]), (.k (.int 128))]), (.k (.int 0))]), (.k (.int 1)), (.f .ite [(.f .ltI [(.f .len [(.v 0)]), (.k (.int 2))]), (.k (.int 0)), (.f .ite [(.f .eqI [(.f (.band .u8) [(.f (.get 0) [(.f .at [(.v 0), (.k (.int 1))])]), (.k (.int 128))]), (.k (.int 0))]), (.k (.int 2)), (.f .ite [(.f .ltI [(.f .len [(.v 0)]), (.k (.int 3))]), (.k (.int 0)), (.f .ite [(.f .eqI [(.f (.band .u8) [(.f (.get 0) [(.f .at [(.v 0), (.k (.int 2))])]), (.k (.int 128))]), (.k (.int 0))]), (.k (.int 3)), (.f .ite [(.f .ltI [(.f .len [(.v 0)]), (.k (.int 4))]), (.k (.int 0)), (.f .ite [(.f .eqI [(.f (.band .u8) [(.f (.get 0) [(.f .at [(.v 0), (.k (.int 3))])]), (.k (.int 128))]), (.k (.int 0))]), (.k (.int 4)), (.f .ite [(.f .ltI [(.f .len [(.v 0)]), (.k (.int 5))]), (.k (.int 0)), (.f .ite [(.f .leI [(.f (.get 0) [(.f .at [(.v 0), (.k (.int 4))])]), (.k (.int 15))]), (.k (.int 5)), (.k (.int (-5)))])])])])])])])])])]), (.k (.int 0))]) false [(.idx (.f .ite [(.f .ltI [(.f .len [(.v 0)]), (.k (.int 1))]), (.k (.int 0)), (.f .ite [(.f .eqI [(.f (.band .u8) [(.f (.get 0) [(.f .at [(.v 0), (.k (.int 0))])]), (.k (.int 128))]), (.k (.int 0))]), (.k (.int 1)), (.f .ite [(.f .ltI [(.f .len [(.v 0)]), (.k (.int 2))]), (.k (.int 0)), (.f .ite [(.f .eqI [(.f (.band .u8) [(.f (.get 0) [(.f .at [(.v 0), (.k (.int 1))])]), (.k (.int 128))]), (.k (.int 0))]), (.k (.int 2)), (.f .ite [(.f .ltI [(.f .len [(.v 0)]), (.k (.int 3))]), (.k (.int 0)), (.f .ite [(.f .eqI [(.f (.band .u8) [(.f (.get 0) [(.f .at [(.v 0), (.k (.int 2))])]), (.k (.int 128))]), (.k (.int 0))]), (.k (.int 3)), (.f .ite [(.f .ltI [(.f .len [(.v 0)]), (.k (.int 4))]), (.k (.int 0)), (.f .ite [(.f .eqI [(.f (.band .u8) [(.f (.get 0) [(.f .at [(.v 0), (.k (.int 3))])]), (.k (.int 128))]), (.k (.int 0))]), (.k (.int 4)), (.f .ite [(.f .ltI [(.f .len [(.v 0)]), (.k (.int 5))]), (.k (.int 0)), (.f .ite [(.f .leI [(.f (.get 0) [(.f .at [(.v 0), (.k (.int 4))])]), (.k (.int 15))]), (.k (.int 5)), (.k (.int (-5)))])])])])])])])])])]) (.v 0) false)]), (.when (.f .ltI [(.f .len [(.v 0)]), (.k (.int 1))]) false [(.when (.f .eqI [(.f (.band .u8) [(.f (.get 0) [(.f .at [(.v 0), (.k (.int 0))])]), (.k (.int 128))]), (.k (.int 0))]) false [(.when (.f .ltI [(.f .len [(.v 0)]), (.k (.int 2))]) false [(.when (.f .eqI [(.f (.band .u8) [(.f (.get 0) [(.f .at [(.v 0), (.k (.int 1))])]), (.k (.int 128))]), (.k (.int 0))]) false [(.when (.f .ltI [(.f .len [(.v 0)]), (.k (.int 3))]) false [(.when (.f .eqI [(.f (.band .u8) [(.f (.get 0) [(.f .at [(.v 0), (.k (.int 2))])]), (.k (.int 128))]), (.k (.int 0))]) false [(.when (.f .ltI [(.f .len [(.v 0)]), (.k (.int 4))]) false [(.when (.f .eqI [(.f (.band .u8) [(.f (.get 0) [(.f .at [(.v 0), (.k (.int 3))])]), (.k (.int 128))]), (.k (.int 0))]) false [(.when (.f .ltI [(.f .len [(.v 0)]), (.k (.int 5))]) false [(.idx (.k (.int 4)) (.v 0) true), (.idx (.k (.int 4)) (.v 0) true)])]), (.idx (.k (.int 3)) (.v 0) true), (.idx (.k (.int 3)) (.v 0) true)])]), (.idx (.k (.int 2)) (.v 0) true), (.idx (.k (.int 2)) (.v 0) true)])]), (.idx (.k (.int 1)) (.v 0) true), (.idx (.k (.int 1)) (.v 0) true)])]), (.idx (.k (.int 0)) (.v 0) true), (.idx (.k (.int 0)) (.v 0) true)])]
def deR71 : DE := (.f .ite [(.f .ite [(.f .ltI [(.f .len [(.v 0)]), (.v 1)]), (.k (.bool true)), (.f .ltI [(.v 1), (.k (.int 0))])]), (.f .mkrow [(.k .nil), (.k .nil), (.k (.bool true))]), (.f .mkrow [(.f .take [(.v 0), (.v 1)]), (.f .drop [(.v 0), (.v 1)]), (.k (.bool false))])])
def obR71 : List Ob := [(.when (.f .ite [(.f .ltI [(.f .len [(.v 0)]), (.v 1)]), (.k (.bool true)), (.f .ltI [(.v 1), (.k (.int 0))])]) false [(.idx (.v 1) (.v 0) false), (.idx (.v 1) (.v 0) false)])]
def deR72 : DE := (.f .mkrow [(.f .toStr [(.f (.get 0) [(.f (.ext 71) [(.f (.get 1) [(.f (.ext 63) [(.v 0)])]), (.f (.wrap .i64) [(.f (.get 0) [(.f (.ext 63) [(.v 0)])])])])])]), (.f (.get 1) [(.f (.ext 71) [(.f (.get 1) [(.f (.ext 63) [(.v 0)])]), (.f (.wrap .i64) [(.f (.get 0) [(.f (.ext 63) [(.v 0)])])])])]), (.k (.bool false))])
def obR72 : List Ob := [(.pre 71 [(.f (.get 1) [(.f (.ext 63) [(.v 0)])]), (.f (.wrap .i64) [(.f (.get 0) [(.f (.ext 63) [(.v 0)])])])]), (.pre 63 [(.v 0)])]
def deR73 : DE := (.f .mkrow [(.f .toStr [(.f (.get 0) [(.f (.ext 71) [(.f (.get 1) [(.f (.ext 70) [(.v 0)])]), (.f (.sub .i64) [(.f (.wrap .i64) [(.f (.get 0) [(.f (.ext 70) [(.v 0)])])]), (.k (.int 1))])])])]), (.f (.get 1) [(.f (.ext 71) [(.f (.get 1) [(.f (.ext 70) [(.v 0)])]), (.f (.sub .i64) [(.f (.wrap .i64) [(.f (.get 0) [(.f (.ext 70) [(.v 0)])])]), (.k (.int 1))])])]), (.k (.bool false))])
def obR73 : List Ob := [(.pre 71 [(.f (.get 1) [(.f (.ext 70) [(.v 0)])]), (.f (.sub .i64) [(.f (.wrap .i64) [(.f (.get 0) [(.f (.ext 70) [(.v 0)])])]), (.k (.int 1))])]), (.pre 70 [(.v 0)])]
def deR74 : DE := (.f .ite [(.f .ltI [(.f (.get 0) [(.f (.ext 63) [(.v 0)])]), (.k (.int 0))]), (.f .mkrow [(.k .nil), (.f (.get 1) [(.f (.ext 63) [(.v 0)])]), (.k (.bool false))]), (.f .mkrow [(.f .mkptr [(.f .toStr [(.f (.get 0) [(.f (.ext 71) [(.f (.get 1) [(.f (.ext 63) [(.v 0)])]), (.f (.wrap .i64) [(.f (.get 0) [(.f (.ext 63) [(.v 0)])])])])])])]), (.f (.get 1) [(.f (.ext 71) [(.f (.get 1) [(.f (.ext 63) [(.v 0)])]), (.f (.wrap .i64) [(.f (.get 0) [(.f (.ext 63) [(.v 0)])])])])]), (.k (.bool false))])])
def obR74 : List Ob := [(.when (.f .ltI [(.f (.get 0) [(.f (.ext 63) [(.v 0)])]), (.k (.int 0))]) false [(.pre 71 [(.f (.get 1) [(.f (.ext 63) [(.v 0)])]), (.f (.wrap .i64) [(.f (.get 0) [(.f (.ext 63) [(.v 0)])])])])]), (.pre 63 [(.v 0)])]
def deR75 : DE := (.f .ite [(.f .ltI [(.f (.sub .i64) [(.f (.wrap .i64) [(.f (.get 0) [(.f (.ext 70) [(.v 0)])])]), (.k (.int 1))]), (.k (.int 0))]), (.f .mkrow [(.k .nil), (.f (.get 1) [(.f (.ext 70) [(.v 0)])]), (.k (.bool false))]), (.f .mkrow [(.f .mkptr [(.f .toStr [(.f (.get 0) [(.f (.ext 71) [(.f (.get 1) [(.f (.ext 70) [(.v 0)])]), (.f (.sub .i64) [(.f (.wrap .i64) [(.f (.get 0) [(.f (.ext 70) [(.v 0)])])]), (.k (.int 1))])])])])]), (.f (.get 1) [(.f (.ext 71) [(.f (.get 1) [(.f (.ext 70) [(.v 0)])]), (.f (.sub .i64) [(.f (.wrap .i64) [(.f (.get 0) [(.f (.ext 70) [(.v 0)])])]), (.k (.int 1))])])]), (.k (.bool false))])])
def obR75 : List Ob := [(.when (.f .ltI [(.f (.sub .i64) [(.f (.wrap .i64) [(.f (.get 0) [(.f (.ext 70) [(.v 0)])])]), (.k (.int 1))]), (.k (.int 0))]) false [(.pre 71 [(.f (.get 1) [(.f (.ext 70) [(.v 0)])]), (.f (.sub .i64) [(.f (.wrap .i64) [(.f (.get 0) [(.f (.ext 70) [(.v 0)])])]), (.k (.int 1))])])]), (.pre 70 [(.v 0)])]
def deR76 : DE := (.f .ite [(.f .eqI [(.f (.get 0) [(.f (.ext 65) [(.v 0)])]), (.k (.int (-1)))]), (.f .mkrow [(.f .mkbytes []), (.f (.get 1) [(.f (.ext 65) [(.v 0)])]), (.k (.bool false))]), (.f .mkrow [(.f (.get 0) [(.f (.ext 71) [(.f (.get 1) [(.f (.ext 65) [(.v 0)])]), (.f (.wrap .i64) [(.f (.get 0) [(.f (.ext 65) [(.v 0)])])])])]), (.f (.get 1) [(.f (.ext 71) [(.f (.get 1) [(.f (.ext 65) [(.v 0)])]), (.f (.wrap .i64) [(.f (.get 0) [(.f (.ext 65) [(.v 0)])])])])]), (.k (.bool false))])])
def obR76 : List Ob := [(.when (.f .eqI [(.f (.get 0) [(.f (.ext 65) [(.v 0)])]), (.k (.int (-1)))]) false [(.pre 71 [(.f (.get 1) [(.f (.ext 65) [(.v 0)])]), (.f (.wrap .i64) [(.f (.get 0) [(.f (.ext 65) [(.v 0)])])])])]), (.pre 65 [(.v 0)])]
def deR77 : DE := (.f .ite [(.f .eqI [(.f (.sub .i64) [(.f (.wrap .i64) [(.f (.get 0) [(.f (.ext 70) [(.v 0)])])]), (.k (.int 1))]), (.k (.int (-1)))]), (.f .mkrow [(.f .mkbytes []), (.f (.get 1) [(.f (.ext 70) [(.v 0)])]), (.k (.bool false))]), (.f .mkrow [(.f (.get 0) [(.f (.ext 71) [(.f (.get 1) [(.f (.ext 70) [(.v 0)])]), (.f (.sub .i64) [(.f (.wrap .i64) [(.f (.get 0) [(.f (.ext 70) [(.v 0)])])]), (.k (.int 1))])])]), (.f (.get 1) [(.f (.ext 71) [(.f (.get 1) [(.f (.ext 70) [(.v 0)])]), (.f (.sub .i64) [(.f (.wrap .i64) [(.f (.get 0) [(.f (.ext 70) [(.v 0)])])]), (.k (.int 1))])])]), (.k (.bool false))])])
def obR77 : List Ob := [(.when (.f .eqI [(.f (.sub .i64) [(.f (.wrap .i64) [(.f (.get 0) [(.f (.ext 70) [(.v 0)])])]), (.k (.int 1))]), (.k (.int (-1)))]) false [(.pre 71 [(.f (.get 1) [(.f (.ext 70) [(.v 0)])]), (.f (.sub .i64) [(.f (.wrap .i64) [(.f (.get 0) [(.f (.ext 70) [(.v 0)])])]), (.k (.int 1))])])]), (.pre 70 [(.v 0)])]
def deR80 : DE := (.f .ite [(.f .ltI [(.f .len [(.f (.get 1) [(.f (.ext 65) [(.v 0)])])]), (.f (.wrap .i64) [(.f (.get 0) [(.f (.ext 65) [(.v 0)])])])]), (.f .mkrow [(.k (.int 0)), (.k .nil), (.k (.bool true))]), (.f .mkrow [(.f (.get 0) [(.f (.ext 65) [(.v 0)])]), (.f (.get 1) [(.f (.ext 65) [(.v 0)])]), (.k (.bool false))])])
def obR80 : List Ob := [(.pre 65 [(.v 0)])]
def deR81 : DE := (.f .ite [(.f .ltI [(.f .len [(.f (.get 1) [(.f (.ext 70) [(.v 0)])])]), (.f (.wrap .i64) [(.f (.sub .i32) [(.f (.wrap .i32) [(.f (.get 0) [(.f (.ext 70) [(.v 0)])])]), (.k (.int 1))])])]), (.f .mkrow [(.k (.int 0)), (.k .nil), (.k (.bool true))]), (.f .mkrow [(.f (.sub .i32) [(.f (.wrap .i32) [(.f (.get 0) [(.f (.ext 70) [(.v 0)])])]), (.k (.int 1))]), (.f (.get 1) [(.f (.ext 70) [(.v 0)])]), (.k (.bool false))])])
def obR81 : List Ob := [(.pre 70 [(.v 0)])]
theorem get0R (v : D) (s : List UInt8) : Fn.eval X (.get 0) [rowR v s] = v := rfl
theorem get1R (v : D) (s : List UInt8) : Fn.eval X (.get 1) [rowR v s] = .bytes s := rfl
theorem w64 {n : Nat} (h : n < 4294967296) : IntKind.i64.wrap (n : Int) = n := by rw [IntKind.wrap_i64]; omega
theorem w64i {n : Int} (h0 : -4294967296 < n) (h : n < 4294967296) : IntKind.i64.wrap n = n := by rw [IntKind.wrap_i64]; omega
theorem w32i {n : Int} (h0 : -2147483648 <= n) (h : n < 2147483648) : IntKind.i32.wrap n = n := by rw [IntKind.wrap_i32]; omega
theorem X63e (z : Int) (r : List UInt8) : X 63 [.bytes (Fixed z 2 ++ r)] = rowR (.int (IntKind.i16.wrap z)) r := by rw [X_63, str_by, rI16]
theorem X65e (z : Int) (r : List UInt8) : X 65 [.bytes (Fixed z 4 ++ r)] = rowR (.int (IntKind.i32.wrap z)) r := by rw [X_65, str_by, rI32]
theorem X70e (n : Nat) (r : List UInt8) : X 70 [.bytes (Uvarint n ++ r)] = rowR (.int n) r := by rw [X_70, str_by, rUv_Uvarint]
theorem X71e (v r : List UInt8) : X 71 [.bytes (v ++ r), .int (v.length : Nat)] = rowR (.bytes v) r := by rw [X_71, str_by, int_i, Int.toNat_natCast, rSp_app]
theorem side70e {n : Nat} (r : List UInt8) (h : n < 4294967296) : side 70 [.bytes (Uvarint n ++ r)] := ⟨n, r, rfl, h⟩
theorem side63e (z : Int) (r : List UInt8) : side 63 [.bytes (Fixed z 2 ++ r)] := ⟨_, rfl, by rw [List.length_append, Fixed_len]; omega⟩
theorem side65e (z : Int) (r : List UInt8) : side 65 [.bytes (Fixed z 4 ++ r)] := ⟨_, rfl, by rw [List.length_append, Fixed_len]; omega⟩
theorem side71e (v r : List UInt8) : side 71 [.bytes (v ++ r), .int (v.length : Nat)] := ⟨_, rfl, by rw [int_i]; omega, by rw [int_i, List.length_append]; omega⟩
theorem most32 {n : Nat} (h : n <= Most) : n < 4294967296 := by simp only [Most] at h; omega
theorem ltI_f {a b : Int} (h : b <= a) : Fn.eval X .ltI [.int a, .int b] = .bool false := by rw [fe_ltI]; congr 1; simp; omega
theorem ltI_t {a b : Int} (h : a < b) : Fn.eval X .ltI [.int a, .int b] = .bool true := by rw [fe_ltI]; congr 1; simp; omega
theorem eqI_f {a b : Int} (h : a ≠ b) : Fn.eval X .eqI [.int a, .int b] = .bool false := by rw [fe_eqI]; congr 1; simp [h]
theorem evR66 (ds : List D) (hk : KsOk [.byts] ds) (h : side 66 ds) : obsHold X side obR66 ds /\ deR66.eval X ds = X 66 ds := by
 obtain ⟨s, rfl⟩ := ks1 hk
 rw [side_66] at h
 obtain ⟨b, rfl, hl⟩ := h
 refine ⟨⟨⟨b, rfl, hl⟩, trivial⟩, ?_⟩
 simp only [deR66, ev_f, evs_cons, evs_nil, ev_v, ev_k, List.getD_cons_zero, fe_ext]
 rw [X_69, str_by, get0R, get1R, fe_wrap, row_rowR, X_66, str_by]
 have : IntKind.i64.wrap (rI .u64 8 b).1 = (rI .i64 8 b).1 := by
  unfold rI
  rw [IntKind.wrap_u64, IntKind.wrap_i64, IntKind.wrap_i64]
  simp only
  omega
 rw [this]; rfl
theorem evR69 (ds : List D) (hk : KsOk [.byts] ds) (h : side 69 ds) : obsHold X side obR69 ds /\ deR69.eval X ds = X 69 ds := by
 obtain ⟨s, rfl⟩ := ks1 hk
 rw [side_69] at h
 obtain ⟨b, rfl, hl⟩ := h
 have hlt : (8 : Int) <= (b.length : Nat) := by omega
 refine ⟨?_, ?_⟩
 ·unfold obR69
  refine whenF ?_
  repeat (first | exact trivial | (refine ⟨idxF (s := b) rfl rfl (by decide) (by simpa using hl), ?_⟩) | (refine ⟨(⟨b, rfl, hl⟩ : side 86 [_, D.bytes b]), ?_⟩))
 ·simp only [deR69, ev_f, evs_cons, evs_nil, ev_v, ev_k, List.getD_cons_zero]
  rw [fe_len, len_by, lt_false hlt, ite_f, fe_drop, dropD_by, fe_ext, X_86, str_by, row_rowR, X_69, str_by]
  have : IntKind.u64.wrap (beN (b.take 8) : Nat) = beN (b.take 8) := by
   refine wrap_uns (k := .u64) rfl ?_
   have := beN_lt (b.take 8)
   rw [List.length_take, Nat.min_eq_left hl] at this
   exact this
  simp only [rI, this]
  rfl
theorem evR71 (ds : List D) (hk : KsOk [.byts, .int .i64] ds) (h : side 71 ds) : obsHold X side obR71 ds /\ deR71.eval X ds = X 71 ds := by
 obtain @⟨⟩ | @⟨_, s, _, _, _, hk⟩ := hk
 obtain @⟨⟩ | @⟨_, l, _, _, k2, hk⟩ := hk
 cases hk
 obtain ⟨n, rfl, _⟩ := k2
 rw [side_71] at h
 obtain ⟨b, rfl, h0, hl⟩ := h
 rw [int_i] at h0 hl
 refine ⟨?_, ?_⟩
 ·unfold obR71
  refine whenF ?_
  repeat (first | exact trivial | (refine ⟨idxF (s := b) (n := n) rfl rfl h0 hl, ?_⟩))
 ·simp only [deR71, ev_f, evs_cons, evs_nil, ev_v, ev_k, List.getD_cons_zero, List.getD_cons_succ]
  rw [fe_len, len_by, ltI_f (by omega), ltI_f (by omega), ite_f, ite_f]
  rw [fe_take, fe_drop, dropD_by, takeD_by, row_rowR, X_71, str_by, int_i]
  rfl
theorem evR72 (ds : List D) (hk : KsOk [.byts] ds) (h : side 72 ds) : obsHold X side obR72 ds /\ deR72.eval X ds = X 72 ds := by
 obtain ⟨s, rfl⟩ := ks1 hk
 rw [side_72] at h
 obtain ⟨v, r, rfl, hv⟩ := h
 have h32 := most32 hv
 refine ⟨⟨?_, side63e _ _, trivial⟩, ?_⟩
 ·simp only [Ob.holds, ev_f, evs_cons, evs_nil, ev_v, ev_k, List.getD_cons_zero, fe_ext]
  rw [X63e, get0R, get1R, fe_wrap, wrap_len16 hv, w64 h32]
  exact side71e v r
 ·simp only [deR72, ev_f, evs_cons, evs_nil, ev_v, ev_k, List.getD_cons_zero, fe_ext]
  rw [X63e, get0R, get1R, fe_wrap, wrap_len16 hv, w64 h32, X71e, get0R, get1R, fe_toStr, str_by, row_rowR, X_72, str_by, rStr_enc r hv]
theorem evR73 (ds : List D) (hk : KsOk [.byts] ds) (h : side 73 ds) : obsHold X side obR73 ds /\ deR73.eval X ds = X 73 ds := by
 obtain ⟨s, rfl⟩ := ks1 hk
 rw [side_73] at h
 obtain ⟨v, r, rfl, hv⟩ := h
 have h32 := most32 hv
 have h33 : v.length + 1 < 4294967296 := by simp only [Most] at hv; omega
 have hsub : IntKind.i64.wrap (((v.length + 1 : Nat) : Int) - 1) = (v.length : Nat) := by rw [show ((v.length + 1 : Nat) : Int) - 1 = (v.length : Nat) by omega, w64 h32]
 refine ⟨⟨?_, side70e _ h33, trivial⟩, ?_⟩
 ·simp only [Ob.holds, ev_f, evs_cons, evs_nil, ev_v, ev_k, List.getD_cons_zero, fe_ext]
  rw [X70e, get0R, get1R, fe_wrap, w64 h33, fe_sub, hsub]
  exact side71e v r
 ·simp only [deR73, ev_f, evs_cons, evs_nil, ev_v, ev_k, List.getD_cons_zero, fe_ext]
  rw [X70e, get0R, get1R, fe_wrap, w64 h33, fe_sub, hsub, X71e, get0R, get1R, fe_toStr, str_by, row_rowR, X_73, str_by, rCStr_enc]
theorem evR74 (ds : List D) (hk : KsOk [.byts] ds) (h : side 74 ds) : obsHold X side obR74 ds /\ deR74.eval X ds = X 74 ds := by
 obtain ⟨s, rfl⟩ := ks1 hk
 rw [side_74] at h
 have hn : IntKind.i16.wrap (-1) = -1 := by decide
 rcases h with ⟨r, rfl⟩ | ⟨v, r, rfl, hv⟩
 ·refine ⟨⟨?_, side63e _ _, trivial⟩, ?_⟩
  ·simp only [Ob.holds, ev_f, evs_cons, evs_nil, ev_v, ev_k, List.getD_cons_zero, fe_ext]
   rw [X63e, get0R, hn, ltI_t (by decide)]
   intro h; cases h
  ·simp only [deR74, ev_f, evs_cons, evs_nil, ev_v, ev_k, List.getD_cons_zero, fe_ext]
   rw [X63e, get0R, get1R, hn, ltI_t (by decide), ite_t, row_rowR, X_74, str_by, rNStr_none]; rfl
 ·have h32 := most32 hv
  refine ⟨⟨?_, side63e _ _, trivial⟩, ?_⟩
  ·simp only [Ob.holds, ev_f, evs_cons, evs_nil, ev_v, ev_k, List.getD_cons_zero, fe_ext]
   intro _
   refine ⟨?_, trivial⟩
   simp only [Ob.holds, ev_f, evs_cons, evs_nil, ev_v, ev_k, List.getD_cons_zero, fe_ext]
   rw [X63e, get0R, get1R, fe_wrap, wrap_len16 hv, w64 h32]
   exact side71e v r
  ·simp only [deR74, ev_f, evs_cons, evs_nil, ev_v, ev_k, List.getD_cons_zero, fe_ext]
   rw [X63e, get0R, get1R, fe_wrap, wrap_len16 hv, w64 h32, ltI_f (by omega), ite_f, X71e, get0R, get1R, fe_toStr, str_by, fe_mkptr, row_rowR, X_74, str_by, rNStr_some r hv]; rfl
theorem evR75 (ds : List D) (hk : KsOk [.byts] ds) (h : side 75 ds) : obsHold X side obR75 ds /\ deR75.eval X ds = X 75 ds := by
 obtain ⟨s, rfl⟩ := ks1 hk
 rw [side_75] at h
 rcases h with ⟨r, rfl⟩ | ⟨v, r, rfl, hv⟩
 ·have hn : IntKind.i64.wrap (IntKind.i64.wrap ((0 : Nat) : Int) - 1) = -1 := by decide
  refine ⟨⟨?_, side70e _ (by decide), trivial⟩, ?_⟩
  ·simp only [Ob.holds, ev_f, evs_cons, evs_nil, ev_v, ev_k, List.getD_cons_zero, fe_ext]
   rw [X70e, get0R, fe_wrap, fe_sub, hn, ltI_t (by decide)]
   intro h; cases h
  ·simp only [deR75, ev_f, evs_cons, evs_nil, ev_v, ev_k, List.getD_cons_zero, fe_ext]
   rw [X70e, get0R, get1R, fe_wrap, fe_sub, hn, ltI_t (by decide), ite_t, row_rowR, X_75, str_by, rCNStr_none]; rfl
 ·have h32 := most32 hv
  have h33 : v.length + 1 < 4294967296 := by simp only [Most] at hv; omega
  have hsub : IntKind.i64.wrap (((v.length + 1 : Nat) : Int) - 1) = (v.length : Nat) := by rw [show ((v.length + 1 : Nat) : Int) - 1 = (v.length : Nat) by omega, w64 h32]
  refine ⟨⟨?_, side70e _ h33, trivial⟩, ?_⟩
  ·simp only [Ob.holds, ev_f, evs_cons, evs_nil, ev_v, ev_k, List.getD_cons_zero, fe_ext]
   intro _
   refine ⟨?_, trivial⟩
   simp only [Ob.holds, ev_f, evs_cons, evs_nil, ev_v, ev_k, List.getD_cons_zero, fe_ext]
   rw [X70e, get0R, get1R, fe_wrap, w64 h33, fe_sub, hsub]
   exact side71e v r
  ·simp only [deR75, ev_f, evs_cons, evs_nil, ev_v, ev_k, List.getD_cons_zero, fe_ext]
   rw [X70e, get0R, get1R, fe_wrap, w64 h33, fe_sub, hsub, ltI_f (by omega), ite_f, X71e, get0R, get1R, fe_toStr, str_by, fe_mkptr, row_rowR, X_75, str_by, rCNStr_some]; rfl
theorem evR76 (ds : List D) (hk : KsOk [.byts] ds) (h : side 76 ds) : obsHold X side obR76 ds /\ deR76.eval X ds = X 76 ds := by
 obtain ⟨s, rfl⟩ := ks1 hk
 rw [side_76] at h
 obtain ⟨v, r, rfl, hv⟩ := h
 have h32 := most32 hv
 refine ⟨⟨?_, side65e _ _, trivial⟩, ?_⟩
 ·simp only [Ob.holds, ev_f, evs_cons, evs_nil, ev_v, ev_k, List.getD_cons_zero, fe_ext]
  intro _
  refine ⟨?_, trivial⟩
  simp only [Ob.holds, ev_f, evs_cons, evs_nil, ev_v, ev_k, List.getD_cons_zero, fe_ext]
  rw [X65e, get0R, get1R, fe_wrap, wrap_len32 hv, w64 h32]
  exact side71e v r
 ·simp only [deR76, ev_f, evs_cons, evs_nil, ev_v, ev_k, List.getD_cons_zero, fe_ext]
  rw [X65e, get0R, get1R, fe_wrap, wrap_len32 hv, w64 h32, eqI_f (by omega), ite_f, X71e, get0R, get1R, row_rowR, X_76, str_by, rB4_enc r hv]
theorem evR77 (ds : List D) (hk : KsOk [.byts] ds) (h : side 77 ds) : obsHold X side obR77 ds /\ deR77.eval X ds = X 77 ds := by
 obtain ⟨s, rfl⟩ := ks1 hk
 rw [side_77] at h
 obtain ⟨v, r, rfl, hv⟩ := h
 have h32 := most32 hv
 have h33 : v.length + 1 < 4294967296 := by simp only [Most] at hv; omega
 have hsub : IntKind.i64.wrap (((v.length + 1 : Nat) : Int) - 1) = (v.length : Nat) := by rw [show ((v.length + 1 : Nat) : Int) - 1 = (v.length : Nat) by omega, w64 h32]
 refine ⟨⟨?_, side70e _ h33, trivial⟩, ?_⟩
 ·simp only [Ob.holds, ev_f, evs_cons, evs_nil, ev_v, ev_k, List.getD_cons_zero, fe_ext]
  intro _
  refine ⟨?_, trivial⟩
  simp only [Ob.holds, ev_f, evs_cons, evs_nil, ev_v, ev_k, List.getD_cons_zero, fe_ext]
  rw [X70e, get0R, get1R, fe_wrap, w64 h33, fe_sub, hsub]
  exact side71e v r
 ·simp only [deR77, ev_f, evs_cons, evs_nil, ev_v, ev_k, List.getD_cons_zero, fe_ext]
  rw [X70e, get0R, get1R, fe_wrap, w64 h33, fe_sub, hsub, eqI_f (by omega), ite_f, X71e, get0R, get1R, row_rowR, X_77, str_by, rCStr_enc]
theorem evR80 (ds : List D) (hk : KsOk [.byts] ds) (h : side 80 ds) : obsHold X side obR80 ds /\ deR80.eval X ds = X 80 ds := by
 obtain ⟨s, rfl⟩ := ks1 hk
 rw [side_80] at h
 obtain ⟨n, r, rfl, h0, h1, h2⟩ := h
 refine ⟨⟨side65e _ _, trivial⟩, ?_⟩
 simp only [deR80, ev_f, evs_cons, evs_nil, ev_v, ev_k, List.getD_cons_zero, fe_ext]
 rw [X65e, get0R, get1R, fe_wrap, w32i (by omega) h2, w64i (by omega) (by omega), fe_len, len_by, ltI_f h1, ite_f, row_rowR, X_80, str_by, rI32, w32i (by omega) h2]
theorem evR81 (ds : List D) (hk : KsOk [.byts] ds) (h : side 81 ds) : obsHold X side obR81 ds /\ deR81.eval X ds = X 81 ds := by
 obtain ⟨s, rfl⟩ := ks1 hk
 rw [side_81] at h
 obtain ⟨n, r, rfl, h1, h2⟩ := h
 have e : IntKind.i32.wrap (IntKind.i32.wrap (n : Int) - 1) = (n : Int) - 1 := by rw [w32i (n := (n : Int)) (by omega) (by omega), w32i (by omega) (by omega)]
 refine ⟨⟨side70e _ (by omega), trivial⟩, ?_⟩
 simp only [deR81, ev_f, evs_cons, evs_nil, ev_v, ev_k, List.getD_cons_zero, fe_ext]
 rw [X70e, get0R, get1R, fe_wrap, fe_sub, e, fe_wrap, w64i (by omega) (by omega), fe_len, len_by, ltI_f h1, ite_f, row_rowR, X_81, str_by, rUv_Uvarint]
end Go.Mx
namespace Go.Mx
open Go Go.Dx
def go82 : DE := .f .ltI [.k (.int 0), .v 3]
def is82 : List DE := [.f (.get 0) [.f (.ext 70) [.v 0]], .f (.get 1) [.f (.ext 70) [.v 0]], .k .nil]
def k82 : DE := .f (.ext 70) [.v 4]
def z82 : DE := .f (.ext 70) [.f (.get 1) [k82]]
def v82 : DE := .f (.ext 71) [.f (.get 1) [z82], .f (.wrap .i64) [.f (.get 0) [z82]]]
def bs82 : List DE := [.f (.sub .u32) [.v 3, .k (.int 1)], .f (.get 1) [v82], .f (.ext 23) [.v 5, .f (.get 0) [k82], .f (.get 0) [v82]]]
def deR82 : DE := .f .mkrow [.f .mkrow [.fold 1 (.f .iota [.wh 1 go82 is82 bs82]) is82 bs82 2], .fold 1 (.f .iota [.wh 1 go82 is82 bs82]) is82 bs82 1, .k (.bool false)]
def obR82 : List Ob := [.term 1 go82 is82 bs82, .all (.f .iotaS [.wh 1 go82 is82 bs82]) is82 bs82 [.when go82 true [.pre 23 [.v 5, .f (.get 0) [k82], .f (.get 0) [v82]], .pre 71 [.f (.get 1) [z82], .f (.wrap .i64) [.f (.get 0) [z82]]], .pre 70 [.f (.get 1) [k82]], .pre 70 [.v 4]]], .pre 70 [.v 0]]
def tgW (u : List Tg) : List UInt8 := (u.map fun x : Tg => tagB x.key.toNat (x.val.getD [])).flatten
def st82 (u : List Tg) (r : List UInt8) (k : Nat) : List D := [.int ((u.length - k : Nat) : Int), .bytes (tgW (u.drop k) ++ r), tagRd (u.take k) .nil]
theorem tagRd_snoc (u : List Tg) (x : Tg) (m : D) : tagRd (u ++ [x]) m = .map (insM x.key (.bytes (x.val.getD [])) (mapL (tagRd u m))) := by
 unfold tagRd
 rw [List.foldl_append]; rfl
theorem tagRd_len : ∀ (u : List Tg) (m : D), (mapL (tagRd u m)).length <= (mapL m).length + u.length
 | [], m => Nat.le_refl _
 | x :: u, m => by
  have h1 := tagRd_len u (.map (insM x.key (.bytes (x.val.getD [])) (mapL m)))
  have h2 := insM_len x.key (.bytes (x.val.getD [])) (mapL m)
  have h3 : (mapL (D.map (insM x.key (.bytes (x.val.getD [])) (mapL m)))).length = (insM x.key (.bytes (x.val.getD [])) (mapL m)).length := rfl
  have e : tagRd (x :: u) m = tagRd u (.map (insM x.key (.bytes (x.val.getD [])) (mapL m))) := rfl
  rw [e, List.length_cons]
  omega
theorem env82 (s a b : D) (l : List D) : (∀ j, (DE.v (j + 3)).eval X ([s] ++ (a :: b :: l)) = l.getD j .nil) := fun j => by
 rw [ev_v]; rfl
theorem runs82 {u : List Tg} {r : List UInt8} (hu : okTags u) : Runs X [.bytes (Uvarint u.length ++ (tgW u ++ r))] 1 go82 is82 bs82 u.length (st82 u r) := by
 obtain ⟨_, h2, h3⟩ := hu
 have h2' : u.length <= 32767 := h2
 refine ⟨rfl, ?_, fun k hk => ?_, fun k hk => ?_, ?_⟩
 ·simp only [is82, evs_cons, evs_nil, ev_f, ev_v, ev_k, List.getD_cons_zero, fe_ext]
  rw [X70e, get0R, get1R]
  rfl
 ·obtain ⟨x, hx⟩ : ∃ x, u[k]? = some x := ⟨u[k], List.getElem?_eq_getElem hk⟩
  have hd : u.drop k = x :: u.drop (k + 1) := by
   rw [List.drop_eq_getElem_cons hk]
   congr 1
   have := List.getElem?_eq_getElem hk
   rw [hx] at this
   exact (Option.some.inj this).symm
  obtain ⟨q1, q2, q3⟩ := h3 x (List.mem_of_getElem? hx)
  have e3 := env82 (.bytes (Uvarint u.length ++ (tgW u ++ r))) (.int k) (.int k) (st82 u r k) 0
  have e4 := env82 (.bytes (Uvarint u.length ++ (tgW u ++ r))) (.int k) (.int k) (st82 u r k) 1
  have e5 := env82 (.bytes (Uvarint u.length ++ (tgW u ++ r))) (.int k) (.int k) (st82 u r k) 2
  have hw : tgW (u.drop k) ++ r = Uvarint x.key.toNat ++ (Uvarint (x.val.getD []).length ++ (x.val.getD [] ++ (tgW (u.drop (k + 1)) ++ r))) := by
   rw [hd, tgW, List.map_cons, List.flatten_cons, tagB]
   simp only [List.append_assoc]; rfl
  have ek : k82.eval X ([.bytes (Uvarint u.length ++ (tgW u ++ r))] ++ (.int k :: .int k :: st82 u r k)) = rowR (.int x.key) (Uvarint (x.val.getD []).length ++ (x.val.getD [] ++ (tgW (u.drop (k + 1)) ++ r))) := by
   rw [k82, ev_f, evs_cons, evs_nil, e4, fe_ext]
   show X 70 [.bytes (tgW (u.drop k) ++ r)] = _
   rw [hw, X70e, show ((x.key.toNat : Nat) : Int) = x.key by omega]
  have ez : z82.eval X ([.bytes (Uvarint u.length ++ (tgW u ++ r))] ++ (.int k :: .int k :: st82 u r k)) = rowR (.int (x.val.getD []).length) (x.val.getD [] ++ (tgW (u.drop (k + 1)) ++ r)) := by
   rw [z82, ev_f, evs_cons, evs_nil, ev_f, evs_cons, evs_nil, ek, fe_ext, get1R, X70e]
  have ev : v82.eval X ([.bytes (Uvarint u.length ++ (tgW u ++ r))] ++ (.int k :: .int k :: st82 u r k)) = rowR (.bytes (x.val.getD [])) (tgW (u.drop (k + 1)) ++ r) := by
   rw [v82, ev_f, evs_cons, evs_cons, evs_nil, ev_f, ev_f, evs_cons, evs_nil, evs_cons, evs_nil, ev_f, evs_cons, evs_nil, ez, fe_ext, get0R, get1R, fe_wrap, w64 (most32 q3), X71e]
  rw [bs82, evs_cons, evs_cons, evs_cons, evs_nil, ev_f, ev_f, ev_f, evs_cons, evs_cons, evs_nil, evs_cons, evs_nil, evs_cons, evs_cons, evs_cons, evs_nil, e3, e5, ev_k, ev_f, ev_f, evs_cons, evs_nil, evs_cons, evs_nil, ek, ev, fe_ext, get0R, get0R, get1R, X_23, int_i]
  show [Fn.eval X (.sub .u32) [.int ((u.length - k : Nat) : Int), .int 1], _, D.map (insM x.key (.bytes (x.val.getD [])) (mapL (tagRd (u.take k) .nil)))] = _
  rw [fe_sub, <- tagRd_snoc, <- take_snoc hx]
  have e : IntKind.u32.wrap (((u.length - k : Nat) : Int) - 1) = ((u.length - (k + 1) : Nat) : Int) := by rw [IntKind.wrap_u32]; omega
  rw [e]; rfl
 ·rw [go82, ev_f, evs_cons, evs_cons, evs_nil, ev_k, env82]
  show (Fn.eval X .ltI [.int 0, .int ((u.length - k : Nat) : Int)]).asBool = true
  rw [ltI_t (by omega)]; rfl
 ·rw [go82, ev_f, evs_cons, evs_cons, evs_nil, ev_k, env82]
  show (Fn.eval X .ltI [.int 0, .int ((u.length - u.length : Nat) : Int)]).asBool = false
  rw [ltI_f (by omega)]; rfl
theorem evR82 (ds : List D) (hk : KsOk [.byts] ds) (h : side 82 ds) : obsHold X side obR82 ds /\ deR82.eval X ds = X 82 ds := by
 obtain ⟨s, rfl⟩ := ks1 hk
 rw [side_82] at h
 obtain ⟨u, r, rfl, hu⟩ := h
 have hr := runs82 (r := r) hu
 have hu2 := hu
 obtain ⟨_, h2, h3⟩ := hu2
 have h2' : u.length <= 32767 := h2
 refine ⟨⟨hr.term, hr.all (fun k hk => ?_), side70e _ (by omega), trivial⟩, ?_⟩
 ·refine obs_one ?_
  simp only [Ob.holds]
  intro hg
  have hlt : k < u.length := by
   by_cases hkk : k < u.length
   ·exact hkk
   ·have : k = u.length := by omega
    subst this
    rw [hr.hN] at hg; cases hg
  obtain ⟨x, hx⟩ : ∃ x, u[k]? = some x := ⟨u[k], List.getElem?_eq_getElem hlt⟩
  have hd : u.drop k = x :: u.drop (k + 1) := by
   rw [List.drop_eq_getElem_cons hlt]
   congr 1
   have := List.getElem?_eq_getElem hlt
   rw [hx] at this
   exact (Option.some.inj this).symm
  obtain ⟨q1, q2, q3⟩ := h3 x (List.mem_of_getElem? hx)
  have e4 := env82 (.bytes (Uvarint u.length ++ (tgW u ++ r))) (.int k) (.int k) (st82 u r k) 1
  have hw : tgW (u.drop k) ++ r = Uvarint x.key.toNat ++ (Uvarint (x.val.getD []).length ++ (x.val.getD [] ++ (tgW (u.drop (k + 1)) ++ r))) := by
   rw [hd, tgW, List.map_cons, List.flatten_cons, tagB]
   simp only [List.append_assoc]; rfl
  have ek : k82.eval X ([.bytes (Uvarint u.length ++ (tgW u ++ r))] ++ (.int k :: .int k :: st82 u r k)) = rowR (.int x.key) (Uvarint (x.val.getD []).length ++ (x.val.getD [] ++ (tgW (u.drop (k + 1)) ++ r))) := by
   rw [k82, ev_f, evs_cons, evs_nil, e4, fe_ext]
   show X 70 [.bytes (tgW (u.drop k) ++ r)] = _
   rw [hw, X70e, show ((x.key.toNat : Nat) : Int) = x.key by omega]
  have ez : z82.eval X ([.bytes (Uvarint u.length ++ (tgW u ++ r))] ++ (.int k :: .int k :: st82 u r k)) = rowR (.int (x.val.getD []).length) (x.val.getD [] ++ (tgW (u.drop (k + 1)) ++ r)) := by
   rw [z82, ev_f, evs_cons, evs_nil, ev_f, evs_cons, evs_nil, ek, fe_ext, get1R, X70e]
  have p71 : side 71 (evals X [.f (.get 1) [z82], .f (.wrap .i64) [.f (.get 0) [z82]]] ([.bytes (Uvarint u.length ++ (tgW u ++ r))] ++ (.int k :: .int k :: st82 u r k))) := by
   rw [evs_cons, evs_cons, evs_nil, ev_f, ev_f, evs_cons, evs_nil, evs_cons, evs_nil, ev_f, evs_cons, evs_nil, ez, get0R, get1R, fe_wrap, w64 (most32 q3)]
   exact side71e _ _
  have p70 : side 70 (evals X [.f (.get 1) [k82]] ([.bytes (Uvarint u.length ++ (tgW u ++ r))] ++ (.int k :: .int k :: st82 u r k))) := by
   rw [evs_cons, evs_nil, ev_f, evs_cons, evs_nil, ek, get1R]
   exact side70e _ (most32 q3)
  have p70' : side 70 (evals X [.v 4] ([.bytes (Uvarint u.length ++ (tgW u ++ r))] ++ (.int k :: .int k :: st82 u r k))) := by
   rw [evs_cons, evs_nil, e4]
   show side 70 [.bytes (tgW (u.drop k) ++ r)]
   rw [hw]
   exact side70e _ (by omega)
  have e5 : (DE.v 5).eval X ([.bytes (Uvarint u.length ++ (tgW u ++ r))] ++ (.int k :: .int k :: st82 u r k)) = tagRd (u.take k) .nil := env82 (.bytes (Uvarint u.length ++ (tgW u ++ r))) (.int k) (.int k) (st82 u r k) 2
  have p23 : side 23 (evals X [.v 5, .f (.get 0) [k82], .f (.get 0) [v82]] ([.bytes (Uvarint u.length ++ (tgW u ++ r))] ++ (.int k :: .int k :: st82 u r k))) := by
   rw [evs_cons, evs_cons, evs_cons, evs_nil, e5]
   show (insM _ _ (mapL (tagRd (u.take k) .nil))).length <= lim
   refine Nat.le_trans (insM_len _ _ _) ?_
   have h1 := tagRd_len (u.take k) .nil
   have h2 : (mapL D.nil).length = 0 := rfl
   have h3 : (u.take k).length <= u.length := by rw [List.length_take]; omega
   have hM : u.length <= 32767 := h2'
   simp only [lim]
   omega
  exact ⟨p23, p71, p70, p70', trivial⟩
 ·rw [deR82, ev_f, evs_cons, evs_cons, evs_cons, evs_nil, ev_f, evs_cons, evs_nil, ev_k]
  have f2 := hr.fold 2
  have f1 := hr.fold 1
  have hs : (Uvarint u.length ++ ((u.map fun x : Tg => tagB x.key.toNat (x.val.getD [])).flatten ++ r)) = Uvarint u.length ++ (tgW u ++ r) := rfl
  rw [hs, f1, f2]
  have e2 : (st82 u r u.length).getD 2 .nil = tagRd u .nil := by simp [st82]
  have e1 : (st82 u r u.length).getD 1 .nil = .bytes r := by simp [st82, tgW]
  rw [e1, e2, X_82, str_by, <- hs, rTags_enc u r (fun x hx => (h3 x hx).1)]; rfl
end Go.Mx
namespace Go.Mx
open Go Go.Dx
def bD (i : Int) : DE := .f (.get 0) [.f .at [.v 0, .k (.int i)]]
def ltD (i : Int) : DE := .f .ltI [.f .len [.v 0], .k (.int i)]
def hiD (i : Int) : DE := .f .eqI [.f (.band .u8) [bD i, .k (.int 128)], .k (.int 0)]
def loD (i : Int) : DE := .f (.wrap .u32) [.f (.band .u8) [bD i, .k (.int 127)]]
def laD : DE := .f .leI [bD 4, .k (.int 15)]
def kD (n : Int) : DE := .k (.int n)
def itD (a b c : DE) : DE := .f .ite [a, b, c]
def orD (a b : DE) (i : Int) : DE := .f (.bor .u32) [a, .f (.shl .u32) [b, kD i]]
def w1D : DE := loD 0
def w2D : DE := orD w1D (loD 1) 7
def w3D : DE := orD w2D (loD 2) 14
def w4D : DE := orD w3D (loD 3) 21
def w5D : DE := orD w4D (.f (.wrap .u32) [bD 4]) 28
def chD (z e1 e2 e3 e4 e5 e6 : DE) : DE :=
 itD (ltD 1) z (itD (hiD 0) e1 (itD (ltD 2) z (itD (hiD 1) e2 (itD (ltD 3) z (itD (hiD 2) e3 (itD (ltD 4) z (itD (hiD 3) e4 (itD (ltD 5) z (itD laD e5 e6)))))))))
def nD : DE := chD (kD 0) (kD 1) (kD 2) (kD 3) (kD 4) (kD 5) (kD (-5))
def vD : DE := chD (kD 0) w1D w2D w3D w4D w5D (kD 0)
def deU70 : DE := itD (.f .leI [nD, kD 0]) (.f .mkrow [kD 0, .k .nil, .k (.bool true)]) (.f .mkrow [vD, .f .drop [.v 0, nD], .k (.bool false)])
def ixD (i : Int) : Ob := .idx (kD i) (.v 0) true
def obU70 : List Ob := [
 .when (.f .leI [nD, kD 0]) false [.idx nD (.v 0) false],
 .when (ltD 1) false [.when (hiD 0) false [.when (ltD 2) false [.when (hiD 1) false [.when (ltD 3) false [.when (hiD 2) false [.when (ltD 4) false [.when (hiD 3) false [.when (ltD 5) false [ixD 4, ixD 4]],
  ixD 3, ixD 3]], ixD 2, ixD 2]], ixD 1, ixD 1]], ixD 0, ixD 0]]
theorem deU70_eq : deR70 = deU70 := rfl
theorem obU70_eq : obR70 = obU70 := rfl
theorem Uv_hi {n : Nat} (h : 127 < n) : Uvarint n = UInt8.ofNat (n % 128 + 128) :: Uvarint (n / 128) := by rw [Uvarint, if_pos h]
theorem Uv_lo {n : Nat} (h : n < 128) : Uvarint n = [UInt8.ofNat n] := by rw [Uvarint, if_neg (by omega)]
section
variable {s : List UInt8}
theorem ev_lt {i : Int} (h : i <= s.length) : (ltD i).eval X [.bytes s] = .bool false := by
 unfold ltD
 rw [ev_f, evs_cons, evs_cons, evs_nil, ev_f, evs_cons, evs_nil, ev_v, ev_k, List.getD_cons_zero, fe_len, len_by, lt_false h]
theorem ev_b {i : Int} {b : UInt8} (h : s[i.toNat]? = some b) : (bD i).eval X [.bytes s] = .int b.toNat := by
 unfold bD
 rw [ev_f, evs_cons, evs_nil, ev_f, evs_cons, evs_cons, evs_nil, ev_v, ev_k, List.getD_cons_zero, getB _ _ _ h]
set_option maxRecDepth 4000 in
theorem band128 : ∀ b : Fin 256, IntKind.u8.wrap ((BitVec.ofInt IntKind.u8.bits (b.1 : Int) &&& BitVec.ofInt IntKind.u8.bits 128).toNat : Nat) = if b.1 < 128 then 0 else 128 := by decide
set_option maxRecDepth 4000 in
theorem band127_8 : ∀ b : Fin 256, IntKind.u8.wrap ((BitVec.ofInt IntKind.u8.bits (b.1 : Int) &&& BitVec.ofInt IntKind.u8.bits 127).toNat : Nat) = ((b.1 % 128 : Nat) : Int) := by decide
theorem ev_hi {i : Int} {b : UInt8} (h : s[i.toNat]? = some b) : (hiD i).eval X [.bytes s] = .bool (decide (b.toNat < 128)) := by
 unfold hiD
 have := band128 ⟨b.toNat, b.toNat_lt⟩
 rw [ev_f, evs_cons, evs_cons, evs_nil, ev_f, evs_cons, evs_cons, evs_nil, ev_b h, ev_k, ev_k, fe_band, fe_eqI]
 rw [show IntKind.u8.wrap _ = _ from this]
 show D.bool ((if b.toNat < 128 then (0 : Int) else 128) == 0) = _
 split <;> simp [*]
theorem ev_lo {i : Int} {b : UInt8} (h : s[i.toNat]? = some b) : (loD i).eval X [.bytes s] = .int ((b.toNat % 128 : Nat) : Int) := by
 unfold loD
 have := band127_8 ⟨b.toNat, b.toNat_lt⟩
 rw [ev_f, evs_cons, evs_nil, ev_f, evs_cons, evs_cons, evs_nil, ev_b h, ev_k, fe_band, fe_wrap]
 rw [show IntKind.u8.wrap _ = _ from this, wrapu32 (by omega) (by show ((b.toNat % 128 : Nat) : Int) < _; omega)]
theorem ev_it_f {a b c : DE} {δ : List D} (h : a.eval X δ = .bool false) : (itD a b c).eval X δ = c.eval X δ := by
 unfold itD; rw [ev_f, evs_cons, evs_cons, evs_cons, evs_nil, h, ite_f]
theorem ev_it_t {a b c : DE} {δ : List D} (h : a.eval X δ = .bool true) : (itD a b c).eval X δ = b.eval X δ := by
 unfold itD; rw [ev_f, evs_cons, evs_cons, evs_cons, evs_nil, h, ite_t]
theorem ev_or {a b : DE} {δ : List D} {x y i : Nat} (ha : a.eval X δ = .int (x : Nat)) (hb : b.eval X δ = .int (y : Nat)) (hx : x < 2 ^ i) (hi : i <= 32) (h : y * 2 ^ i + x < 4294967296) : (orD a b i).eval X δ = .int ((y * 2 ^ i + x : Nat) : Int) := by
 unfold orD kD
 rw [ev_f, evs_cons, evs_cons, evs_nil, ev_f, evs_cons, evs_cons, evs_nil, ha, hb, ev_k, shl_nat (k := .u32) rfl y i hi (by simp only [IntKind.bits]; omega), bor_nat (k := .u32) rfl y x i hx (by simp only [IntKind.bits]; omega)]
theorem fin70 {r : List UInt8} {n : Nat} (hs : s = Uvarint n ++ r) (hn : nD.eval X [.bytes s] = .int ((Uvarint n).length : Nat)) (hv : vD.eval X [.bytes s] = .int (n : Nat)) (hp : 0 < (Uvarint n).length) : deU70.eval X [.bytes s] = X 70 [.bytes s] /\ (Ob.when (.f .leI [nD, kD 0]) false [.idx nD (.v 0) false]).holds X side [.bytes s] := by
 have hle : (DE.f .leI [nD, kD 0]).eval X [.bytes s] = .bool false := by
  rw [ev_f, evs_cons, evs_cons, evs_nil, hn, kD, ev_k, fe_leI]
  congr 1; simp only [decide_eq_false_iff_not]; omega
 refine ⟨?_, ?_⟩
 ·unfold deU70
  rw [ev_it_f hle, ev_f, evs_cons, evs_cons, evs_cons, evs_nil, hv, ev_k, ev_f, evs_cons, evs_cons, evs_nil, hn, ev_v, List.getD_cons_zero, fe_drop, dropD_by, row_rowR, hs, X70e, Int.toNat_natCast, List.drop_left]
 ·have := whenF (c := .f .leI [nD, kD 0]) (δ := [.bytes s]) (o := [.idx nD (.v 0) false]) ⟨idxF hn rfl (by omega) (by rw [Int.toNat_natCast, hs, List.length_append]; omega), trivial⟩
  exact this.1
end
theorem obs70 {s : List UInt8} (h : (Ob.when (.f .leI [nD, kD 0]) false [.idx nD (.v 0) false]).holds X side [.bytes s]) : obsHold X side obU70 [.bytes s] := by
 have ix : ∀ i : Nat, (ltD ((i : Int) + 1)).eval X [.bytes s] = .bool false -> (ixD i).holds X side [.bytes s] := fun i hi => by
  refine idxT (s := s) (n := i) rfl rfl (by omega) ?_
  unfold ltD at hi
  rw [ev_f, evs_cons, evs_cons, evs_nil, ev_f, evs_cons, evs_nil, ev_v, ev_k, List.getD_cons_zero, fe_len, len_by, fe_ltI] at hi
  have := D.bool.inj hi
  simp only [decide_eq_false_iff_not] at this
  omega
 have wh : ∀ (c : DE) (o : List Ob), (∀ b, (c.eval X [.bytes s]) = .bool b -> b = false -> obsHold X side o [.bytes s]) -> (∃ b, c.eval X [.bytes s] = .bool b) -> (Ob.when c false o).holds X side [.bytes s] := fun c o h1 h2 => by
  obtain ⟨b, hb⟩ := h2
  simp only [Ob.holds]
  intro hc
  rw [hb] at hc
  exact h1 b hb hc
 have bl : ∀ i : Int, ∃ b, (ltD i).eval X [.bytes s] = .bool b := fun i => ⟨_, by unfold ltD; rw [ev_f, evs_cons, evs_cons, evs_nil, ev_f, evs_cons, evs_nil, ev_v, ev_k, List.getD_cons_zero, fe_len, len_by, fe_ltI]⟩
 have wl : ∀ (i : Int) (o : List Ob), ((ltD i).eval X [.bytes s] = .bool false -> obsHold X side o [.bytes s]) -> (Ob.when (ltD i) false o).holds X side [.bytes s] := fun i o h1 => wh _ _ (fun b hb e => h1 (by rw [hb, e])) (bl i)
 have wa : ∀ (c : DE) (o : List Ob), obsHold X side o [.bytes s] -> (Ob.when c false o).holds X side [.bytes s] := fun c o h1 => by
  simp only [Ob.holds]
  exact fun _ => h1
 refine ⟨h, ?_, trivial⟩
 refine wl 1 _ fun h1 => ⟨wa _ _ ⟨wl 2 _ fun h2 => ⟨wa _ _ ⟨wl 3 _ fun h3 => ⟨wa _ _ ⟨wl 4 _ fun h4 => ⟨wa _ _ ⟨wl 5 _ fun h5 => ⟨ix 4 h5, ix 4 h5, trivial⟩, trivial⟩, ix 3 h4, ix 3 h4, trivial⟩, trivial⟩, ix 2 h3, ix 2 h3, trivial⟩, trivial⟩, ix 1 h2, ix 1 h2, trivial⟩, trivial⟩, ix 0 h1, ix 0 h1, trivial⟩
theorem toNat8 {n : Nat} (h : n < 256) : (UInt8.ofNat n).toNat = n := by
 simp; omega
theorem evR70 (ds : List D) (hk : KsOk [.byts] ds) (h : side 70 ds) : obsHold X side obR70 ds /\ deR70.eval X ds = X 70 ds := by
 rw [deU70_eq, obU70_eq]
 obtain ⟨s, rfl⟩ := ks1 hk
 rw [side_70] at h
 obtain ⟨n, r, rfl, hn⟩ := h
 generalize hs : Uvarint n ++ r = s
 have key : nD.eval X [.bytes s] = .int ((Uvarint n).length : Nat) /\ vD.eval X [.bytes s] = .int (n : Nat) := by
  have hi : ∀ (i : Int) (b : UInt8) (z e1 e2 : DE), i + 1 <= s.length -> s[i.toNat]? = some b -> 128 <= b.toNat -> (itD (ltD (i + 1)) z (itD (hiD i) e1 e2)).eval X [.bytes s] = e2.eval X [.bytes s] := fun i b z e1 e2 hl hb h => by
   rw [ev_it_f (ev_lt hl), ev_it_f]
   rw [ev_hi hb]; congr 1; simp; omega
  have lo : ∀ (i : Int) (b : UInt8) (z e1 e2 : DE), i + 1 <= s.length -> s[i.toNat]? = some b -> b.toNat < 128 -> (itD (ltD (i + 1)) z (itD (hiD i) e1 e2)).eval X [.bytes s] = e1.eval X [.bytes s] := fun i b z e1 e2 hl hb h => by
   rw [ev_it_f (ev_lt hl), ev_it_t]
   rw [ev_hi hb]; congr 1; simp; omega
  by_cases c1 : n < 128
  ·rw [Uv_lo c1] at hs ⊢
   subst hs
   have l1 := toNat8 (n := n) (by omega)
   have f1 := fun z e1 e2 => lo 0 (UInt8.ofNat n) z e1 e2 (by simp only [List.cons_append, List.length_cons]; omega) rfl (by omega)
   unfold nD vD chD
   rw [show ltD 1 = ltD (0 + 1) from rfl, f1, f1]
   refine ⟨rfl, ?_⟩
   unfold w1D
   rw [ev_lo (b := UInt8.ofNat n) rfl, l1]
   congr 2; omega
  ·by_cases c2 : n < 16384
   ·rw [Uv_hi (by omega), Uv_lo (by omega)] at hs ⊢
    subst hs
    have l0 := toNat8 (n := n % 128 + 128) (by omega)
    have l1 := toNat8 (n := n / 128) (by omega)
    have f0 := fun z e1 e2 => hi 0 (UInt8.ofNat (n % 128 + 128)) z e1 e2 (by simp only [List.cons_append, List.length_cons]; omega) rfl (by omega)
    have f1 := fun z e1 e2 => lo 1 (UInt8.ofNat (n / 128)) z e1 e2 (by simp only [List.cons_append, List.length_cons]; omega) rfl (by omega)
    unfold nD vD chD
    rw [show ltD 1 = ltD (0 + 1) from rfl, show ltD 2 = ltD (1 + 1) from rfl, f0, f0, f1, f1]
    refine ⟨rfl, ?_⟩
    have g1 := ev_lo (s := UInt8.ofNat (n % 128 + 128) :: UInt8.ofNat (n / 128) :: r) (i := 0) rfl
    have g2 := ev_lo (s := UInt8.ofNat (n % 128 + 128) :: UInt8.ofNat (n / 128) :: r) (i := 1) rfl
    have w2 := ev_or (i := 7) g1 g2 (by omega) (by omega) (by omega)
    refine w2.trans ?_
    congr 2; omega
   ·by_cases c3 : n < 2097152
    ·rw [Uv_hi (by omega), Uv_hi (by omega), Uv_lo (by omega)] at hs ⊢
     subst hs
     have l0 := toNat8 (n := n % 128 + 128) (by omega)
     have l1 := toNat8 (n := n / 128 % 128 + 128) (by omega)
     have l2 := toNat8 (n := n / 128 / 128) (by omega)
     have f0 := fun z e1 e2 => hi 0 (UInt8.ofNat (n % 128 + 128)) z e1 e2 (by simp only [List.cons_append, List.length_cons]; omega) rfl (by omega)
     have f1 := fun z e1 e2 => hi 1 (UInt8.ofNat (n / 128 % 128 + 128)) z e1 e2 (by simp only [List.cons_append, List.length_cons]; omega) rfl (by omega)
     have f2 := fun z e1 e2 => lo 2 (UInt8.ofNat (n / 128 / 128)) z e1 e2 (by simp only [List.cons_append, List.length_cons]; omega) rfl (by omega)
     unfold nD vD chD
     rw [show ltD 1 = ltD (0 + 1) from rfl, show ltD 2 = ltD (1 + 1) from rfl, show ltD 3 = ltD (2 + 1) from rfl, f0, f0, f1, f1, f2, f2]
     refine ⟨rfl, ?_⟩
     have g1 := ev_lo (s := UInt8.ofNat (n % 128 + 128) :: UInt8.ofNat (n / 128 % 128 + 128) :: UInt8.ofNat (n / 128 / 128) :: r) (i := 0) rfl
     have g2 := ev_lo (s := UInt8.ofNat (n % 128 + 128) :: UInt8.ofNat (n / 128 % 128 + 128) :: UInt8.ofNat (n / 128 / 128) :: r) (i := 1) rfl
     have g3 := ev_lo (s := UInt8.ofNat (n % 128 + 128) :: UInt8.ofNat (n / 128 % 128 + 128) :: UInt8.ofNat (n / 128 / 128) :: r) (i := 2) rfl
     have w2 := ev_or (i := 7) g1 g2 (by omega) (by omega) (by omega)
     have w3 := ev_or (i := 14) w2 g3 (by omega) (by omega) (by omega)
     refine w3.trans ?_
     congr 2; omega
    ·by_cases c4 : n < 268435456
     ·rw [Uv_hi (by omega), Uv_hi (by omega), Uv_hi (by omega), Uv_lo (by omega)] at hs ⊢
      subst hs
      have l0 := toNat8 (n := n % 128 + 128) (by omega)
      have l1 := toNat8 (n := n / 128 % 128 + 128) (by omega)
      have l2 := toNat8 (n := n / 128 / 128 % 128 + 128) (by omega)
      have l3 := toNat8 (n := n / 128 / 128 / 128) (by omega)
      have f0 := fun z e1 e2 => hi 0 (UInt8.ofNat (n % 128 + 128)) z e1 e2 (by simp only [List.cons_append, List.length_cons]; omega) rfl (by omega)
      have f1 := fun z e1 e2 => hi 1 (UInt8.ofNat (n / 128 % 128 + 128)) z e1 e2 (by simp only [List.cons_append, List.length_cons]; omega) rfl (by omega)
      have f2 := fun z e1 e2 => hi 2 (UInt8.ofNat (n / 128 / 128 % 128 + 128)) z e1 e2 (by simp only [List.cons_append, List.length_cons]; omega) rfl (by omega)
      have f3 := fun z e1 e2 => lo 3 (UInt8.ofNat (n / 128 / 128 / 128)) z e1 e2 (by simp only [List.cons_append, List.length_cons]; omega) rfl (by omega)
      unfold nD vD chD
      rw [show ltD 1 = ltD (0 + 1) from rfl, show ltD 2 = ltD (1 + 1) from rfl, show ltD 3 = ltD (2 + 1) from rfl, show ltD 4 = ltD (3 + 1) from rfl, f0, f0, f1, f1, f2, f2, f3, f3]
      refine ⟨rfl, ?_⟩
      have g1 := ev_lo (s := UInt8.ofNat (n % 128 + 128) :: UInt8.ofNat (n / 128 % 128 + 128) :: UInt8.ofNat (n / 128 / 128 % 128 + 128) :: UInt8.ofNat (n / 128 / 128 / 128) :: r) (i := 0) rfl
      have g2 := ev_lo (s := UInt8.ofNat (n % 128 + 128) :: UInt8.ofNat (n / 128 % 128 + 128) :: UInt8.ofNat (n / 128 / 128 % 128 + 128) :: UInt8.ofNat (n / 128 / 128 / 128) :: r) (i := 1) rfl
      have g3 := ev_lo (s := UInt8.ofNat (n % 128 + 128) :: UInt8.ofNat (n / 128 % 128 + 128) :: UInt8.ofNat (n / 128 / 128 % 128 + 128) :: UInt8.ofNat (n / 128 / 128 / 128) :: r) (i := 2) rfl
      have g4 := ev_lo (s := UInt8.ofNat (n % 128 + 128) :: UInt8.ofNat (n / 128 % 128 + 128) :: UInt8.ofNat (n / 128 / 128 % 128 + 128) :: UInt8.ofNat (n / 128 / 128 / 128) :: r) (i := 3) rfl
      have w2 := ev_or (i := 7) g1 g2 (by omega) (by omega) (by omega)
      have w3 := ev_or (i := 14) w2 g3 (by omega) (by omega) (by omega)
      have w4 := ev_or (i := 21) w3 g4 (by omega) (by omega) (by omega)
      refine w4.trans ?_
      congr 2; omega
     ·rw [Uv_hi (by omega), Uv_hi (by omega), Uv_hi (by omega), Uv_hi (by omega), Uv_lo (by omega)] at hs ⊢
      subst hs
      have l0 := toNat8 (n := n % 128 + 128) (by omega)
      have l1 := toNat8 (n := n / 128 % 128 + 128) (by omega)
      have l2 := toNat8 (n := n / 128 / 128 % 128 + 128) (by omega)
      have l3 := toNat8 (n := n / 128 / 128 / 128 % 128 + 128) (by omega)
      have l4 := toNat8 (n := n / 128 / 128 / 128 / 128) (by omega)
      have f0 := fun z e1 e2 => hi 0 (UInt8.ofNat (n % 128 + 128)) z e1 e2 (by simp only [List.cons_append, List.length_cons]; omega) rfl (by omega)
      have f1 := fun z e1 e2 => hi 1 (UInt8.ofNat (n / 128 % 128 + 128)) z e1 e2 (by simp only [List.cons_append, List.length_cons]; omega) rfl (by omega)
      have f2 := fun z e1 e2 => hi 2 (UInt8.ofNat (n / 128 / 128 % 128 + 128)) z e1 e2 (by simp only [List.cons_append, List.length_cons]; omega) rfl (by omega)
      have f3 := fun z e1 e2 => hi 3 (UInt8.ofNat (n / 128 / 128 / 128 % 128 + 128)) z e1 e2 (by simp only [List.cons_append, List.length_cons]; omega) rfl (by omega)
      have g5 := ev_b (s := UInt8.ofNat (n % 128 + 128) :: UInt8.ofNat (n / 128 % 128 + 128) :: UInt8.ofNat (n / 128 / 128 % 128 + 128) :: UInt8.ofNat (n / 128 / 128 / 128 % 128 + 128) :: UInt8.ofNat (n / 128 / 128 / 128 / 128) :: r) (i := 4) rfl
      have la : laD.eval X [.bytes (UInt8.ofNat (n % 128 + 128) :: UInt8.ofNat (n / 128 % 128 + 128) :: UInt8.ofNat (n / 128 / 128 % 128 + 128) :: UInt8.ofNat (n / 128 / 128 / 128 % 128 + 128) :: UInt8.ofNat (n / 128 / 128 / 128 / 128) :: r)] = .bool true := by
       unfold laD
       rw [ev_f, evs_cons, evs_cons, evs_nil, g5, ev_k, fe_leI, l4]
       congr 1; simp only [decide_eq_true_eq]; omega
      have lt5 := ev_lt (s := UInt8.ofNat (n % 128 + 128) :: UInt8.ofNat (n / 128 % 128 + 128) :: UInt8.ofNat (n / 128 / 128 % 128 + 128) :: UInt8.ofNat (n / 128 / 128 / 128 % 128 + 128) :: UInt8.ofNat (n / 128 / 128 / 128 / 128) :: r) (i := 5) (by simp only [List.length_cons]; omega)
      have f4 := fun z e1 e2 => (ev_it_f (b := z) (c := itD laD e1 e2) lt5).trans (ev_it_t la)
      unfold nD vD chD
      simp only [List.cons_append, List.nil_append] at f0 f1 f2 f3 ⊢
      rw [show ltD 1 = ltD (0 + 1) from rfl, show ltD 2 = ltD (1 + 1) from rfl, show ltD 3 = ltD (2 + 1) from rfl, show ltD 4 = ltD (3 + 1) from rfl, f0, f0, f1, f1, f2, f2, f3, f3, f4, f4]
      refine ⟨rfl, ?_⟩
      have g1 := ev_lo (s := UInt8.ofNat (n % 128 + 128) :: UInt8.ofNat (n / 128 % 128 + 128) :: UInt8.ofNat (n / 128 / 128 % 128 + 128) :: UInt8.ofNat (n / 128 / 128 / 128 % 128 + 128) :: UInt8.ofNat (n / 128 / 128 / 128 / 128) :: r) (i := 0) rfl
      have g2 := ev_lo (s := UInt8.ofNat (n % 128 + 128) :: UInt8.ofNat (n / 128 % 128 + 128) :: UInt8.ofNat (n / 128 / 128 % 128 + 128) :: UInt8.ofNat (n / 128 / 128 / 128 % 128 + 128) :: UInt8.ofNat (n / 128 / 128 / 128 / 128) :: r) (i := 1) rfl
      have g3 := ev_lo (s := UInt8.ofNat (n % 128 + 128) :: UInt8.ofNat (n / 128 % 128 + 128) :: UInt8.ofNat (n / 128 / 128 % 128 + 128) :: UInt8.ofNat (n / 128 / 128 / 128 % 128 + 128) :: UInt8.ofNat (n / 128 / 128 / 128 / 128) :: r) (i := 2) rfl
      have g4 := ev_lo (s := UInt8.ofNat (n % 128 + 128) :: UInt8.ofNat (n / 128 % 128 + 128) :: UInt8.ofNat (n / 128 / 128 % 128 + 128) :: UInt8.ofNat (n / 128 / 128 / 128 % 128 + 128) :: UInt8.ofNat (n / 128 / 128 / 128 / 128) :: r) (i := 3) rfl
      have g5' : (DE.f (.wrap .u32) [bD 4]).eval X [.bytes (UInt8.ofNat (n % 128 + 128) :: UInt8.ofNat (n / 128 % 128 + 128) :: UInt8.ofNat (n / 128 / 128 % 128 + 128) :: UInt8.ofNat (n / 128 / 128 / 128 % 128 + 128) :: UInt8.ofNat (n / 128 / 128 / 128 / 128) :: r)] = .int ((n / 128 / 128 / 128 / 128 : Nat) : Int) := by
       rw [ev_f, evs_cons, evs_nil, g5, fe_wrap, l4, wrapu32 (by omega) (by omega)]
      have w2 := ev_or (i := 7) g1 g2 (by omega) (by omega) (by omega)
      have w3 := ev_or (i := 14) w2 g3 (by omega) (by omega) (by omega)
      have w4 := ev_or (i := 21) w3 g4 (by omega) (by omega) (by omega)
      have w5 := ev_or (i := 28) w4 g5' (by omega) (by omega) (by omega)
      refine w5.trans ?_
      congr 2; omega
 have hf := fin70 hs.symm key.1 key.2 (by have := Uvarint_pos n; omega)
 exact ⟨obs70 hf.2, hf.1⟩
end Go.Mx
namespace Go.Mx
open Go Go.Dx
def rdN (k nl v : Int) (x : Bool) : Nat :=
 if k = 0 then 61 else if k = 1 then 62 else if k = 2 then 63 else if k = 3 then 65 else if k = 5 then 64 else if k = 7 then 67 else
 if k = 8 then (if 0 <= nl /\ nl <= v then (if x then 75 else 74) else (if x then 73 else 72)) else
 if k = 9 then (if 0 <= nl /\ nl <= v then (if x then 79 else 78) else (if x then 77 else 76)) else 66
def rdE (n : Nat) (s : DE) : DE := .f (.ext n) [s]
def hdE (e : DE) : DE := .f (.get 0) [e]
def tlE (e : DE) : DE := .f (.get 1) [e]
def tDf (d : Int) : T := .mk d none true none none
mutual
def zF (tg : Bool) : Fl -> List D
 | .mk k _ _ nl _ _ _ sub => if k = 11 then [.nil] else if k = 10 then zS tg sub else dV k nl (tDf 0) []
def zS (tg : Bool) : Option (List Fl) -> List D
 | none => if tg then [.nil] else []
 | some l => zL tg l ++ (if tg then [.nil] else [])
def zL (tg : Bool) : List Fl -> List D
 | [] => []
 | f :: r => zF tg f ++ zL tg r
end
def zEl (tg : Bool) (of : Int) (sub : Option (List Fl)) : D := elD of (if of = 10 then zS tg sub else dV of (-1) (tDf 0) []) (tDf 0)
def dfl : Fl -> Bool
 | .mk k _ _ _ _ df _ _ => decide (df ≠ 0) && decide (k ≠ 7) && decide (k ≠ 8) && decide (k ≠ 9) && decide (k ≠ 10) && decide (k ≠ 11)
def dfV : Fl -> D
 | .mk k _ _ nl _ df _ _ => (dV k nl (tDf df) []).headD .nil
def dfE (tg : Bool) : List Fl -> DE -> Nat -> DE -> DE
 | [], _, _, a => a
 | f :: r, i, off, a => dfE tg r i (off + wdF tg f) (if dfl f then .f (.setCells off) [a, i, .k (dfV f)] else a)
def dfO (tg : Bool) : List Fl -> DE -> Nat -> DE -> List Ob
 | [], _, _, _ => []
 | f :: r, i, off, a => dfO tg r i (off + wdF tg f) (if dfl f then .f (.setCells off) [a, i, .k (dfV f)] else a) ++ (if dfl f then [.idx i a true] else [])
def lenE (x : Bool) (s : DE) : DE := rdE (if x then 81 else 80) s
def iniE (l : DE) (z : D) : DE := .f .ite [.f .ltI [.k (.int 0), l], .f .app [.k .nil, .f .repl [l, .k z]], .k .nil]
def valE (k : Int) (e : DE) : DE := if k = 7 then .f .mkrow (getsE e 16) else e
def bodyR (v : Int) (x : Bool) (lv : Nat) (of : Int) (q : DE × DE) : DE × DE :=
 if of = 10 then q else (.f .setAt [.v (lv + 2), .v lv, valE of (hdE (rdE (rdN of (-1) v x) (.v (lv + 3))))], tlE (rdE (rdN of (-1) v x) (.v (lv + 3))))
mutual
def rdF (tg : Bool) (v : Int) (x : Bool) (lv : Nat) : Fl -> DE -> DE × DE
 | .mk k _ _ nl _ _ of sub, s =>
  if k = 11 then
   let e := lenE x s
   let b := bodyR v x lv of (rdS tg v x (lv + 4) sub (.v lv) (dfE tg (sub.getD []) (.v lv) 0 (.v (lv + 2))) (.v (lv + 3)))
   (.fold lv (.f .iota [hdE e]) [iniE (hdE e) (zEl tg of sub), tlE e] [b.1, b.2] 0, .fold lv (.f .iota [hdE e]) [iniE (hdE e) (zEl tg of sub), tlE e] [b.1, b.2] 1)
  else (hdE (rdE (rdN k nl v x) s), tlE (rdE (rdN k nl v x) s))
def rdS (tg : Bool) (v : Int) (x : Bool) (lv : Nat) : Option (List Fl) -> DE -> DE -> DE -> DE × DE
 | none, i, a, s => if x then (.f (.setCells 0) [a, i, hdE (rdE 82 s)], tlE (rdE 82 s)) else (a, s)
 | some l, i, a, s =>
  let q := rdL tg v x lv l i 0 a s
  if x then (.f (.setCells (wdL tg l)) [q.1, i, hdE (rdE 82 q.2)], tlE (rdE 82 q.2)) else q
def rdL (tg : Bool) (v : Int) (x : Bool) (lv : Nat) : List Fl -> DE -> Nat -> DE -> DE -> DE × DE
 | [], _, _, a, s => (a, s)
 | f :: r, i, off, a, s =>
  if f.tag < 0 /\ has f v = true then
   let q := rdF tg v x lv f s
   rdL tg v x lv r i (off + wdF tg f) (.f (.setCells off) [a, i, valE f.kind q.1]) q.2
  else rdL tg v x lv r i (off + wdF tg f) a s
end
def cellR : Fl -> DE -> List DE
 | .mk k _ _ _ _ _ _ _, e => if k = 7 then getsE e 16 else [e]
def dfF (tg : Bool) : Fl -> List D
 | .mk k _ _ nl _ df _ sub => if k = 11 then [.nil] else if k = 10 then zS tg sub else dV k nl (tDf df) []
def rdT (tg : Bool) (v : Int) (x : Bool) (lv : Nat) : List Fl -> DE -> List DE × DE
 | [], s => ([], s)
 | f :: r, s =>
  if f.tag < 0 /\ has f v = true then
   let q := rdF tg v x lv f s
   let p := rdT tg v x lv r q.2
   (cellR f q.1 ++ p.1, p.2)
  else
   let p := rdT tg v x lv r s
   ((dfF tg f).map .k ++ p.1, p.2)
def rdM (tg : Bool) (v : Int) (x : Bool) (lv : Nat) (fs : Option (List Fl)) (s : DE) : List DE :=
 let p := rdT tg v x lv (fs.getD []) s
 p.1 ++ (if x then [.f (.get 0) [hdE (rdE 82 p.2)]] else if tg then [.k .nil] else [])
def behE (m : Msg) (v : Int) : DE := wrS m.tg v (Flexible m.fx v) 3 m.fs (rdM m.tg v (Flexible m.fx v) 3 m.fs (.f .app [.k .nil, .v 2])) (.f .app [.k .nil, .v 1])
def nilO (a i : DE) (off : Nat) : Ob := .when (.f .not [.f .isNil [.f (.get off) [.f .at [a, i]]]]) true [.nz (.k (.int 0))]
def elO : Option (DE × DE × Nat) -> Ob -> List Ob
 | some (a, i, off), p => [nilO a i off, p, .idx i a true]
 | none, p => [p]
def bodyO (v : Int) (x : Bool) (lv : Nat) (of : Int) (o : List Ob) : List Ob :=
 if of = 10 then o else [.idx (.v lv) (.v (lv + 2)) true, .idx (.v lv) (.v (lv + 2)) true, .pre (rdN of (-1) v x) [.v (lv + 3)]]
mutual
def roF (tg : Bool) (v : Int) (x : Bool) (lv : Nat) : Fl -> DE -> Option (DE × DE × Nat) -> List Ob
 | .mk k _ _ nl _ _ of sub, s, el =>
  if k = 11 then
   let e := lenE x s
   let b := bodyR v x lv of (rdS tg v x (lv + 4) sub (.v lv) (dfE tg (sub.getD []) (.v lv) 0 (.v (lv + 2))) (.v (lv + 3)))
   [.all (.f .iota [hdE e]) [iniE (hdE e) (zEl tg of sub), tlE e] [b.1, b.2] (bodyO v x lv of (roS tg v x (lv + 4) sub (.v lv) (dfE tg (sub.getD []) (.v lv) 0 (.v (lv + 2))) (.v (lv + 3)) ++ (dfO tg (sub.getD []) (.v lv) 0 (.v (lv + 2)) ++ [.idx (.v lv) (.v (lv + 2)) true]))), .when (.f .ltI [.k (.int 0), hdE e]) true [.cap (hdE e) (szV of (-1) (szS tg sub)).1]] ++
    elO el (.pre (if x then 81 else 80) [s])
  else [.pre (rdN k nl v x) [s]]
def roS (tg : Bool) (v : Int) (x : Bool) (lv : Nat) : Option (List Fl) -> DE -> DE -> DE -> List Ob
 | none, i, a, s => if x then [.idx i a true, .pre 82 [s]] else []
 | some l, i, a, s =>
  let q := rdL tg v x lv l i 0 a s
  (if x then [.idx i q.1 true, .pre 82 [q.2]] else []) ++ roL tg v x lv l i 0 a s
def roL (tg : Bool) (v : Int) (x : Bool) (lv : Nat) : List Fl -> DE -> Nat -> DE -> DE -> List Ob
 | [], _, _, _, _ => []
 | f :: r, i, off, a, s =>
  if f.tag < 0 /\ has f v = true then
   let q := rdF tg v x lv f s
   roL tg v x lv r i (off + wdF tg f) (.f (.setCells off) [a, i, valE f.kind q.1]) q.2 ++ (.idx i a true :: roF tg v x lv f s (some (a, i, off)))
  else roL tg v x lv r i (off + wdF tg f) a s
end
def roT (tg : Bool) (v : Int) (x : Bool) (lv : Nat) : List Fl -> DE -> List Ob
 | [], _ => []
 | f :: r, s =>
  if f.tag < 0 /\ has f v = true then roT tg v x lv r (rdF tg v x lv f s).2 ++ roF tg v x lv f s none
  else roT tg v x lv r s
def roM (tg : Bool) (v : Int) (x : Bool) (lv : Nat) (fs : Option (List Fl)) (s : DE) : List Ob :=
 (if x then [.pre 82 [(rdT tg v x lv (fs.getD []) s).2]] else []) ++ roT tg v x lv (fs.getD []) s
def behO (m : Msg) (v : Int) : List Ob :=
 owS m.tg v (Flexible m.fx v) 3 m.fs (rdM m.tg v (Flexible m.fx v) 3 m.fs (.f .app [.k .nil, .v 2])) (.f .app [.k .nil, .v 1]) ++
 (.room (.f .app [.k .nil, .v 1]) 1 :: (roM m.tg v (Flexible m.fx v) 3 m.fs (.f .app [.k .nil, .v 2]) ++ [.room (.f .app [.k .nil, .v 2]) 1]))
end Go.Mx
namespace Go.Mx
open Go Go.Dx
theorem okL_nl {v : Int} {a b : T} (hl : a.L = b.L) : ∀ (l : List Fl) (i : Nat), okL true v l i a -> okL true v l i b
 | [], _, _ => trivial
 | f :: r, i, h => by
  rw [okL] at h ⊢
  have : at' a i = at' b i := by unfold at'; rw [hl]
  exact ⟨fun ha => this ▸ h.1 ha, okL_nl hl r (i + 1) h.2⟩
theorem okS_nl {v : Int} {fs : Option (List Fl)} {a b : T} (hl : a.L = b.L) (hu : a.U = b.U) (h : okS true v fs a) : okS true v fs b := by
 cases fs with
 | none => rw [okS] at h ⊢; rwa [<- hu]
 | some l => rw [okS] at h ⊢; exact ⟨hu ▸ h.1, okL_nl hl l 0 h.2⟩
theorem wfT_L {t : T} (h : wfT t = true) : ∀ y ∈ t.L, wfT y = true := by
 obtain ⟨n, s, b, l, u⟩ := t
 simp only [wfT, Bool.and_eq_true] at h
 cases l with
 | none => intro y hy; simp [T.L, T.l] at hy
 | some l => exact wfTl_all.1 h.1.2
theorem wfT_zero : wfT T.zero = true := by decide
theorem wfT_at {t : T} (h : wfT t = true) (i : Int) : wfT (at' t i) = true := by
 unfold at'
 split
 ·rw [List.getD_eq_getElem?_getD]
  cases hg : t.L[i.toNat]? with
  | none => exact wfT_zero
  | some y => exact wfT_L h y (List.mem_of_getElem? hg)
 ·exact wfT_zero
theorem wfT_U {t : T} (h : wfT t = true) : ∀ y ∈ t.U, 0 <= y.key /\ y.key < 4294967296 := by
 obtain ⟨n, s, b, l, u⟩ := t
 simp only [wfT, Bool.and_eq_true] at h
 intro y hy
 have := List.all_eq_true.1 h.2 y hy
 simpa [wfTg] using this
theorem tags_gF (fs : Option (List Fl)) (v : Int) (t : T) (h : wfT t = true) : okTags (given (FitS fs v t)).U := by
 have e : (given (FitS fs v t)).U = (unknown (fs.getD []) t.u).map cut := by
  rw [gF]; exact nz_getD _
 rw [e]
 obtain ⟨a, b⟩ := unk_spec (fs.getD []) t.u
 refine ⟨srt_cut a, by rw [List.length_map]; exact unknown_len _ _, fun y hy => ?_⟩
 obtain ⟨z, hz, rfl⟩ := List.mem_map.1 hy
 obtain ⟨k1, k2⟩ := wfT_U h z (b z hz).2
 refine ⟨k1, k2, ?_⟩
 show ((whole z.val).getD []).length <= Most
 rw [whole_getD, List.length_take]; omega
theorem okV_gB {v k nl : Int} {b : Bool} {sub : Option (List Fl)} {t : T} (hb : b = true -> 0 <= nl /\ nl <= v) : okV v k nl (gB k b sub v t) := by
 intro hk
 refine ⟨?_, fun h => ?_⟩
 ·rw [gB_S _ _ _ _ _ (by omega), if_pos hk, List.length_take]; omega
 ·rw [gB_null, if_pos (by omega)] at h
  exact hb h
mutual
theorem okF_given : ∀ (f : Fl) (v : Int) (t : T), plainF f = true -> wfT t = true -> okF true v f (given (fitted f v t))
 | .mk k a b nl g df of sub, v, t, hp, hw => by
  obtain ⟨hg, _, hof, hs⟩ := plainF_mk hp
  have hsub : ∀ (b : Bool) (y : T), wfT y = true -> okS true v sub (gB 10 b sub v y) := fun b y hy => by
   have := okS_given sub v y hs hy
   obtain ⟨e1, e2⟩ := gB_10 b sub v y
   exact okS_nl e1.symm (by unfold T.U; rw [e2]) this
  by_cases h : k = 11
  ·have hof := hof h
   subst h
   rw [okF, if_pos rfl, fitted_11, mk_L]
   refine ⟨by rw [List.length_map, List.length_take]; omega, fun hn => ?_, fun y hy => ?_⟩
   ·simp only [T.null] at hn
    have hz : decide (0 <= g) = false := by simp; omega
    rw [hz, Bool.false_and, Bool.or_false, null_eq] at hn
    simp only [Bool.and_eq_true, decide_eq_true_eq, Fl.null] at hn
    exact .inl ⟨of_decide_eq_true hn.2.1, of_decide_eq_true hn.2.2⟩
   ·obtain ⟨z, hz, rfl⟩ := List.mem_map.1 hy
    refine ⟨okV_gB (fun h => by cases h), fun h10 => ?_⟩
    subst h10
    exact hsub false z (wfT_L hw z (List.mem_of_mem_take hz))
  ·rw [okF, if_neg h, fitted_ne _ _ _ _ _ _ _ _ _ _ h]
   refine ⟨okV_gB (fun hn => ?_), fun h10 => ?_⟩
   ·rw [null_eq] at hn
    simp only [Bool.and_eq_true, decide_eq_true_eq, Fl.null] at hn
    exact ⟨of_decide_eq_true hn.2.1, of_decide_eq_true hn.2.2⟩
   ·subst h10
    exact hsub _ t hw
theorem okS_given : ∀ (fs : Option (List Fl)) (v : Int) (t : T), plainS fs = true -> wfT t = true -> okS true v fs (given (FitS fs v t))
 | none, v, t, _, hw => tags_gF none v t hw
 | some l, v, t, hp, hw => by
  rw [okS]
  refine ⟨tags_gF (some l) v t hw, ?_⟩
  have hl := okL_given l v hp
  have key : ∀ (r : List Fl) (i : Nat), (∀ (k : Nat) f, r[k]? = some f -> l[i + k]? = some f) -> okL true v r i (given (FitS (some l) v t)) := by
   intro r
   induction r with
   | nil => intro i _; trivial
   | cons f r ih =>
    intro i h
    rw [okL]
    refine ⟨fun _ => ?_, ih (i + 1) (fun k g hg => by
     have := h (k + 1) g hg
     rwa [show i + (k + 1) = i + 1 + k by omega] at this)⟩
    have hf : l[i]? = some f := h 0 f rfl
    rw [at_gF (some l) v t i f hf]
    exact hl f (List.mem_of_getElem? hf) _ (wfT_at hw _)
  exact key l 0 (fun k f hk => by rwa [Nat.zero_add])
theorem okL_given : ∀ (l : List Fl) (v : Int), plainL l = true -> ∀ f ∈ l, ∀ t, wfT t = true -> okF true v f (given (fitted f v t))
 | [], _, _, f, hf, _, _ => by cases hf
 | g :: r, v, hp, f, hf, t, hw => by
  simp only [plainL, Bool.and_eq_true] at hp
  rcases List.mem_cons.1 hf with h1 | h1
  ·rw [h1]; exact okF_given g v t hp.1 hw
  ·exact okL_given r v hp.2 f h1 t hw
end
def okAll (M : Msg) : Bool := okMsg M && wfFs M.fs && okGs M.fs && decide (0 <= M.most) && decide (M.most <= 1000)
def specM (M : Msg) : DE := .f .mkrow [scE M.fs, .k (.int M.fx)]
end Go.Mx
namespace Go.Mx
open Go Go.Dx
def leafK (k : Int) : Bool := k == 0 || k == 1 || k == 2 || k == 3 || k == 4 || k == 5 || k == 7 || k == 8 || k == 9
def textN (k nl v : Int) : Bool := (decide (k ≠ 8) && decide (k ≠ 9)) || decide (nl < 0) || decide (nl <= v)
def there (f : Fl) (v : Int) : Bool := decide (f.tag < 0) && has f v
theorem there_iff {f : Fl} {v : Int} : there f v = true ↔ f.tag < 0 /\ has f v = true := by simp [there]
def anyT (v : Int) : Option (List Fl) -> Bool
 | none => false
 | some l => l.any fun f => there f v
mutual
def rkF (v : Int) (x : Bool) : Fl -> Bool
 | .mk k _ _ nl _ _ of sub => if k = 11 then decide (nl < 0) && (leafK of || (decide (of = 10) && rkS v x sub && (x || anyT v sub))) else leafK k && textN k nl v
def rkS (v : Int) (x : Bool) : Option (List Fl) -> Bool
 | none => true
 | some l => rkL v x l
def rkL (v : Int) (x : Bool) : List Fl -> Bool
 | [] => true
 | f :: r => decide (f.kind ≠ 10) && (!there f v || rkF v x f) && rkL v x r
end
def backU (x : Bool) (u : List Tg) : Option (List Tg) := if x then some (u.map fun y => ⟨y.key, some (y.val.getD [])⟩) else none
def dfT (f : Fl) : T := tDf f.dflt
mutual
def backF (v : Int) (x : Bool) : Fl -> T -> T
 | .mk k _ _ _ _ _ of sub, t => if k = 11 then .mk 0 none (t.L.length == 0) (some (t.L.map fun y => if of = 10 then backS v x sub y else y)) none else t
def backS (v : Int) (x : Bool) : Option (List Fl) -> T -> T
 | none, t => .mk 0 none false none (backU x t.U)
 | some l, t => .mk 0 none false (some (backL v x l 0 t)) (backU x t.U)
def backL (v : Int) (x : Bool) : List Fl -> Nat -> T -> List T
 | [], _, _ => []
 | f :: r, i, t => (if there f v then backF v x f (at' t i) else dfT f) :: backL v x r (i + 1) t
end
def bcL (tg : Bool) (v : Int) (x : Bool) : List Fl -> Nat -> T -> List D
 | [], _, _ => []
 | f :: r, i, t => (if there f v then dF tg f (backF v x f (at' t i)) else dfF tg f) ++ bcL tg v x r (i + 1) t
theorem at_mk (n : Int) (s : Option (List UInt8)) (b : Bool) (P Q : List T) (y : T) (u : Option (List Tg)) : at' (.mk n s b (some (P ++ y :: Q)) u) (P.length : Nat) = y := by
 unfold at' T.L T.l
 rw [if_pos (by simp only [Option.getD_some, List.length_append, List.length_cons]; omega), Option.getD_some, Int.toNat_natCast]
 simp
theorem dF_dfT (tg : Bool) (f : Fl) (h : f.kind ≠ 10) : dF tg f (dfT f) = dfF tg f := by
 cases f with
 | mk k a b nl g df of sub =>
  rw [dF, dfF]
  by_cases h11 : k = 11
  ·rw [if_pos h11, if_pos h11]; rfl
  ·rw [if_neg h11, if_neg h11, if_neg (show ¬ k = 10 from h)]
   unfold dV
   rw [if_neg (show ¬ k = 10 from h), if_neg (show ¬ k = 10 from h)]; rfl
theorem dL_back (tg : Bool) (v : Int) (x : Bool) (n : Int) (s : Option (List UInt8)) (b : Bool) (u : Option (List Tg)) : ∀ (l : List Fl) (P : List T) (t : T), rkL v x l = true -> dL tg l P.length (.mk n s b (some (P ++ backL v x l P.length t)) u) = bcL tg v x l P.length t
 | [], P, t, _ => rfl
 | f :: r, P, t, h => by
  simp only [rkL, Bool.and_eq_true, decide_eq_true_eq] at h
  have ih := dL_back tg v x n s b u r (P ++ [if there f v then backF v x f (at' t P.length) else dfT f]) t h.2
  rw [List.length_append, List.length_singleton, List.append_assoc, List.singleton_append] at ih
  rw [dL, bcL, backL, at_mk, ih]
  congr 1
  by_cases ht : there f v = true
  ·rw [if_pos ht, if_pos ht]
  ·rw [if_neg ht, if_neg ht, dF_dfT tg f h.1.1]
theorem tagD_back (u : List Tg) : tagD (u.map fun y => (⟨y.key, some (y.val.getD [])⟩ : Tg)) = tagRd u .nil := by
 unfold tagD tagRd
 rw [List.foldl_map]; rfl
theorem U_back (x : Bool) (u : List Tg) (n : Int) (s : Option (List UInt8)) (b : Bool) (l : Option (List T)) : tagD (T.U (.mk n s b l (backU x u))) = if x then tagRd u .nil else .nil := by
 unfold backU T.U T.u
 cases x
 ·rfl
 ·exact tagD_back u
theorem dS_back (tg : Bool) (v : Int) (x : Bool) (fs : Option (List Fl)) (t : T) (h : rkS v x fs = true) : dS tg fs (backS v x fs t) = bcL tg v x (fs.getD []) 0 t ++ (if tg then [if x then tagRd t.U .nil else .nil] else []) := by
 cases fs with
 | none => rw [backS, dS, U_back]; rfl
 | some l =>
  rw [backS, dS, U_back]
  have := dL_back tg v x 0 none false (backU x t.U) l [] t h
  simp only [List.length_nil, List.nil_append] at this
  rw [this]; rfl
def valD (k nl : Int) (t : T) : D := if k = 7 then .row (u16D t.S) else (dV k nl t []).headD .nil
def SrcIs (s : DE) (δ : List D) (q : List UInt8) : Prop := q ≠ [] -> s.eval X δ = .bytes q
theorem leaf_cases {k : Int} (h : leafK k = true) : k = 0 ∨ k = 1 ∨ k = 2 ∨ k = 3 ∨ k = 4 ∨ k = 5 ∨ k = 7 ∨ k = 8 ∨ k = 9 := by
 simp only [leafK, Bool.or_eq_true, beq_iff_eq] at h
 omega
theorem take_most {s : List UInt8} (h : s.length <= Most) : s.take Most = s := List.take_of_length_le h
theorem row_dV {k nl : Int} {t : T} (h : leafK k = true) (h7 : k ≠ 7) : dV k nl t [] = [valD k nl t] /\ (valD k nl t).cells = [valD k nl t] := by
 rcases leaf_cases h with rfl | rfl | rfl | rfl | rfl | rfl | rfl | rfl | rfl
 ·exact ⟨rfl, rfl⟩
 ·exact ⟨rfl, rfl⟩
 ·exact ⟨rfl, rfl⟩
 ·exact ⟨rfl, rfl⟩
 ·exact ⟨rfl, rfl⟩
 ·exact ⟨rfl, rfl⟩
 ·exact absurd rfl h7
 ·unfold valD dV
  simp only [show ¬ ((8 : Int) = 0) by decide, show ¬ ((8 : Int) = 1) by decide, show ¬ ((8 : Int) = 2) by decide, show ¬ ((8 : Int) = 3) by decide, show ¬ ((8 : Int) = 5) by decide, show ¬ ((8 : Int) = 7) by decide, if_true, if_false]
  split
  ·exact ⟨rfl, rfl⟩
  ·cases t.null <;> exact ⟨rfl, rfl⟩
 ·unfold valD dV
  simp only [show ¬ ((9 : Int) = 0) by decide, show ¬ ((9 : Int) = 1) by decide, show ¬ ((9 : Int) = 2) by decide, show ¬ ((9 : Int) = 3) by decide, show ¬ ((9 : Int) = 5) by decide, show ¬ ((9 : Int) = 7) by decide, show ¬ ((9 : Int) = 8) by decide, if_true, if_false]
  cases t.null <;> exact ⟨rfl, rfl⟩
theorem beN_one (b : UInt8) (r : List UInt8) : beN ((b :: r).take 1) = b.toNat := by simp [beN]
theorem wf_n {t : T} (h : wfT t = true) : IntKind.i64.wrap t.n = t.n := by
 obtain ⟨n, s, b, l, u⟩ := t
 simp only [wfT, Bool.and_eq_true] at h
 have := h.1.1
 show IntKind.i64.wrap n = n
 simp [Lit.wf, IntKind.min, IntKind.max, IntKind.signed, IntKind.bits] at this
 rw [IntKind.wrap_i64]; omega
theorem take16 {a r : List UInt8} (h : a.length = 16) : (a ++ r).take 16 = a /\ (a ++ r).drop 16 = r := ⟨take_app a r h, drop_app a r h⟩
theorem rd_leaf {k nl v : Int} {x b : Bool} {t : T} {p r : List UInt8} (hk : leafK k = true) (hn : textN k nl v = true) (hok : okV v k nl t) (hw : wfT t = true) (hb : b = (t.null && (decide (0 <= nl) && decide (nl <= v)))) :
  side (rdN k nl v x) [.bytes (valueB k b x t p ++ r)] /\ X (rdN k nl v x) [.bytes (valueB k b x t p ++ r)] = rowR (valD k nl t) r := by
 rcases leaf_cases hk with rfl | rfl | rfl | rfl | rfl | rfl | rfl | rfl | rfl
 ·refine ⟨⟨_, rfl, by simp [valueB]⟩, ?_⟩
  show X 61 [_] = _
  rw [X_61, str_by]
  simp only [valueB, if_true, List.singleton_append, beN_one]
  have h2 := Int.emod_two_eq t.n
  unfold rowR
  congr 3
  ·rcases h2 with h | h
   ·have : decide (t.n % 2 = 1) = false := by simp [h]
    rw [this, h]; rfl
   ·have : decide (t.n % 2 = 1) = true := by simp [h]
    rw [this, h]; rfl
 ·refine ⟨⟨_, rfl, by rw [List.length_append]; show 1 <= (Fixed t.n 1).length + _; rw [Fixed_len]; omega⟩, ?_⟩
  show X 62 [_] = _
  rw [X_62, str_by]
  have := rI_Fixed .i8 1 (by decide) t.n r
  show rowR (.int (rI .i8 1 (Fixed t.n 1 ++ r)).1) (rI .i8 1 (Fixed t.n 1 ++ r)).2 = _
  rw [this]; rfl
 ·refine ⟨⟨_, rfl, by rw [List.length_append]; show 2 <= (Fixed t.n 2).length + _; rw [Fixed_len]; omega⟩, ?_⟩
  show X 63 [_] = _
  rw [X_63, str_by]
  have := rI_Fixed .i16 2 (by decide) t.n r
  show rowR (.int (rI .i16 2 (Fixed t.n 2 ++ r)).1) (rI .i16 2 (Fixed t.n 2 ++ r)).2 = _
  rw [this]; rfl
 ·refine ⟨⟨_, rfl, by rw [List.length_append]; show 4 <= (Fixed t.n 4).length + _; rw [Fixed_len]; omega⟩, ?_⟩
  show X 65 [_] = _
  rw [X_65, str_by]
  have := rI_Fixed .i32 4 (by decide) t.n r
  show rowR (.int (rI .i32 4 (Fixed t.n 4 ++ r)).1) (rI .i32 4 (Fixed t.n 4 ++ r)).2 = _
  rw [this]; rfl
 ·refine ⟨⟨_, rfl, by rw [List.length_append]; show 8 <= (Fixed t.n 8).length + _; rw [Fixed_len]; omega⟩, ?_⟩
  show X 66 [_] = _
  rw [X_66, str_by]
  have := rI_Fixed .i64 8 (by decide) t.n r
  show rowR (.int (rI .i64 8 (Fixed t.n 8 ++ r)).1) (rI .i64 8 (Fixed t.n 8 ++ r)).2 = _
  rw [this, wf_n hw]; rfl
 ·refine ⟨⟨_, rfl, by rw [List.length_append]; show 2 <= (Fixed t.n 2).length + _; rw [Fixed_len]; omega⟩, ?_⟩
  show X 64 [_] = _
  rw [X_64, str_by]
  have := rI_Fixed .u16 2 (by decide) t.n r
  show rowR (.int (rI .u16 2 (Fixed t.n 2 ++ r)).1) (rI .u16 2 (Fixed t.n 2 ++ r)).2 = _
  rw [this]; rfl
 ·have h16 := take16 (r := r) (sixteen_len t.S)
  refine ⟨⟨_, rfl, by rw [List.length_append]; show 16 <= (sixteen t.S).length + _; rw [sixteen_len]; omega⟩, ?_⟩
  show X 67 [_] = _
  rw [X_67, str_by]
  show rowR (.row (((sixteen t.S ++ r).take 16).map fun x => .int x.toNat)) ((sixteen t.S ++ r).drop 16) = _
  rw [h16.1, h16.2]; rfl
 ·obtain ⟨hl, hnul⟩ := hok (.inl rfl)
  have hd : valD 8 nl t = if nl < 0 then .str t.S else if t.null then .nil else .ptr (.str t.S) := by
   show List.headD (if nl < 0 then [D.str t.S] else [if t.null then D.nil else D.ptr (.str t.S)]) D.nil = _
   split <;> rfl
  have hv : valueB 8 b x t p = counted x b (if b then [] else t.S).length 2 ++ (if b then [] else t.S) := by
   show counted x b (if b then [] else t.S.take Most).length 2 ++ (if b then [] else t.S.take Most) = _
   rw [take_most hl]
  rw [hv, hd, List.append_assoc]
  by_cases hN : 0 <= nl /\ nl <= v
  ·have hb' : b = t.null := by rw [hb]; simp [hN.1, hN.2]
   rw [if_neg (show ¬ nl < 0 by omega)]
   have e : rdN 8 nl v x = if x then 75 else 74 := by show (if 0 <= nl /\ nl <= v then (if x then 75 else 74) else (if x then 73 else 72)) = _; rw [if_pos hN]
   rw [e, <- hb']
   cases b
   ·simp only [Bool.false_eq_true, if_false]
    cases x
    ·simp only [Bool.false_eq_true, if_false]
     refine ⟨.inr ⟨t.S, r, rfl, hl⟩, ?_⟩
     rw [X_74, str_by]
     show rowR (ptrR (rNStr (Fixed (t.S.length : Nat) 2 ++ (t.S ++ r))).1) (rNStr (Fixed (t.S.length : Nat) 2 ++ (t.S ++ r))).2 = _
     rw [rNStr_some r hl]; rfl
    ·simp only [if_true]
     refine ⟨.inr ⟨t.S, r, rfl, hl⟩, ?_⟩
     rw [X_75, str_by]
     show rowR (ptrR (rCNStr (Uvarint (t.S.length + 1) ++ (t.S ++ r))).1) (rCNStr (Uvarint (t.S.length + 1) ++ (t.S ++ r))).2 = _
     rw [rCNStr_some]; rfl
   ·simp only [if_true, List.nil_append]
    cases x
    ·simp only [Bool.false_eq_true, if_false]
     refine ⟨.inl ⟨r, rfl⟩, ?_⟩
     rw [X_74, str_by]
     show rowR (ptrR (rNStr (Fixed (-1) 2 ++ r)).1) (rNStr (Fixed (-1) 2 ++ r)).2 = _
     rw [rNStr_none]; rfl
    ·simp only [if_true]
     have e0 : counted true true ([] : List UInt8).length 2 = Uvarint 0 := by rw [Uvarint_0]; rfl
     rw [e0]
     refine ⟨.inl ⟨r, rfl⟩, ?_⟩
     rw [X_75, str_by, rCNStr_none]; rfl
  ·have hn0 : nl < 0 := by
    simp only [textN, Bool.or_eq_true, Bool.and_eq_true, decide_eq_true_eq] at hn
    omega
   have hb' : b = false := by rw [hb]; simp [show ¬ 0 <= nl by omega]
   rw [if_pos hn0]
   have e : rdN 8 nl v x = if x then 73 else 72 := by show (if 0 <= nl /\ nl <= v then (if x then 75 else 74) else (if x then 73 else 72)) = _; rw [if_neg hN]
   rw [e, hb']
   simp only [Bool.false_eq_true, if_false]
   cases x
   ·simp only [Bool.false_eq_true, if_false]
    refine ⟨⟨t.S, r, rfl, hl⟩, ?_⟩
    rw [X_72, str_by]
    show rowR (.str (rStr (Fixed (t.S.length : Nat) 2 ++ (t.S ++ r))).1) (rStr (Fixed (t.S.length : Nat) 2 ++ (t.S ++ r))).2 = _
    rw [rStr_enc r hl]
   ·simp only [if_true]
    refine ⟨⟨t.S, r, rfl, hl⟩, ?_⟩
    rw [X_73, str_by]
    show rowR (.str (rCStr (Uvarint (t.S.length + 1) ++ (t.S ++ r))).1) (rCStr (Uvarint (t.S.length + 1) ++ (t.S ++ r))).2 = _
    rw [rCStr_enc]
 ·obtain ⟨hl, hnul⟩ := hok (.inr rfl)
  have hd : valD 9 nl t = if t.null then .nil else .bytes t.S := rfl
  have hv : valueB 9 b x t p = counted x b (if b then [] else t.S).length 4 ++ (if b then [] else t.S) := by
   show counted x b (if b then [] else t.S.take Most).length 4 ++ (if b then [] else t.S.take Most) = _
   rw [take_most hl]
  rw [hv, hd, List.append_assoc]
  by_cases hN : 0 <= nl /\ nl <= v
  ·have hb' : b = t.null := by rw [hb]; simp [hN.1, hN.2]
   have e : rdN 9 nl v x = if x then 79 else 78 := by show (if 0 <= nl /\ nl <= v then (if x then 79 else 78) else (if x then 77 else 76)) = _; rw [if_pos hN]
   rw [e, <- hb']
   cases b
   ·simp only [Bool.false_eq_true, if_false]
    cases x
    ·simp only [Bool.false_eq_true, if_false]
     refine ⟨.inr ⟨t.S, r, rfl, hl⟩, ?_⟩
     rw [X_78, str_by]
     show rowR (encB (rNB4 (Fixed (t.S.length : Nat) 4 ++ (t.S ++ r))).1) (rNB4 (Fixed (t.S.length : Nat) 4 ++ (t.S ++ r))).2 = _
     rw [rNB4_some r hl]; rfl
    ·simp only [if_true]
     refine ⟨.inr ⟨t.S, r, rfl, hl⟩, ?_⟩
     rw [X_79, str_by]
     show rowR (encB (rCNStr (Uvarint (t.S.length + 1) ++ (t.S ++ r))).1) (rCNStr (Uvarint (t.S.length + 1) ++ (t.S ++ r))).2 = _
     rw [rCNStr_some]; rfl
   ·simp only [if_true, List.nil_append]
    cases x
    ·simp only [Bool.false_eq_true, if_false]
     refine ⟨.inl ⟨r, rfl⟩, ?_⟩
     rw [X_78, str_by]
     show rowR (encB (rNB4 (Fixed (-1) 4 ++ r)).1) (rNB4 (Fixed (-1) 4 ++ r)).2 = _
     rw [rNB4_none]; rfl
    ·simp only [if_true]
     have e0 : counted true true ([] : List UInt8).length 4 = Uvarint 0 := by rw [Uvarint_0]; rfl
     rw [e0]
     refine ⟨.inl ⟨r, rfl⟩, ?_⟩
     rw [X_79, str_by, rCNStr_none]; rfl
  ·have hn0 : nl < 0 := by
    simp only [textN, Bool.or_eq_true, Bool.and_eq_true, decide_eq_true_eq] at hn
    omega
   have hb' : b = false := by rw [hb]; simp [show ¬ 0 <= nl by omega]
   have ht : t.null = false := by
    cases h : t.null with
    | false => rfl
    | true => exact absurd (hnul h) (by omega)
   have e : rdN 9 nl v x = if x then 77 else 76 := by show (if 0 <= nl /\ nl <= v then (if x then 79 else 78) else (if x then 77 else 76)) = _; rw [if_neg hN]
   rw [e, hb', ht]
   simp only [Bool.false_eq_true, if_false]
   cases x
   ·simp only [Bool.false_eq_true, if_false]
    refine ⟨⟨t.S, r, rfl, hl⟩, ?_⟩
    rw [X_76, str_by]
    show rowR (.bytes (rB4 (Fixed (t.S.length : Nat) 4 ++ (t.S ++ r))).1) (rB4 (Fixed (t.S.length : Nat) 4 ++ (t.S ++ r))).2 = _
    rw [rB4_enc r hl]
   ·simp only [if_true]
    refine ⟨⟨t.S, r, rfl, hl⟩, ?_⟩
    rw [X_77, str_by]
    show rowR (.bytes (rCStr (Uvarint (t.S.length + 1) ++ (t.S ++ r))).1) (rCStr (Uvarint (t.S.length + 1) ++ (t.S ++ r))).2 = _
    rw [rCStr_enc]
end Go.Mx
namespace Go.Mx
open Go Go.Dx
section
variable {δ : List D}
theorem ev_rdE {s : DE} {d : D} (n : Nat) (h : s.eval X δ = d) : (rdE n s).eval X δ = X n [d] := by
 unfold rdE; rw [ev_f, evs_cons, evs_nil, h, fe_ext]
theorem ev_hd {e : DE} {v : D} {r : List UInt8} (h : e.eval X δ = rowR v r) : (hdE e).eval X δ = v := by
 unfold hdE; rw [ev_f, evs_cons, evs_nil, h, get0R]
theorem ev_tl {e : DE} {v : D} {r : List UInt8} (h : e.eval X δ = rowR v r) : (tlE e).eval X δ = .bytes r := by
 unfold tlE; rw [ev_f, evs_cons, evs_nil, h, get1R]
theorem SrcIs.of {s : DE} {q : List UInt8} (h : s.eval X δ = .bytes q) : SrcIs s δ q := fun _ => h
theorem SrcIs.get {s : DE} {a b : List UInt8} (h : SrcIs s δ (a ++ b)) (hp : 0 < a.length) : s.eval X δ = .bytes (a ++ b) := h (by
 intro e; have := congrArg List.length e; simp at this; rw [this.1] at hp; simp at hp)
theorem ob_pre1' {n : Nat} {s : DE} {d : D} (h : s.eval X δ = d) (hs : side n [d]) : (Ob.pre n [s]).holds X side δ := by
 simp only [Ob.holds]
 rw [evs_cons, evs_nil, h]; exact hs
theorem ev_leaf {s : DE} {k nl v : Int} {x b : Bool} {t : T} {p r : List UInt8} (hk : leafK k = true) (hn : textN k nl v = true) (hok : okV v k nl t) (hw : wfT t = true) (hb : b = (t.null && (decide (0 <= nl) && decide (nl <= v))))
  (hs : SrcIs s δ (valueB k b x t p ++ r)) : (hdE (rdE (rdN k nl v x) s)).eval X δ = valD k nl t /\ (tlE (rdE (rdN k nl v x) s)).eval X δ = .bytes r /\ (Ob.pre (rdN k nl v x) [s]).holds X side δ := by
 have h10 : k ≠ 10 := by rintro rfl; cases hk
 have h := hs.get (valueB_pos k b x t p h10)
 obtain ⟨h1, h2⟩ := rd_leaf (p := p) (r := r) (x := x) hk hn hok hw hb
 have h3 := ev_rdE (rdN k nl v x) h
 rw [h2] at h3
 exact ⟨ev_hd h3, ev_tl h3, ob_pre1' h h1⟩
theorem cells_valD {k nl : Int} {t : T} (hk : leafK k = true) : (valD k nl t).cells = dV k nl t [] := by
 by_cases h7 : k = 7
 ·subst h7; rfl
 ·obtain ⟨h1, h2⟩ := row_dV (nl := nl) (t := t) hk h7
  rw [h1, h2]
theorem dV_leaf {k nl : Int} {t : T} {sd : List D} (hk : leafK k = true) : dV k nl t sd = dV k nl t [] := by
 have h10 : k ≠ 10 := by rintro rfl; cases hk
 unfold dV
 rw [if_neg h10, if_neg h10]
theorem ev_valE {k nl : Int} {t : T} {e : DE} (hk : leafK k = true) (he : e.eval X δ = valD k nl t) : (valE k e).eval X δ = valD k nl t := by
 unfold valE
 by_cases h7 : k = 7
 ·subst h7
  rw [if_pos rfl, ev_f]
  have := gets_all (r := e) (δ := δ) (l := u16D t.S) (by rw [he]; rfl)
  rw [u16_len] at this
  rw [this, fe_mkrow]; rfl
 ·rw [if_neg h7, he]
def El (a i : DE) (δ : List D) (l0 : List D) (n : Nat) (c : List D) : Prop := a.eval X δ = .list (l0.set n (.row c)) /\ i.eval X δ = .int (n : Nat) /\ n < l0.length
theorem El.set {a i x : DE} {l0 : List D} {n : Nat} {pre old post xs : List D} (h : El a i δ l0 n (pre ++ old ++ post)) (hx : (x.eval X δ).cells = xs) (hl : xs.length = old.length) : El (.f (.setCells pre.length) [a, i, x]) i δ l0 n (pre ++ xs ++ post) := by
 obtain ⟨h1, h2, h3⟩ := h
 refine ⟨?_, h2, h3⟩
 rw [ev_f, evs_cons, evs_cons, evs_cons, evs_nil, h1, h2]
 show D.setCellsD pre.length (.list (l0.set n (.row (pre ++ old ++ post)))) ((n : Int).toNat) (x.eval X δ) = _
 rw [Int.toNat_natCast]
 have e : (l0.set n (D.row (pre ++ old ++ post))).getD n .nil = .row (pre ++ old ++ post) := by
  rw [List.getD_eq_getElem?_getD, List.getElem?_set_self h3]; rfl
 simp only [D.setCellsD, e, D.putCells, hx, List.set_set]
 have t1 : List.take pre.length (pre ++ old ++ post) = pre := by rw [List.append_assoc, List.take_left]
 have t2 : List.drop (pre.length + xs.length) (pre ++ old ++ post) = post := by
  rw [hl, <- List.length_append]; exact List.drop_left
 rw [t1, t2, List.append_assoc]
theorem El.idx {a i : DE} {l0 : List D} {n : Nat} {c : List D} (h : El a i δ l0 n c) : (Ob.idx i a true).holds X side δ := by
 obtain ⟨h1, h2, h3⟩ := h
 simp only [Ob.holds, h1, h2, int_i, D.len, List.length_set]
 refine ⟨by omega, ?_⟩
 simp only [if_true]; omega
theorem El.isNil {a i : DE} {l0 : List D} {n : Nat} {pre post : List D} (h : El a i δ l0 n (pre ++ [.nil] ++ post)) : (nilO a i pre.length).holds X side δ := by
 obtain ⟨h1, h2, h3⟩ := h
 simp only [nilO, Ob.holds]
 intro hc
 exfalso
 rw [ev_f, evs_cons, evs_nil, ev_f, evs_cons, evs_nil, ev_f, evs_cons, evs_nil, ev_f, evs_cons, evs_cons, evs_nil, h1, h2, fe_at] at hc
 have e : (D.list (l0.set n (D.row (pre ++ [D.nil] ++ post)))).rows.getD ((n : Int).toNat) .nil = .row (pre ++ [.nil] ++ post) := by
  rw [Int.toNat_natCast]
  show (l0.set n (D.row (pre ++ [D.nil] ++ post))).getD n .nil = _
  rw [List.getD_eq_getElem?_getD, List.getElem?_set_self h3]; rfl
 rw [e, fe_get] at hc
 have e2 : (D.row (pre ++ [D.nil] ++ post)).cells.getD pre.length .nil = .nil := by
  show (pre ++ [D.nil] ++ post).getD pre.length .nil = .nil
  rw [List.append_assoc, List.getD_eq_getElem?_getD, List.getElem?_append_right (Nat.le_refl _), Nat.sub_self]; rfl
 rw [e2] at hc
 cases hc
def dfL (tg : Bool) : List Fl -> List D
 | [] => []
 | f :: r => dfF tg f ++ dfL tg r
theorem dfF_dfl {tg : Bool} {f : Fl} (h : dfl f = true) : dfF tg f = [dfV f] /\ (dfV f).cells = [dfV f] := by
 cases f with
 | mk k a b nl g df of sub =>
  simp only [dfl, Bool.and_eq_true, decide_eq_true_eq] at h
  obtain ⟨⟨⟨⟨⟨_, h7⟩, h8⟩, h9⟩, h10⟩, h11⟩ := h
  rw [dfF, dfV, if_neg h11, if_neg h10]
  unfold dV
  rw [if_neg h7, if_neg h8, if_neg h9, if_neg h10]
  repeat (first | exact ⟨rfl, rfl⟩ | split)
theorem dfF_no {tg : Bool} {f : Fl} (h : ¬ dfl f = true) : dfF tg f = zF tg f := by
 cases f with
 | mk k a b nl g df of sub =>
  rw [dfF, zF]
  by_cases h11 : k = 11
  ·rw [if_pos h11, if_pos h11]
  ·by_cases h10 : k = 10
   ·rw [if_neg h11, if_neg h11, if_pos h10, if_pos h10]
   ·rw [if_neg h11, if_neg h11, if_neg h10, if_neg h10]
    by_cases h0 : df = 0
    ·rw [h0]
    ·have : k = 7 ∨ k = 8 ∨ k = 9 := by
      simp only [dfl, Bool.and_eq_true, decide_eq_true_eq] at h
      by_cases e7 : k = 7
      ·exact .inl e7
      ·by_cases e8 : k = 8
       ·exact .inr (.inl e8)
       ·by_cases e9 : k = 9
        ·exact .inr (.inr e9)
        ·exact absurd ⟨⟨⟨⟨⟨h0, e7⟩, e8⟩, e9⟩, h10⟩, h11⟩ h
     rcases this with rfl | rfl | rfl <;> rfl
mutual
theorem zF_len (tg : Bool) : ∀ f : Fl, (zF tg f).length = wdF tg f
 | .mk k a b nl g df of sub => by
  rw [zF, wdF]
  by_cases h11 : k = 11
  ·subst h11; rfl
  ·rw [if_neg h11]
   by_cases h10 : k = 10
   ·subst h10
    exact zS_len tg sub
   ·rw [if_neg h10]
    have := dV_len k nl (tDf 0) (zS tg sub) tg sub (zS_len tg sub)
    unfold wdV at this
    rw [<- this]
    congr 1
    unfold dV
    rw [if_neg h10, if_neg h10]
theorem zS_len (tg : Bool) : ∀ fs : Option (List Fl), (zS tg fs).length = wdS tg fs
 | none => by rw [zS, wdS]; cases tg <;> rfl
 | some l => by rw [zS, wdS, List.length_append, zL_len tg l]; cases tg <;> rfl
theorem zL_len (tg : Bool) : ∀ l : List Fl, (zL tg l).length = wdL tg l
 | [] => rfl
 | f :: r => by rw [zL, wdL, List.length_append, zF_len tg f, zL_len tg r]
end
theorem dfF_len (tg : Bool) (f : Fl) : (dfF tg f).length = wdF tg f := by
 by_cases h : dfl f = true
 ·rw [(dfF_dfl h).1]
  cases f with
  | mk k a b nl g df of sub =>
   simp only [dfl, Bool.and_eq_true, decide_eq_true_eq] at h
   obtain ⟨⟨⟨⟨⟨_, h7⟩, h8⟩, h9⟩, h10⟩, h11⟩ := h
   rw [wdF, if_neg h7, if_neg h10]; rfl
 ·rw [dfF_no h, zF_len]
theorem ev_dfE (tg : Bool) : ∀ (l : List Fl) (a i : DE) (off : Nat) (pre post l0 : List D) (n : Nat), El a i δ l0 n (pre ++ zL tg l ++ post) -> off = pre.length -> El (dfE tg l i off a) i δ l0 n (pre ++ dfL tg l ++ post) /\ obsHold X side (dfO tg l i off a) δ
 | [], a, i, off, pre, post, l0, n, h, _ => ⟨h, trivial⟩
 | f :: r, a, i, off, pre, post, l0, n, h, ho => by
  subst ho
  rw [zL, <- List.append_assoc] at h
  rw [dfE, dfL, dfO]
  have hstep : El (if dfl f then .f (.setCells pre.length) [a, i, .k (dfV f)] else a) i δ l0 n (pre ++ dfF tg f ++ zL tg r ++ post) := by
   by_cases hd : dfl f = true
   ·rw [if_pos hd]
    obtain ⟨d1, d2⟩ := dfF_dfl (tg := tg) hd
    have h' : El a i δ l0 n (pre ++ zF tg f ++ (zL tg r ++ post)) := by rw [<- List.append_assoc]; exact h
    have := h'.set (x := .k (dfV f)) (xs := dfF tg f) (by rw [ev_k, d2, d1]) (by rw [dfF_len, zF_len])
    rw [<- List.append_assoc] at this
    exact this
   ·rw [if_neg hd, dfF_no hd]; exact h
  have ih := ev_dfE tg r _ i (pre.length + wdF tg f) (pre ++ dfF tg f) post l0 n hstep (by rw [List.length_append, dfF_len])
  rw [<- List.append_assoc]
  refine ⟨ih.1, obs_app ih.2 ?_⟩
  by_cases hd : dfl f = true
  ·rw [if_pos hd]; exact obs_one h.idx
  ·rw [if_neg hd]; trivial
theorem iota_ev {lv N : Nat} {l : DE} {is bs : List DE} {st : Nat -> List D} (hlv : lv = δ.length) (hl : l.eval X δ = .int (N : Nat)) (h0 : evals X is δ = st 0) (hs : ∀ k : Nat, k < N -> evals X bs (δ ++ (.int k :: .int k :: st k)) = st (k + 1)) (j : Nat) :
  (DE.fold lv (.f .iota [l]) is bs j).eval X δ = (st N).getD j .nil := by
 have hd : δ.take lv = δ := by rw [hlv]; exact List.take_length
 have e : ((DE.f .iota [l]).eval X δ).rows = iotaD N := by
  rw [ev_f, evs_cons, evs_nil, hl]
  show (D.list _).rows = _
  simp [D.rows, D.asInt, iotaD]
 show (foldRows (fun i r acc => evals X bs (δ.take lv ++ (.int i :: r :: acc))) 0 ((DE.f .iota [l]).eval X δ).rows (evals X is δ)).getD j .nil = _
 rw [e, hd, h0, iota_rows st _ N hs]
theorem iota_all {N : Nat} {l : DE} {is bs : List DE} {st : Nat -> List D} {os : List Ob} (hl : l.eval X δ = .int (N : Nat)) (h0 : evals X is δ = st 0) (hs : ∀ k : Nat, k < N -> evals X bs (δ ++ (.int k :: .int k :: st k)) = st (k + 1))
  (ho : ∀ k : Nat, k < N -> obsHold X side os (δ ++ (.int k :: .int k :: st k))) : (Ob.all (.f .iota [l]) is bs os).holds X side δ := by
 have e : ((DE.f .iota [l]).eval X δ).rows = iotaD N := by
  rw [ev_f, evs_cons, evs_nil, hl]
  show (D.list _).rows = _
  simp [D.rows, D.asInt, iotaD]
 simp only [Ob.holds]
 rw [e]
 intro k hk
 rw [iotaD_len] at hk
 rw [iotaD_get _ _ (by omega), iotaD_take _ _ (by omega), h0, iota_rows st _ k (fun i hi => hs i (by omega))]
 exact ho k hk
end
end Go.Mx
namespace Go.Mx
open Go Go.Dx
def outL (v : Int) (x : Bool) (l : List Fl) (j : Nat) (t : T) : List UInt8 := (mapI (fun i f => cellO v (rowP v x t i f)) j l).flatten
theorem outL_cons (v : Int) (x : Bool) (f : Fl) (r : List Fl) (j : Nat) (t : T) : outL v x (f :: r) j t = (if there f v then field f v x (at' t j) else []) ++ outL v x r (j + 1) t := by
 unfold outL
 rw [mapI, List.flatten_cons]
 congr 1
 unfold cellO rowP
 by_cases h : there f v = true
 ·rw [if_pos h, if_pos (there_iff.1 h)]
 ·rw [if_neg h, if_neg (fun e => h (there_iff.2 e))]
def gEl (tg : Bool) (v : Int) (x : Bool) (of : Int) (sub : Option (List Fl)) (y : T) : D := if of = 10 then .row (dS tg sub (backS v x sub y)) else valD of (-1) y
theorem elD_back {tg : Bool} {v : Int} {x : Bool} {of : Int} {sub : Option (List Fl)} (h : of = 10 ∨ leafK of = true) (y : T) :
  elD of (dV of (-1) (if of = 10 then backS v x sub y else y) (dS tg sub (if of = 10 then backS v x sub y else y))) (if of = 10 then backS v x sub y else y) = gEl tg v x of sub y := by
 unfold gEl
 by_cases h10 : of = 10
 ·subst h10; rfl
 ·have hk := h.resolve_left h10
  rw [if_neg h10, if_neg h10, dV_leaf hk]
  unfold elD
  by_cases h7 : of = 7
  ·subst h7; rfl
  ·rw [if_neg h7, if_neg h10, (row_dV hk h7).1]; rfl
theorem flat_ge {A : Type} (w : A -> List UInt8) : ∀ l : List A, (∀ y ∈ l, 0 < (w y).length) -> l.length <= ((l.map w).flatten).length
 | [], _ => Nat.le_refl _
 | y :: l, hw => by
  have := flat_ge w l (fun z hz => hw z (by simp [hz]))
  have := hw y (by simp)
  simp only [List.map_cons, List.flatten_cons, List.length_append, List.length_cons]; omega
def Left (s : DE) (δ : List D) (w r : List UInt8) (e : DE) : Prop := e.eval X δ = .bytes r ∨ (e.eval X δ = s.eval X δ /\ w = [])
theorem Left.src {s e : DE} {δ : List D} {w r : List UInt8} (h : Left s δ w r e) (hs : SrcIs s δ (w ++ r)) : SrcIs e δ r := by
 rcases h with h | ⟨h1, rfl⟩
 ·exact fun _ => h
 ·exact fun hr => h1.trans (hs hr)
theorem Left.ex {s e : DE} {δ : List D} {w r : List UInt8} (h : Left s δ w r e) (hp : 0 < w.length) : e.eval X δ = .bytes r := by
 rcases h with h | ⟨_, rfl⟩
 ·exact h
 ·simp at hp
theorem anyT_pos {v : Int} {x : Bool} {t : T} (hpos : ∀ (f : Fl), there f v = true -> rkF v x f = true -> ∀ y, 0 < (field f v x y).length) : ∀ (l : List Fl) (j : Nat), rkL v x l = true -> l.any (fun f => there f v) = true -> 0 < (outL v x l j t).length
 | [], _, _, h => by cases h
 | f :: r, j, hk, h => by
  simp only [rkL, Bool.and_eq_true, Bool.or_eq_true, decide_eq_true_eq] at hk
  rw [outL_cons, List.length_append]
  by_cases hf : there f v = true
  ·rw [if_pos hf]
   have hkf : rkF v x f = true := by
    rcases hk.1.2 with h | h
    ·rw [hf] at h; cases h
    ·exact h
   have := hpos f hf hkf (at' t j)
   omega
  ·rw [List.any_cons, Bool.or_eq_true] at h
   have := anyT_pos (t := t) hpos r (j + 1) hk.2 (h.resolve_left hf)
   omega
theorem field_pos {f : Fl} {v : Int} {x : Bool} (hk : rkF v x f = true) (t : T) : 0 < (field f v x t).length := by
 cases f with
 | mk k a b nl g df of sub =>
  rw [field_eq]
  simp only [Fl.kind, Fl.null, Fl.of, Fl.sub]
  unfold fieldB
  rw [rkF] at hk
  by_cases h : k = 11
  ·rw [if_pos h]
   exact cat_pos (counted_pos _ _ _ _ (by omega))
  ·rw [if_neg h] at hk ⊢
   simp only [Bool.and_eq_true] at hk
   have h10 : k ≠ 10 := by rintro rfl; cases hk.1
   rw [if_neg (fun e => h10 e.1)]
   exact valueB_pos _ _ _ _ _ h10
theorem part_pos {v : Int} {x : Bool} {fs : Option (List Fl)} (hp : plainS fs = true) (hk : rkS v x fs = true) (ha : (x || anyT v fs) = true) {t : T} (hu : okTags t.U) : 0 < (partS fs v x t).length := by
 rw [partS_plain hp hu]
 cases x
 ·rw [if_neg (by decide)]
  cases fs with
  | none => cases ha
  | some l => exact anyT_pos (fun f _ hf y => field_pos hf y) l 0 hk (by simpa [anyT] using ha)
 ·rw [if_pos rfl, List.length_append, tagsW, List.length_append]
  have := Uvarint_pos t.U.length
  omega
theorem tagsW_rd {u : List Tg} (hu : okTags u) : tagsW u = Uvarint u.length ++ (u.map fun x : Tg => tagB x.key.toNat (x.val.getD [])).flatten := by
 obtain ⟨h1, h2, h3⟩ := hu
 unfold tagsW
 congr 2
 apply List.map_congr_left
 intro y hy
 obtain ⟨q1, q2, q3⟩ := h3 y hy
 unfold unkB
 rw [take_most q3, IntKind.wrap_u64, Int.emod_eq_of_lt q1 (by omega)]
theorem rd_tags {u : List Tg} {r : List UInt8} {s : DE} {δ : List D} (hu : okTags u) (hs : SrcIs s δ (tagsW u ++ r)) : (hdE (rdE 82 s)).eval X δ = .row [tagRd u .nil] /\ (tlE (rdE 82 s)).eval X δ = .bytes r /\ (Ob.pre 82 [s]).holds X side δ := by
 have hp : 0 < (tagsW u).length := by rw [tagsW, List.length_append]; have := Uvarint_pos u.length; omega
 have h := hs.get hp
 have e : tagsW u ++ r = Uvarint u.length ++ ((u.map fun x : Tg => tagB x.key.toNat (x.val.getD [])).flatten ++ r) := by rw [tagsW_rd hu, List.append_assoc]
 have h2 : X 82 [.bytes (tagsW u ++ r)] = rowR (.row [tagRd u .nil]) r := by
  rw [X_82, str_by, e, rTags_enc u r (fun x hx => (hu.2.2 x hx).1)]
 have h3 := ev_rdE 82 h
 rw [h2] at h3
 exact ⟨ev_hd h3, ev_tl h3, ob_pre1' h ⟨u, r, by rw [e], hu⟩⟩
theorem rd_len {x : Bool} {N : Nat} {q : List UInt8} {s : DE} {δ : List D} (hN : N <= Most) (hq : N <= q.length) (hs : SrcIs s δ (counted x false N 4 ++ q)) :
  (hdE (lenE x s)).eval X δ = .int (N : Nat) /\ (tlE (lenE x s)).eval X δ = .bytes q /\ (Ob.pre (if x then 81 else 80) [s]).holds X side δ := by
 have h := hs.get (counted_pos x false N 4 (by omega))
 have hm : N <= 32767 := hN
 unfold lenE
 cases x
 ·have e : counted false false N 4 = Fixed (N : Nat) 4 := rfl
  rw [e] at h
  have h3 := ev_rdE 80 h
  have h2 : X 80 [.bytes (Fixed (N : Nat) 4 ++ q)] = rowR (.int (N : Nat)) q := by rw [X_80, str_by, rI32, wrap_len32 hN]
  rw [h2] at h3
  exact ⟨ev_hd h3, ev_tl h3, ob_pre1' h ⟨N, q, rfl, by omega, by omega, by omega⟩⟩
 ·have e : counted true false N 4 = Uvarint (N + 1) := rfl
  rw [e] at h
  have h3 := ev_rdE 81 h
  have h2 : X 81 [.bytes (Uvarint (N + 1) ++ q)] = rowR (.int (N : Nat)) q := by
   rw [X_81, str_by, rUv_Uvarint]
   congr 2; simp only []; omega
  rw [h2] at h3
  exact ⟨ev_hd h3, ev_tl h3, ob_pre1' h ⟨N + 1, q, rfl, by omega, by omega⟩⟩
theorem bcL_len (tg : Bool) (v : Int) (x : Bool) : ∀ (l : List Fl) (i : Nat) (t : T), (bcL tg v x l i t).length = wdL tg l
 | [], _, _ => rfl
 | f :: r, i, t => by
  rw [bcL, wdL, List.length_append, bcL_len tg v x r]
  congr 1
  split
  ·exact dF_len _ _ _
  ·exact dfF_len _ _
theorem env4 (δ : List D) (a b c d : D) : (DE.v δ.length).eval X (δ ++ (a :: b :: [c, d])) = a /\ (DE.v (δ.length + 2)).eval X (δ ++ (a :: b :: [c, d])) = c /\ (DE.v (δ.length + 3)).eval X (δ ++ (a :: b :: [c, d])) = d := by
 refine ⟨?_, ?_, ?_⟩ <;> simp [DE.eval, List.getD_eq_getElem?_getD, List.getElem?_append_right]
mutual
theorem rd_F {tg x : Bool} {v : Int} (hx : x = true -> tg = true) : ∀ (f : Fl) (lv : Nat) (δ : List D) (s : DE) (t : T) (r : List UInt8), plainF f = true -> smallF tg f = true -> rkF v x f = true -> lv = δ.length -> wfT t = true -> okF false v f t ->
  SrcIs s δ (field f v x t ++ r) ->
  (((valE f.kind (rdF tg v x lv f s).1).eval X δ).cells = dF tg f (backF v x f t) /\ evals X (cellR f (rdF tg v x lv f s).1) δ = dF tg f (backF v x f t) /\ (rdF tg v x lv f s).2.eval X δ = .bytes r) /\
  ∀ el : Option (DE × DE × Nat), (∀ a i off, el = some (a, i, off) -> (f.kind = 11 -> (nilO a i off).holds X side δ) /\ (Ob.idx i a true).holds X side δ) -> obsHold X side (roF tg v x lv f s el) δ
 | .mk k fr to nl g df of sub, lv, δ, s, t, r, hp, hsm, hk, hlv, hw, hok, hs => by
  obtain ⟨_, _, hp11, hps⟩ := plainF_mk hp
  simp only [smallF, Bool.and_eq_true, decide_eq_true_eq] at hsm
  rw [field_eq] at hs
  simp only [Fl.kind, Fl.null, Fl.of, Fl.sub] at hs ⊢
  rw [rkF] at hk
  by_cases h : k = 11
  ·subst h
   rw [okF, if_pos rfl] at hok
   obtain ⟨hN, _, hel⟩ := hok
   simp only [if_true, Bool.and_eq_true, Bool.or_eq_true, decide_eq_true_eq] at hk
   obtain ⟨hnl, hkk⟩ := hk
   have hof : of = 10 ∨ leafK of = true := hkk.elim .inr (fun h => .inl h.1.1)
   have hnull : Mx.null (.mk 11 fr to nl g df of sub) v t = false := by
    unfold Mx.null
    simp [Fl.null, show ¬ 0 <= nl by omega]
   rw [hnull] at hs
   unfold fieldB at hs
   rw [if_pos rfl, if_neg (by decide : ¬ (false = true)), List.take_of_length_le hN, List.append_assoc] at hs
   generalize hwd : (fun y : T => valueB of false x y (partS sub v x y)) = w at hs
   have hwy : ∀ y, w y = valueB of false x y (partS sub v x y) := fun y => by rw [<- hwd]
   have hw10 : of = 10 -> ∀ y, w y = partS sub v x y := fun h10 y => by rw [hwy, h10]; rfl
   have hpos : ∀ y ∈ t.L, 0 < (w y).length := fun y hy => by
    by_cases h10 : of = 10
    ·rw [hw10 h10]
     have hkk' := hkk.resolve_left (by rw [h10]; decide)
     exact part_pos hps hkk'.1.2 (by rw [Bool.or_eq_true]; exact hkk'.2) (okS_tags ((hel y hy).2 h10))
    ·rw [hwy]; exact valueB_pos _ _ _ _ _ h10
   have hge : t.L.length <= ((t.L.map w).flatten ++ r).length := by
    have := flat_ge w t.L hpos
    rw [List.length_append]; omega
   obtain ⟨e1, e2, e3⟩ := rd_len hN hge hs
   have hNm : t.L.length <= 32767 := hN
   generalize hb : bodyR v x lv of (rdS tg v x (lv + 4) sub (.v lv) (dfE tg (sub.getD []) (.v lv) 0 (.v (lv + 2))) (.v (lv + 3))) = b
   generalize hbo : bodyO v x lv of (roS tg v x (lv + 4) sub (.v lv) (dfE tg (sub.getD []) (.v lv) 0 (.v (lv + 2))) (.v (lv + 3)) ++ (dfO tg (sub.getD []) (.v lv) 0 (.v (lv + 2)) ++ [.idx (.v lv) (.v (lv + 2)) true])) = bo
   generalize hgd : gEl tg v x of sub = gd
   generalize hz : zEl tg of sub = z
   have h0 : evals X [iniE (hdE (lenE x s)) z, tlE (lenE x s)] δ = [if t.L.length = 0 then .nil else .list ((t.L.take 0).map gd ++ List.replicate (t.L.length - 0) z), .bytes (((t.L.drop 0).map w).flatten ++ r)] := by
    rw [evs_cons, evs_cons, evs_nil, e2, iniE, ev_f, evs_cons, evs_cons, evs_cons, evs_nil, ev_f, evs_cons, evs_cons, evs_nil, e1, ev_k, ev_k, ev_f, evs_cons, evs_cons, evs_nil, ev_k, ev_f, evs_cons, evs_cons, evs_nil, e1, ev_k, fe_ltI, fe_app]
    simp only [List.take_zero, List.map_nil, List.nil_append, Nat.sub_zero, List.drop_zero]
    congr 1
    by_cases hn0 : t.L.length = 0
    ·rw [if_pos hn0, hn0]; rfl
    ·rw [if_neg hn0]
     have : decide ((0 : Int) < (t.L.length : Nat)) = true := by simp only [decide_eq_true_eq]; omega
     rw [this, ite_t]
     show D.appd .nil (.list (List.replicate ((t.L.length : Nat) : Int).toNat z)) = _
     rw [Int.toNat_natCast]
     cases hq : t.L.length with
     | zero => exact absurd hq hn0
     | succ m => rfl
   have hst : ∀ kk : Nat, kk < t.L.length ->
     evals X [b.1, b.2] (δ ++ (.int kk :: .int kk :: [if t.L.length = 0 then .nil else .list ((t.L.take kk).map gd ++ List.replicate (t.L.length - kk) z), .bytes (((t.L.drop kk).map w).flatten ++ r)])) =
      [if t.L.length = 0 then .nil else .list ((t.L.take (kk + 1)).map gd ++ List.replicate (t.L.length - (kk + 1)) z), .bytes (((t.L.drop (kk + 1)).map w).flatten ++ r)] /\
     obsHold X side bo (δ ++ (.int kk :: .int kk :: [if t.L.length = 0 then .nil else .list ((t.L.take kk).map gd ++ List.replicate (t.L.length - kk) z), .bytes (((t.L.drop kk).map w).flatten ++ r)])) := fun kk hkl => by
    have hn0 : ¬ t.L.length = 0 := by omega
    obtain ⟨y, hy⟩ : ∃ y, t.L[kk]? = some y := ⟨t.L[kk], List.getElem?_eq_getElem hkl⟩
    have hym := List.mem_of_getElem? hy
    obtain ⟨o1, o2⟩ := hel y hym
    have hdr : t.L.drop kk = y :: t.L.drop (kk + 1) := by
     rw [List.drop_eq_getElem_cons hkl]
     congr 1
     have := List.getElem?_eq_getElem hkl
     rw [hy] at this
     exact (Option.some.inj this).symm
    have htk : (t.L.take (kk + 1)).map gd = (t.L.take kk).map gd ++ [gd y] := by rw [take_snoc hy, List.map_append]; rfl
    have hrep : List.replicate (t.L.length - kk) z = z :: List.replicate (t.L.length - (kk + 1)) z := by
     rw [show t.L.length - kk = (t.L.length - (kk + 1)) + 1 by omega, List.replicate_succ]
    have hlen : ((t.L.take kk).map gd).length = kk := by rw [List.length_map, List.length_take]; omega
    rw [if_neg hn0, if_neg hn0, hrep, htk, hdr, List.map_cons, List.flatten_cons, List.append_assoc]
    have hlist : ((t.L.take kk).map gd ++ z :: List.replicate (t.L.length - (kk + 1)) z).set kk (gd y) = ((t.L.take kk).map gd ++ [gd y]) ++ List.replicate (t.L.length - (kk + 1)) z := by
     rw [set_mid _ _ _ _ _ hlen.symm, List.append_assoc]; rfl
    have hself : ((t.L.take kk).map gd ++ z :: List.replicate (t.L.length - (kk + 1)) z).set kk z = (t.L.take kk).map gd ++ z :: List.replicate (t.L.length - (kk + 1)) z := set_mid _ _ _ _ _ hlen.symm
    have hkl2 : kk < ((t.L.take kk).map gd ++ z :: List.replicate (t.L.length - (kk + 1)) z).length := by simp only [List.length_append, List.length_cons]; omega
    generalize hlq : (t.L.take kk).map gd ++ z :: List.replicate (t.L.length - (kk + 1)) z = lq at hlist hself hkl2 ⊢
    obtain ⟨v0, v2, v3⟩ := env4 δ (.int kk) (.int kk) (.list lq) (.bytes (w y ++ (((t.L.drop (kk + 1)).map w).flatten ++ r)))
    rw [<- hlv] at v0 v2 v3
    have hl4 : lv + 4 = (δ ++ (D.int kk :: D.int kk :: [D.list lq, .bytes (w y ++ (((t.L.drop (kk + 1)).map w).flatten ++ r))])).length := by simp [hlv]
    generalize hδ : δ ++ (D.int kk :: D.int kk :: [D.list lq, .bytes (w y ++ (((t.L.drop (kk + 1)).map w).flatten ++ r))]) = δ1 at v0 v2 v3 hl4 ⊢
    by_cases h10 : of = 10
    ·have hkk' := hkk.resolve_left (by rw [h10]; decide)
     have hzz : z = .row (zS tg sub) := by rw [<- hz, h10]; rfl
     have hgy : gd y = .row (dS tg sub (backS v x sub y)) := by rw [<- hgd, gEl, if_pos h10]
     have hEl0 : El (.v (lv + 2)) (.v lv) δ1 lq kk ([] ++ zL tg (sub.getD []) ++ (if tg then [.nil] else [])) := by
      refine ⟨?_, v0, hkl2⟩
      rw [v2]
      have : zS tg sub = [] ++ zL tg (sub.getD []) ++ (if tg then [.nil] else []) := by cases sub <;> rfl
      rw [<- this, <- hzz, hself]
     obtain ⟨hEl1, hdo⟩ := ev_dfE tg (sub.getD []) (.v (lv + 2)) (.v lv) 0 [] _ lq kk hEl0 rfl
     obtain ⟨⟨k1, k2⟩, k3⟩ := rd_S hx sub (lv + 4) δ1 _ (.v lv) (.v (lv + 3)) y (((t.L.drop (kk + 1)).map w).flatten ++ r) lq kk hps hsm.2 hkk'.1.2 hl4 (wfT_L hw y hym) (o2 h10) hEl1 (by rw [<- hw10 h10]; exact SrcIs.of v3)
     refine ⟨?_, ?_⟩
     ·rw [<- hb, bodyR, if_pos h10, evs_cons, evs_cons, evs_nil, k1.1, k2.ex (by rw [<- hw10 h10]; exact hpos y hym), <- hgy, hlist]
     ·rw [<- hbo, bodyO, if_pos h10]
      exact obs_app k3 (obs_app hdo (obs_one hEl0.idx))
    ·have hlf := hof.resolve_left h10
     have hgy : gd y = valD of (-1) y := by rw [<- hgd, gEl, if_neg h10]
     have hix : (Ob.idx (.v lv) (.v (lv + 2)) true).holds X side δ1 := by
      simp only [Ob.holds, v0, v2, int_i, D.len]
      refine ⟨by omega, ?_⟩
      simp only [if_true]; omega
     obtain ⟨k1, k2, k3⟩ := ev_leaf (v := v) (x := x) (p := partS sub v x y) (nl := -1) hlf (by simp [textN]) o1 (wfT_L hw y hym) (b := false) (by simp) (s := .v (lv + 3)) (δ := δ1) (by rw [<- hwy]; exact SrcIs.of v3)
     refine ⟨?_, ?_⟩
     ·rw [<- hb, bodyR, if_neg h10, evs_cons, evs_cons, evs_nil, k2, ev_f, evs_cons, evs_cons, evs_cons, evs_nil, v0, v2, ev_valE hlf k1, <- hgy]
      show [D.list (lq.set ((kk : Int).toNat) (gd y)), _] = _
      rw [Int.toNat_natCast, hlist]
     ·rw [<- hbo, bodyO, if_neg h10]
      exact ⟨hix, hix, k3, trivial⟩
   have hN2 : ∀ jj, (DE.fold lv (.f .iota [hdE (lenE x s)]) [iniE (hdE (lenE x s)) z, tlE (lenE x s)] [b.1, b.2] jj).eval X δ = [if t.L.length = 0 then .nil else .list (t.L.map gd), .bytes r].getD jj .nil := fun jj => by
    rw [iota_ev hlv e1 (st := fun kk => [if t.L.length = 0 then .nil else .list ((t.L.take kk).map gd ++ List.replicate (t.L.length - kk) z), .bytes (((t.L.drop kk).map w).flatten ++ r)]) h0 (fun kk hkl => (hst kk hkl).1)]
    simp only [List.take_length, List.drop_length, Nat.sub_self, List.replicate_zero, List.append_nil, List.map_nil, List.flatten_nil, List.nil_append]
   have hdat : dF tg (.mk 11 fr to nl g df of sub) (backF v x (.mk 11 fr to nl g df of sub) t) = [if t.L.length = 0 then .nil else .list (t.L.map gd)] := by
    rw [backF, if_pos rfl, dF, if_pos rfl]
    show [if (t.L.length == 0) = true then D.nil else .list ((t.L.map fun y => if of = 10 then backS v x sub y else y).map fun y => elD of (dV of (-1) y (dS tg sub y)) y)] = _
    rw [List.map_map]
    congr 1
    have : ((fun y => elD of (dV of (-1) y (dS tg sub y)) y) ∘ fun y => if of = 10 then backS v x sub y else y) = gd := by
     funext y
     rw [<- hgd]
     exact elD_back hof y
    rw [this]
    by_cases hn0 : t.L.length = 0
    ·rw [if_pos hn0, if_pos (by simpa using hn0)]
    ·rw [if_neg hn0, if_neg (by simpa using hn0)]
   refine ⟨?_, fun el hE => ?_⟩
   ·rw [rdF, if_pos rfl]
    simp only [hb, hz]
    refine ⟨?_, ?_, hN2 1⟩
    ·rw [valE, if_neg (by decide), hN2 0, hdat]
     show (if t.L.length = 0 then D.nil else D.list (t.L.map gd)).cells = _
     split <;> rfl
    ·rw [cellR, if_neg (by decide), evs_cons, evs_nil, hN2 0, hdat]; rfl
   ·rw [roF, if_pos rfl]
    simp only [hb, hz, hbo]
    refine obs_cons (iota_all e1 h0 (fun kk hkl => (hst kk hkl).1) (fun kk hkl => (hst kk hkl).2)) (obs_cons ?_ ?_)
    ·simp only [Ob.holds]
     intro _
     refine obs_one ?_
     simp only [Ob.holds]
     rw [e1]
     simp only [int_i, Int.toNat_natCast]
     exact ⟨Int.natCast_nonneg _, Nat.le_trans (Nat.mul_le_mul hNm hsm.1) (by simp [LIM]), Nat.le_trans hNm (by decide)⟩
    ·cases el with
     | none => exact obs_one e3
     | some q =>
      obtain ⟨a, i, off⟩ := q
      obtain ⟨q1, q2⟩ := hE a i off rfl
      exact ⟨q1 rfl, e3, q2, trivial⟩
  ·rw [if_neg h] at hk
   simp only [Bool.and_eq_true] at hk
   rw [okF, if_neg h] at hok
   have h10 : k ≠ 10 := by rintro rfl; cases hk.1
   unfold fieldB at hs
   rw [if_neg h, if_neg (fun e => h10 e.1)] at hs
   obtain ⟨k1, k2, k3⟩ := ev_leaf hk.1 hk.2 hok.1 hw rfl hs
   have hd : dF tg (.mk k fr to nl g df of sub) (backF v x (.mk k fr to nl g df of sub) t) = dV k nl t [] := by
    rw [backF, if_neg h, dF, if_neg h, dV_leaf hk.1]
   refine ⟨?_, fun el hE => ?_⟩
   ·rw [rdF, if_neg h]
    refine ⟨?_, ?_, k2⟩
    ·rw [ev_valE hk.1 k1, cells_valD hk.1, hd]
    ·rw [hd, cellR]
     by_cases h7 : k = 7
     ·subst h7
      rw [if_pos rfl]
      have := gets_all (r := hdE (rdE (rdN 7 nl v x) s)) (δ := δ) (l := u16D t.S) (by rw [k1]; rfl)
      rw [u16_len] at this
      rw [this]; rfl
     ·rw [if_neg h7, evs_cons, evs_nil, k1, (row_dV hk.1 h7).1]
   ·rw [roF, if_neg h]
    exact obs_one k3
theorem rd_S {tg x : Bool} {v : Int} (hx : x = true -> tg = true) : ∀ (fs : Option (List Fl)) (lv : Nat) (δ : List D) (a ie s : DE) (t : T) (r : List UInt8) (l0 : List D) (n : Nat), plainS fs = true -> smallS tg fs = true -> rkS v x fs = true -> lv = δ.length -> wfT t = true -> okS false v fs t ->
  El a ie δ l0 n (dfL tg (fs.getD []) ++ (if tg then [.nil] else [])) -> SrcIs s δ (partS fs v x t ++ r) ->
  (El (rdS tg v x lv fs ie a s).1 ie δ l0 n (dS tg fs (backS v x fs t)) /\ Left s δ (partS fs v x t) r (rdS tg v x lv fs ie a s).2) /\ obsHold X side (roS tg v x lv fs ie a s) δ
 | none, lv, δ, a, ie, s, t, r, l0, n, hp, hsm, hk, hlv, hw, hok, he, hs => by
  have hok' : okTags t.U := hok
  rw [partS_plain hp hok'] at hs ⊢
  rw [rdS, roS, dS_back tg v x none t hk]
  cases hxx : x with
  | false =>
   subst hxx
   simp only [Bool.false_eq_true, if_false]
   exact ⟨⟨he, .inr ⟨rfl, rfl⟩⟩, trivial⟩
  | true =>
   have htg := hx hxx
   subst hxx; subst htg
   simp only [if_true] at hs he ⊢
   obtain ⟨k1, k2, k3⟩ := rd_tags hok' hs
   have he' : El a ie δ l0 n ([] ++ [.nil] ++ []) := he
   have h1 := he'.set (x := hdE (rdE 82 s)) (xs := [tagRd t.U .nil]) (by rw [k1]; rfl) rfl
   exact ⟨⟨h1, .inl k2⟩, ⟨he.idx, k3, trivial⟩⟩
 | some l, lv, δ, a, ie, s, t, r, l0, n, hp, hsm, hk, hlv, hw, hok, he, hs => by
  have hok' : okTags t.U := hok.1
  rw [partS_plain hp hok'] at hs ⊢
  have he0 : El a ie δ l0 n ([] ++ dfL tg l ++ (if tg then [.nil] else [])) := he
  rw [rdS, roS, dS_back tg v x (some l) t hk]
  have ho : outP ((some l).getD []) v x t = outL v x l 0 t := rfl
  rw [ho] at hs ⊢
  cases hxx : x with
  | false =>
   subst hxx
   simp only [Bool.false_eq_true, if_false] at hs ⊢
   obtain ⟨⟨k1, k2⟩, k3⟩ := rd_L hx l lv δ a ie s 0 0 t r [] _ l0 n hp hsm hk hlv hw hok.2 he0 rfl hs
   exact ⟨⟨k1, k2⟩, k3⟩
  | true =>
   have htg := hx hxx
   subst hxx; subst htg
   simp only [if_true] at hs he0 ⊢
   rw [List.append_assoc] at hs
   obtain ⟨⟨k1, k2⟩, k3⟩ := rd_L hx l lv δ a ie s 0 0 t (tagsW t.U ++ r) [] _ l0 n hp hsm hk hlv hw hok.2 he0 rfl hs
   obtain ⟨q1, q2, q3⟩ := rd_tags hok' (k2.src hs)
   have he' : El (rdL true v true lv l ie 0 a s).1 ie δ l0 n (bcL true v true l 0 t ++ [.nil] ++ []) := by
    rw [List.append_nil]; exact k1
   have h1 := he'.set (x := hdE (rdE 82 (rdL true v true lv l ie 0 a s).2)) (xs := [tagRd t.U .nil]) (by rw [q1]; rfl) rfl
   have hbl : (bcL true v true l 0 t).length = wdL true l := bcL_len true v true l 0 t
   rw [hbl, List.append_nil] at h1
   exact ⟨⟨h1, .inl q2⟩, ⟨k1.idx, q3, k3⟩⟩
theorem rd_L {tg x : Bool} {v : Int} (hx : x = true -> tg = true) : ∀ (l : List Fl) (lv : Nat) (δ : List D) (a ie s : DE) (off j : Nat) (t : T) (r : List UInt8) (pre post l0 : List D) (n : Nat), plainL l = true -> smallL tg l = true -> rkL v x l = true -> lv = δ.length -> wfT t = true -> okL false v l j t ->
  El a ie δ l0 n (pre ++ dfL tg l ++ post) -> off = pre.length -> SrcIs s δ (outL v x l j t ++ r) ->
  (El (rdL tg v x lv l ie off a s).1 ie δ l0 n (pre ++ bcL tg v x l j t ++ post) /\ Left s δ (outL v x l j t) r (rdL tg v x lv l ie off a s).2) /\ obsHold X side (roL tg v x lv l ie off a s) δ
 | [], lv, δ, a, ie, s, off, j, t, r, pre, post, l0, n, hp, hsm, hk, hlv, hw, hok, he, ho, hs => ⟨⟨he, .inr ⟨rfl, rfl⟩⟩, trivial⟩
 | f :: q, lv, δ, a, ie, s, off, j, t, r, pre, post, l0, n, hp, hsm, hk, hlv, hw, hok, he, ho, hs => by
  subst ho
  simp only [plainL, Bool.and_eq_true] at hp
  simp only [smallL, Bool.and_eq_true] at hsm
  simp only [rkL, Bool.and_eq_true, Bool.or_eq_true, decide_eq_true_eq] at hk
  rw [okL] at hok
  rw [dfL, <- List.append_assoc] at he
  have he' : El a ie δ l0 n (pre ++ dfF tg f ++ (dfL tg q ++ post)) := by rw [<- List.append_assoc]; exact he
  rw [outL_cons] at hs ⊢
  rw [rdL, roL, bcL]
  by_cases ht : there f v = true
  ·have ht' := there_iff.1 ht
   rw [if_pos ht, List.append_assoc] at hs
   rw [if_pos ht', if_pos ht', if_pos ht, if_pos ht]
   have hkf : rkF v x f = true := by
    rcases hk.1.2 with h | h
    ·rw [ht] at h; cases h
    ·exact h
   obtain ⟨⟨k1, k2, k3⟩, k4⟩ := rd_F hx f lv δ s (at' t j) (outL v x q (j + 1) t ++ r) hp.1 hsm.1 hkf hlv (wfT_at hw j) (hok.1 (.inr ht')) hs
   have hl : (dF tg f (backF v x f (at' t j))).length = (dfF tg f).length := by rw [dF_len, dfF_len]
   have h1 := he'.set k1 hl
   have h1' : El (.f (.setCells pre.length) [a, ie, valE f.kind (rdF tg v x lv f s).1]) ie δ l0 n ((pre ++ dF tg f (backF v x f (at' t j))) ++ dfL tg q ++ post) := by
    rw [List.append_assoc _ (dfL tg q) post]; exact h1
   obtain ⟨⟨q1, q2⟩, q3⟩ := rd_L hx q lv δ _ ie (rdF tg v x lv f s).2 (pre.length + wdF tg f) (j + 1) t r (pre ++ dF tg f (backF v x f (at' t j))) post l0 n hp.2 hsm.2 hk.2 hlv hw hok.2 h1' (by rw [List.length_append, dF_len]) (SrcIs.of k3)
   refine ⟨⟨?_, .inl ?_⟩, obs_app q3 (obs_cons he.idx (k4 _ (fun a' i' off' e => ?_)))⟩
   ·rw [<- List.append_assoc pre]; exact q1
   ·rcases q2 with h | ⟨h2, h3⟩
    ·exact h
    ·rw [h2, k3, h3]; rfl
   ·cases e
    refine ⟨fun h11 => ?_, he.idx⟩
    have hd : dfF tg f = [.nil] := by
     cases f with
     | mk k fr to nl g df of sub =>
      have h11' : k = 11 := h11
      rw [dfF, if_pos h11']
    rw [hd] at he'
    exact he'.isNil
  ·have ht' : ¬ (f.tag < 0 /\ has f v = true) := fun e => ht (there_iff.2 e)
   rw [if_neg ht, List.nil_append] at hs
   rw [if_neg ht', if_neg ht', if_neg ht, if_neg ht, List.nil_append]
   obtain ⟨⟨q1, q2⟩, q3⟩ := rd_L hx q lv δ a ie s (pre.length + wdF tg f) (j + 1) t r (pre ++ dfF tg f) post l0 n hp.2 hsm.2 hk.2 hlv hw hok.2 he (by rw [List.length_append, dfF_len]) hs
   exact ⟨⟨by rw [<- List.append_assoc pre]; exact q1, q2⟩, q3⟩
end
end Go.Mx
namespace Go.Mx
open Go Go.Dx
theorem evals_k (l : List D) (δ : List D) : evals X (l.map .k) δ = l := by
 rw [evals_map]
 conv => rhs; rw [<- List.map_id l]
 apply List.map_congr_left
 intro d _
 rw [ev_k]; rfl
theorem rd_T {tg x : Bool} {v : Int} (hx : x = true -> tg = true) : ∀ (l : List Fl) (lv : Nat) (δ : List D) (s : DE) (j : Nat) (t : T) (r : List UInt8), plainL l = true -> smallL tg l = true -> rkL v x l = true -> lv = δ.length -> wfT t = true -> okL false v l j t ->
  SrcIs s δ (outL v x l j t ++ r) -> evals X (rdT tg v x lv l s).1 δ = bcL tg v x l j t /\ Left s δ (outL v x l j t) r (rdT tg v x lv l s).2 /\ obsHold X side (roT tg v x lv l s) δ
 | [], lv, δ, s, j, t, r, hp, hsm, hk, hlv, hw, hok, hs => ⟨rfl, .inr ⟨rfl, rfl⟩, trivial⟩
 | f :: q, lv, δ, s, j, t, r, hp, hsm, hk, hlv, hw, hok, hs => by
  simp only [plainL, Bool.and_eq_true] at hp
  simp only [smallL, Bool.and_eq_true] at hsm
  simp only [rkL, Bool.and_eq_true, Bool.or_eq_true, decide_eq_true_eq] at hk
  rw [okL] at hok
  rw [outL_cons] at hs ⊢
  rw [rdT, roT, bcL]
  by_cases ht : there f v = true
  ·have ht' := there_iff.1 ht
   rw [if_pos ht, List.append_assoc] at hs
   rw [if_pos ht', if_pos ht', if_pos ht, if_pos ht]
   have hkf : rkF v x f = true := by
    rcases hk.1.2 with h | h
    ·rw [ht] at h; cases h
    ·exact h
   obtain ⟨⟨_, k2, k3⟩, k4⟩ := rd_F hx f lv δ s (at' t j) (outL v x q (j + 1) t ++ r) hp.1 hsm.1 hkf hlv (wfT_at hw j) (hok.1 (.inr ht')) hs
   obtain ⟨q1, q2, q3⟩ := rd_T hx q lv δ (rdF tg v x lv f s).2 (j + 1) t r hp.2 hsm.2 hk.2 hlv hw hok.2 (SrcIs.of k3)
   refine ⟨by rw [evals_app, k2, q1], .inl ?_, obs_app q3 (k4 none (fun _ _ _ e => by cases e))⟩
   rcases q2 with h | ⟨h2, h3⟩
   ·exact h
   ·rw [h2, k3, h3]; rfl
  ·have ht' : ¬ (f.tag < 0 /\ has f v = true) := fun e => ht (there_iff.2 e)
   rw [if_neg ht, List.nil_append] at hs
   rw [if_neg ht', if_neg ht', if_neg ht, if_neg ht, List.nil_append]
   obtain ⟨q1, q2, q3⟩ := rd_T hx q lv δ s (j + 1) t r hp.2 hsm.2 hk.2 hlv hw hok.2 hs
   exact ⟨by rw [evals_app, evals_k, q1], q2, q3⟩
theorem rd_M {tg x : Bool} {v : Int} (hx : x = true -> tg = true) (fs : Option (List Fl)) (δ : List D) (s : DE) (t : T) (r : List UInt8) (hp : plainS fs = true) (hsm : smallS tg fs = true) (hk : rkS v x fs = true) (hw : wfT t = true) (hok : okS false v fs t)
  (hs : SrcIs s δ (partS fs v x t ++ r)) : evals X (rdM tg v x δ.length fs s) δ = dS tg fs (backS v x fs t) /\ obsHold X side (roM tg v x δ.length fs s) δ := by
 have hu := okS_tags hok
 rw [partS_plain hp hu] at hs
 have hpl : plainL (fs.getD []) = true := by cases fs; rfl; exact hp
 have hsl : smallL tg (fs.getD []) = true := by cases fs; rfl; exact hsm
 have hkl : rkL v x (fs.getD []) = true := by cases fs; rfl; exact hk
 have hol : okL false v (fs.getD []) 0 t := by cases fs; trivial; exact hok.2
 have ho : outP (fs.getD []) v x t = outL v x (fs.getD []) 0 t := rfl
 rw [ho] at hs
 rw [dS_back tg v x fs t hk]
 unfold rdM roM
 cases hxx : x with
 | false =>
  subst hxx
  simp only [Bool.false_eq_true, if_false] at hs ⊢
  obtain ⟨q1, q2, q3⟩ := rd_T hx (fs.getD []) δ.length δ s 0 t r hpl hsl hkl rfl hw hol hs
  refine ⟨?_, q3⟩
  rw [evals_app]
  congr 1
  cases tg <;> rfl
 | true =>
  have htg := hx hxx
  subst hxx; subst htg
  simp only [if_true] at hs ⊢
  rw [List.append_assoc] at hs
  obtain ⟨q1, q2, q3⟩ := rd_T hx (fs.getD []) δ.length δ s 0 t (tagsW t.U ++ r) hpl hsl hkl rfl hw hol hs
  obtain ⟨k1, k2, k3⟩ := rd_tags hu (q2.src hs)
  refine ⟨?_, k3, q3⟩
  rw [evals_app, q1]
  congr 1
  rw [evs_cons, evs_nil, ev_f, evs_cons, evs_nil, k1]; rfl
theorem okTags_back (x : Bool) {u : List Tg} (h : okTags u) : okTags ((backU x u).getD []) := by
 unfold backU
 cases x
 ·exact ⟨List.Pairwise.nil, Nat.zero_le _, fun y hy => by cases hy⟩
 ·obtain ⟨h1, h2, h3⟩ := h
  refine ⟨List.pairwise_map.2 h1, by simpa using h2, fun y hy => ?_⟩
  obtain ⟨z, hz, rfl⟩ := List.mem_map.1 hy
  exact h3 z hz
theorem tagsW_back {u : List Tg} : tagsW ((backU true u).getD []) = tagsW u := by
 unfold backU tagsW
 rw [if_pos rfl, Option.getD_some, List.length_map, List.map_map]
 rfl
mutual
theorem field_back (v : Int) (x : Bool) : ∀ (f : Fl) (t : T), rkF v x f = true -> plainF f = true -> okF false v f t -> field f v x (backF v x f t) = field f v x t /\ okF false v f (backF v x f t)
 | .mk k fr to nl g df of sub, t, hk, hp, hok => by
  obtain ⟨_, _, _, hps⟩ := plainF_mk hp
  rw [backF]
  by_cases h : k = 11
  ·subst h
   rw [if_pos rfl]
   rw [rkF] at hk
   simp only [if_true, Bool.and_eq_true, Bool.or_eq_true, decide_eq_true_eq] at hk
   obtain ⟨hnl, hkk⟩ := hk
   rw [okF, if_pos rfl] at hok ⊢
   obtain ⟨hN, _, hel⟩ := hok
   have hnull : ∀ y, Mx.null (.mk 11 fr to nl g df of sub) v y = false := fun y => by
    unfold Mx.null
    simp [Fl.null, show ¬ 0 <= nl by omega]
   refine ⟨?_, ?_⟩
   ·rw [field_eq, field_eq, hnull, hnull]
    simp only [Fl.kind, Fl.null, Fl.of, Fl.sub]
    unfold fieldB
    rw [if_pos rfl, if_pos rfl, if_neg (by decide : ¬ (false = true))]
    have e : T.L (.mk 0 none (t.L.length == 0) (some (t.L.map fun y => if of = 10 then backS v x sub y else y)) none) = t.L.map fun y => if of = 10 then backS v x sub y else y := rfl
    rw [e, if_neg (by decide : ¬ (false = true)), List.take_of_length_le hN, List.take_of_length_le (by rw [List.length_map]; exact hN)]
    show counted x false (t.L.map fun y => if of = 10 then backS v x sub y else y).length 4 ++ ((t.L.map fun y => if of = 10 then backS v x sub y else y).map fun y => valueB of false x y (partS sub v x y)).flatten = counted x false t.L.length 4 ++ (t.L.map fun y => valueB of false x y (partS sub v x y)).flatten
    rw [List.length_map, List.map_map]
    congr 2
    apply List.map_congr_left
    intro y hy
    show valueB of false x (if of = 10 then backS v x sub y else y) (partS sub v x (if of = 10 then backS v x sub y else y)) = valueB of false x y (partS sub v x y)
    by_cases h10 : of = 10
    ·rw [if_pos h10, h10]
     have hkk' := hkk.resolve_left (by rw [h10]; decide)
     exact (part_back v x sub y hkk'.1.2 hps ((hel y hy).2 h10)).1
    ·rw [if_neg h10]
   ·refine ⟨by show (t.L.map _).length <= Most; rw [List.length_map]; exact hN, fun hn => .inr ⟨rfl, ?_⟩, fun y hy => ?_⟩
    ·have : t.L.length = 0 := by simpa using (show (t.L.length == 0) = true from hn)
     show t.L.map _ = []
     rw [List.length_eq_zero_iff.1 this]; rfl
    ·obtain ⟨z, hz, rfl⟩ := List.mem_map.1 (show y ∈ t.L.map _ from hy)
     obtain ⟨o1, o2⟩ := hel z hz
     by_cases h10 : of = 10
     ·have hkk' := hkk.resolve_left (by rw [h10]; decide)
      refine ⟨fun h89 => by omega, fun _ => ?_⟩
      rw [if_pos h10]
      exact (part_back v x sub z hkk'.1.2 hps (o2 h10)).2
     ·rw [if_neg h10]
      exact ⟨o1, fun e => absurd e h10⟩
  ·rw [if_neg h]
   exact ⟨rfl, hok⟩
theorem part_back (v : Int) (x : Bool) : ∀ (fs : Option (List Fl)) (t : T), rkS v x fs = true -> plainS fs = true -> okS false v fs t -> partS fs v x (backS v x fs t) = partS fs v x t /\ okS false v fs (backS v x fs t)
 | none, t, hk, hp, hok => by
  have hu := okTags_back x (show okTags t.U from hok)
  have hu' : okTags (backS v x none t).U := hu
  refine ⟨?_, hu'⟩
  rw [partS_plain hp hu', partS_plain hp (show okTags t.U from hok)]
  cases x
  ·rfl
  ·rw [if_pos rfl, if_pos rfl]
   have : tagsW (backS v true none t).U = tagsW t.U := tagsW_back
   rw [this]; rfl
 | some l, t, hk, hp, hok => by
  have hu := okTags_back x (show okTags t.U from hok.1)
  have hu' : okTags (backS v x (some l) t).U := hu
  have h1 := outL_back v x l [] t 0 none false (backU x t.U) hk hp hok.2
  refine ⟨?_, hu', h1.2⟩
  rw [partS_plain hp hu', partS_plain hp hok.1]
  have e : outP ((some l).getD []) v x (backS v x (some l) t) = outP ((some l).getD []) v x t := h1.1
  rw [e]
  cases x
  ·rfl
  ·rw [if_pos rfl, if_pos rfl]
   have : tagsW (backS v true (some l) t).U = tagsW t.U := tagsW_back
   rw [this]
theorem outL_back (v : Int) (x : Bool) : ∀ (l : List Fl) (P : List T) (t : T) (n : Int) (s : Option (List UInt8)) (b : Bool) (u : Option (List Tg)), rkL v x l = true -> plainL l = true -> okL false v l P.length t ->
  outL v x l P.length (.mk n s b (some (P ++ backL v x l P.length t)) u) = outL v x l P.length t /\ okL false v l P.length (.mk n s b (some (P ++ backL v x l P.length t)) u)
 | [], P, t, n, s, b, u, _, _, _ => ⟨rfl, trivial⟩
 | f :: r, P, t, n, s, b, u, h, hp, hok => by
  simp only [rkL, Bool.and_eq_true, Bool.or_eq_true, decide_eq_true_eq] at h
  simp only [plainL, Bool.and_eq_true] at hp
  rw [okL] at hok ⊢
  have ih := outL_back v x r (P ++ [if there f v then backF v x f (at' t P.length) else dfT f]) t n s b u h.2 hp.2 (by rw [List.length_append]; exact hok.2)
  rw [List.length_append, List.length_singleton, List.append_assoc, List.singleton_append] at ih
  rw [outL_cons, outL_cons, backL, at_mk, ih.1]
  have hf : there f v = true -> field f v x (backF v x f (at' t P.length)) = field f v x (at' t P.length) /\ okF false v f (backF v x f (at' t P.length)) := fun ht => by
   refine field_back v x f _ ?_ hp.1 (hok.1 (.inr (there_iff.1 ht)))
   rcases h.1.2 with h | h
   ·rw [ht] at h; cases h
   ·exact h
  refine ⟨?_, fun ha => ?_, ih.2⟩
  ·congr 1
   by_cases ht : there f v = true
   ·rw [if_pos ht, if_pos ht, if_pos ht]; exact (hf ht).1
   ·rw [if_neg ht, if_neg ht]
  ·have ht := there_iff.2 (ha.resolve_left (by decide))
   rw [if_pos ht]; exact (hf ht).2
end
end Go.Mx
