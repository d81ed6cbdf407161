/- Part of a verified symbolic run of the program's code (no condition of its own). -/
import Derived.Test.YtplbaloohebdcaaQ3
import Derived.Laws.Bits64
set_option linter.unusedVariables false
set_option linter.unusedSimpArgs false
namespace Go.Dx
open Go

/-! ## A function, run from its arguments' data -/
/-- the arguments as symbolic values; the variables -/
def startArgs (P : Program) : Nat → List AK → Option (List SV × List (Nat × VI))
  | _, [] => some ([], [])
  | i, .val t :: r =>
    match startArgs P (i + 1) r, P.underlying t with
    | some q, some d => if isScalarD d then some (varSV P i t (.v i) :: q.1, q.2) else some (.x i :: q.1, (i, ⟨.set t, .v i⟩) :: q.2)
    | _, _ => none
  | i, .own t :: r =>
    match startArgs P (i + 1) r with
    | some q => some (.x i :: q.1, (i, ⟨.own t, .v i⟩) :: q.2)
    | none => none
  | _, _ :: _ => none
def startS (n : Nat) (as : List SV) (vs : List (Nat × VI)) (nt : Nat) : St := { env := argEnv 0 as, vars := vs, objs := [], loops := [], obl := [], lvl := n, nx := n, nt := nt }
def owns : List AK → Nat
  | [] => 0
  | .own _ :: r => owns r + 1
  | _ :: r => owns r

/-- a pointer's type, for a new object whose cells are at rest -/
def ptrD (P : Program) (s : St) (t : TypeId) (cs : List SV) : Option DE :=
  match P.underlying t with
  | some (.pointer e) =>
    match gather P s e cs with
    | some v => (svT P s e v).map fun d => mkf .mkptr [d]
    | none => none
  | _ => none
/-- what is given back -/
def retV (P : Program) (s : St) (t : TypeId) (r : SV) : Option DE :=
  match svT P (settle s r) t r with
  | some d => some d
  | none =>
    match r with
    | .oa o 0 =>
      match lk o s.objs with
      | some cs => ptrD P s t cs
      | none => none
    | _ => none
def retO (P : Program) (s : St) (t : TypeId) : SV → Option DE
  | .x n =>
    match lk n s.vars with
    | some ⟨.own u, d⟩ => if u = t then some d else none
    | _ => none
  | .c .nils => if sliceOk P t then some (.k .nil) else none
  | _ => none
def retD (P : Program) (s : St) (k : RK) (r : SV) : Option DE :=
  match k with
  | .val t => retV P s t r
  | .own t => retO P s t r
  | _ => none

def treeD : Nat → List (List (DE × Bool) × DE) → Option DE
  | _, [(_, d)] => some d
  | n + 1, ((e, b) :: pc, x) :: r =>
    match splitPc e (((e, b) :: pc, x) :: r) with
    | some (t, []) => treeD n t
    | some ([], f) => treeD n f
    | some (t, f) =>
      match treeD n t, treeD n f with
      | some a, some b => some (if a.beq b then a else .f .ite [e, a, b])
      | _, _ => none
    | none => none
  | _, _ => none
def treeO : Nat → List (List (DE × Bool) × List Ob) → Option (List Ob)
  | _, [(_, d)] => some d
  | n + 1, ((e, b) :: pc, x) :: r =>
    match splitPc e (((e, b) :: pc, x) :: r) with
    | some (t, []) => treeO n t
    | some ([], f) => treeO n f
    | some (t, f) =>
      match treeO n t, treeO n f with
      | some a, some b => some (mergeObl e a b)
      | _, _ => none
    | none => none
  | _, _ => none

def outD (P : Program) (k : RK) (rs : List ResultVar) (o : Out) : Option (List (DE × Bool) × DE) :=
  match ressS P o.st rs with
  | some [r] => (retD P o.st k r).map fun d => (o.pc, d)
  | _ => none
def outsD (P : Program) (k : RK) (rs : List ResultVar) : List Out → Option (List (List (DE × Bool) × DE))
  | [] => some []
  | o :: r =>
    match outD P k rs o, outsD P k rs r with
    | some d, some ds => some (d :: ds)
    | _, _ => none
/-- the slices that are handed over are octets -/
def ownsOk (P : Program) (c : Ctr) : Bool :=
  match c.res with
  | .val _ => owns c.args == 0
  | .own t => owns c.args == 0 || (owns c.args == 1 && (match P.underlying t with | some (.slice e) => isU8 P e | _ => false))
  | _ => false

/-- the data that a function gives back, what it asks -/
def runF (C : Cfg) (n dp : Nat) (c : Ctr) (fn : Func) : Option (DE × List Ob) :=
  match fn.body, startArgs C.P 0 c.args with
  | some body, some q =>
    if ownsOk C.P c && decide (c.args.length ≤ fn.ntmps) then
      match exec C n dp [body] (startS c.args.length q.1 q.2 fn.ntmps) with
      | some outs =>
        if allRet outs then
          match outsD C.P c.res fn.results.toList outs with
          | some ds =>
            match treeD 40 ds, treeO 40 (outs.map fun o => (o.pc, o.st.obl)) with
            | some d, some os => some (d, os)
            | _, _ => none
          | none => none
        else none
      | none => none
    else none
  | _, _ => none

section
variable {P : Program} {X : Nat → List D → D} {Pre : Nat → List D → Prop} {δ : List D}

theorem treeD_sound : ∀ {n : Nat} {l : List (List (DE × Bool) × DE)} {c : DE}, treeD n l = some c → ∀ p ∈ l, PcOk X δ p.1 → c.eval X δ = p.2.eval X δ
  | n, l, c, h, p, hp, hpc => by
    unfold treeD at h
    split at h
    · cases h
      simp only [List.mem_singleton] at hp
      subst hp; rfl
    · rename_i n e b pc x r _
      split at h
      · rename_i t hs
        obtain ⟨b', pc', k1, k2, k3⟩ := splitPc_spec hs p hp hpc
        cases b' with
        | true => exact treeD_sound h (pc', p.2) k3 k2
        | false => simp at k3
      · rename_i f hs
        obtain ⟨b', pc', k1, k2, k3⟩ := splitPc_spec hs p hp hpc
        cases b' with
        | true => simp at k3
        | false => exact treeD_sound h (pc', p.2) k3 k2
      · rename_i t f _ _ hs
        obtain ⟨b', pc', k1, k2, k3⟩ := splitPc_spec hs p hp hpc
        split at h
        · rename_i a1 b1 h1 h2
          cases h
          have main : (DE.f .ite [e, a1, b1]).eval X δ = if (e.eval X δ).asBool then a1.eval X δ else b1.eval X δ := rfl
          cases b' with
          | true =>
            have i1 := treeD_sound h1 (pc', p.2) k3 k2
            split
            · exact i1
            · rw [main, k1]; simp only [if_true]; exact i1
          | false =>
            have i1 := treeD_sound h2 (pc', p.2) k3 k2
            split
            · rename_i hb; rw [DE.beq_eq hb]; exact i1
            · rw [main, k1]; simp only [Bool.false_eq_true, if_false]; exact i1
        · cases h
      · cases h
    · cases h
theorem treeO_sound : ∀ {n : Nat} {l : List (List (DE × Bool) × List Ob)} {c : List Ob}, treeO n l = some c → obsHold X Pre c δ → ∀ p ∈ l, PcOk X δ p.1 → obsHold X Pre p.2 δ
  | n, l, c, h, hob, p, hp, hpc => by
    unfold treeO at h
    split at h
    · cases h
      simp only [List.mem_singleton] at hp
      subst hp; exact hob
    · rename_i n e b pc x r _
      split at h
      · rename_i t hs
        obtain ⟨b', pc', k1, k2, k3⟩ := splitPc_spec hs p hp hpc
        cases b' with
        | true => exact treeO_sound h hob (pc', p.2) k3 k2
        | false => simp at k3
      · rename_i f hs
        obtain ⟨b', pc', k1, k2, k3⟩ := splitPc_spec hs p hp hpc
        cases b' with
        | true => simp at k3
        | false => exact treeO_sound h hob (pc', p.2) k3 k2
      · rename_i t f _ _ hs
        obtain ⟨b', pc', k1, k2, k3⟩ := splitPc_spec hs p hp hpc
        split at h
        · rename_i a1 b1 h1 h2
          cases h
          have hm := mergeObl_hold hob
          cases b' with
          | true => exact treeO_sound h1 (hm.1 k1) (pc', p.2) k3 k2
          | false => exact treeO_sound h2 (hm.2 k1) (pc', p.2) k3 k2
        · cases h
      · cases h
    · cases h

/-! ### the start -/
theorem startArgs_lk : ∀ {ks : List AK} {i : Nat} {q : List SV × List (Nat × VI)}, startArgs P i ks = some q → q.1.length = ks.length ∧ ∀ n vi, lk n q.2 = some vi → i ≤ n ∧ ((∃ t, ks[n - i]? = some (.val t) ∧ vi = ⟨.set t, .v n⟩) ∨ (∃ t, ks[n - i]? = some (.own t) ∧ vi = ⟨.own t, .v n⟩))
  | [], i, q, h => by
    simp only [startArgs, Option.some.injEq] at h; subst h
    exact ⟨rfl, by simp [lk]⟩
  | .val t :: r, i, q, h => by
    simp only [startArgs] at h
    split at h
    · rename_i q' d hq hu
      obtain ⟨h1, h2⟩ := startArgs_lk hq
      have rest : ∀ n vi, lk n q'.2 = some vi → i ≤ n ∧ ((∃ t', (AK.val t :: r)[n - i]? = some (.val t') ∧ vi = ⟨.set t', .v n⟩) ∨ (∃ t', (AK.val t :: r)[n - i]? = some (.own t') ∧ vi = ⟨.own t', .v n⟩)) := fun n vi hn => by
        obtain ⟨k1, k2⟩ := h2 n vi hn
        refine ⟨by omega, ?_⟩
        rw [show n - i = (n - (i + 1)) + 1 by omega]
        simpa using k2
      split at h
      · cases h
        exact ⟨by simp [h1], rest⟩
      · cases h
        refine ⟨by simp [h1], fun n vi hn => ?_⟩
        by_cases hni : i = n
        · subst hni
          rw [lk_cons_same] at hn; cases hn
          exact ⟨Nat.le_refl _, .inl ⟨t, by simp, rfl⟩⟩
        · rw [lk_cons_ne hni] at hn
          exact rest n vi hn
    · cases h
  | .own t :: r, i, q, h => by
    simp only [startArgs] at h
    split at h
    · rename_i q' hq
      obtain ⟨h1, h2⟩ := startArgs_lk hq
      cases h
      refine ⟨by simp [h1], fun n vi hn => ?_⟩
      by_cases hni : i = n
      · subst hni
        rw [lk_cons_same] at hn; cases hn
        exact ⟨Nat.le_refl _, .inr ⟨t, by simp, rfl⟩⟩
      · rw [lk_cons_ne hni] at hn
        obtain ⟨k1, k2⟩ := h2 n vi hn
        refine ⟨by omega, ?_⟩
        rw [show n - i = (n - (i + 1)) + 1 by omega]
        simpa using k2
    · cases h
  | .mcell _ _ :: r, i, q, h => by simp [startArgs] at h
  | .wcell _ _ :: r, i, q, h => by simp [startArgs] at h

theorem argsOk_len {ok : Nat → Prop} {w : World} : ∀ {ks : List AK} {vs : List Value} {ds : List D}, ArgsOk P ok w ks vs ds → vs.length = ks.length ∧ ds.length = ks.length
  | _, _, _, .nil => ⟨rfl, rfl⟩
  | _, _, _, .cons _ hs => by obtain ⟨h1, h2⟩ := argsOk_len hs; exact ⟨by simp [h1], by simp [h2]⟩
theorem argsOk_at {ok : Nat → Prop} {w : World} : ∀ {ks : List AK} {vs : List Value} {ds : List D}, ArgsOk P ok w ks vs ds → ∀ (i : Nat) (k : AK), ks[i]? = some k → ∃ v d, vs[i]? = some v ∧ ds[i]? = some d ∧ ArgOk P ok w k v d
  | _, _, _, .nil, i, k, h => by simp at h
  | _, _, _, .cons (v := v) (d := d) h hs, i, k, hi => by
    cases i with
    | zero => simp at hi; subst hi; exact ⟨v, d, rfl, rfl, h⟩
    | succ i =>
      obtain ⟨v', d', e1, e2, e3⟩ := argsOk_at hs i k (by simpa using hi)
      exact ⟨v', d', by simpa using e1, by simpa using e2, e3⟩

theorem wr_at {w : World} : ∀ {ks : List AK} {vs : List Value} {b : Nat}, Wr w ks vs b ↔ ∃ (i : Nat) (k : AK) (v : Value), ks[i]? = some k ∧ vs[i]? = some v ∧ wrA w k v b
  | [], vs, b => by simp [Wr]
  | k :: ks, [], b => by simp [Wr]
  | k :: ks, v :: vs, b => by
    simp only [Wr]
    constructor
    · rintro (h | h)
      · exact ⟨0, k, v, rfl, rfl, h⟩
      · obtain ⟨i, k', v', h1, h2, h3⟩ := wr_at.1 h
        exact ⟨i + 1, k', v', by simpa using h1, by simpa using h2, h3⟩
    · rintro ⟨i, k', v', h1, h2, h3⟩
      cases i with
      | zero => simp at h1 h2; subst h1; subst h2; exact .inl h3
      | succ i => exact .inr (wr_at.2 ⟨i, k', v', by simpa using h1, by simpa using h2, h3⟩)
theorem owns_zero : ∀ {ks : List AK} {i : Nat} {t : TypeId}, owns ks = 0 → ks[i]? = some (.own t) → False
  | [], i, t, _, h => by simp at h
  | .own u :: r, i, t, h, _ => by simp [owns] at h
  | .val u :: r, i, t, h, hi => by
    cases i with
    | zero => simp at hi
    | succ i => exact owns_zero (ks := r) (by simpa [owns] using h) (by simpa using hi)
  | .mcell u m :: r, i, t, h, hi => by
    cases i with
    | zero => simp at hi
    | succ i => exact owns_zero (ks := r) (by simpa [owns] using h) (by simpa using hi)
  | .wcell u m :: r, i, t, h, hi => by
    cases i with
    | zero => simp at hi
    | succ i => exact owns_zero (ks := r) (by simpa [owns] using h) (by simpa using hi)
theorem owns_one : ∀ {ks : List AK} {i j : Nat} {t u : TypeId}, owns ks ≤ 1 → ks[i]? = some (.own t) → ks[j]? = some (.own u) → i = j
  | [], i, j, t, u, _, h, _ => by simp at h
  | .own x :: r, i, j, t, u, h, hi, hj => by
    have h0 : owns r = 0 := by simp [owns] at h; exact h
    cases i with
    | zero =>
      cases j with
      | zero => rfl
      | succ j => exact (owns_zero h0 (by simpa using hj)).elim
    | succ i => exact (owns_zero h0 (by simpa using hi)).elim
  | .val x :: r, i, j, t, u, h, hi, hj => by
    cases i with
    | zero => simp at hi
    | succ i =>
      cases j with
      | zero => simp at hj
      | succ j => have := owns_one (ks := r) (i := i) (j := j) (t := t) (u := u) (by simpa [owns] using h) (by simpa using hi) (by simpa using hj); omega
  | .mcell x y :: r, i, j, t, u, h, hi, hj => by
    cases i with
    | zero => simp at hi
    | succ i =>
      cases j with
      | zero => simp at hj
      | succ j => have := owns_one (ks := r) (i := i) (j := j) (t := t) (u := u) (by simpa [owns] using h) (by simpa using hi) (by simpa using hj); omega
  | .wcell x y :: r, i, j, t, u, h, hi, hj => by
    cases i with
    | zero => simp at hi
    | succ i =>
      cases j with
      | zero => simp at hj
      | succ j => have := owns_one (ks := r) (i := i) (j := j) (t := t) (u := u) (by simpa [owns] using h) (by simpa using hi) (by simpa using hj); omega

def startB (ok : Nat → Prop) (w : World) (ks : List AK) (vs : List Value) : Base := ⟨w, Wr w ks vs, fun b => b < w.heap.size ∧ ¬ ok b ∧ ¬ Wr w ks vs b⟩
def startG (ok : Nat → Prop) (w : World) (ks : List AK) (vs : List Value) : Gh := { rv := fun i => vs.getD i undef, rb := fun _ => 0, rh := fun _ => (0, 0), ex := fun b => b < w.heap.size ∧ ¬ ok b ∧ ¬ Wr w ks vs b }

theorem startArgs_den {ok : Nat → Prop} {w : World} {g : Gh} {vs : List Value} {ds : List D} (hg : ∀ i, g.rv i = vs.getD i undef) : ∀ {ks : List AK} {i : Nat} {q : List SV × List (Nat × VI)}, startArgs P i ks = some q → (∀ (j : Nat) (k : AK), ks[j]? = some k → ∃ v d, vs[i + j]? = some v ∧ ds[i + j]? = some d ∧ ArgOk P ok w k v d) →
    dens X ds g q.1 = (List.range' i ks.length).map (fun j => vs.getD j undef) ∧ oks X ds q.1
  | [], i, q, hq, _ => by simp only [startArgs, Option.some.injEq] at hq; subst hq; exact ⟨by simp [dens], trivial⟩
  | .val t :: ks, i, q, hq, h => by
    obtain ⟨v, d, e1, e2, e3⟩ := h 0 (.val t) (by simp)
    rw [Nat.add_zero] at e1 e2
    simp only [startArgs] at hq
    split at hq
    rotate_left
    · cases hq
    rename_i q' td hq' hu
    obtain ⟨k1, k2⟩ := startArgs_den hg hq' (fun j k hj => by
      have := h (j + 1) k (by simpa using hj)
      rwa [show i + (j + 1) = i + 1 + j by omega] at this)
    have hv : vs.getD i undef = v := by simp [List.getD, e1]
    have hde : (DE.v i).eval X ds = d := by simp [DE.eval, List.getD, e2]
    have hr : Rep P ok w t v d := by cases e3 with | val hr => exact hr
    split at hq
    · cases hq
      have := varSV_den (X := X) (δ := ds) (g := g) (P := P) i (t := t) (de := .v i) (v := v) (by rw [hde]; exact hr) (by rw [hg, hv])
      refine ⟨?_, this.2, k2⟩
      simp only [dens, List.length_cons, List.range'_succ, List.map_cons]; rw [this.1, k1, hv]
    · cases hq
      refine ⟨?_, trivial, k2⟩
      simp only [dens, SV.den, List.length_cons, List.range'_succ, List.map_cons]; rw [k1, hg]
  | .own t :: ks, i, q, hq, h => by
    simp only [startArgs] at hq
    split at hq
    rotate_left
    · cases hq
    rename_i q' hq'
    obtain ⟨k1, k2⟩ := startArgs_den hg hq' (fun j k hj => by
      have := h (j + 1) k (by simpa using hj)
      rwa [show i + (j + 1) = i + 1 + j by omega] at this)
    cases hq
    refine ⟨?_, trivial, k2⟩
    simp only [dens, SV.den, List.length_cons, List.range'_succ, List.map_cons]; rw [k1, hg]
  | .mcell _ _ :: ks, i, q, hq, h => by simp [startArgs] at hq
  | .wcell _ _ :: ks, i, q, hq, h => by simp [startArgs] at hq

theorem start_mem {ok : Nat → Prop} {w : World} {ks : List AK} {vs : List Value} {ds : List D} {nt : Nat} {q : List SV × List (Nat × VI)} (hq : startArgs P 0 ks = some q) (ho : owns ks ≤ 1) (hnt : ks.length ≤ nt)
    (h : ArgsOk P ok w ks vs ds) (hok : ∀ b, ok b → b < w.heap.size ∧ ¬ Wr w ks vs b) :
    Mem P X (startB ok w ks vs) ds (startS ks.length q.1 q.2 nt) (startG ok w ks vs) w ∧ Env X ds (startS ks.length q.1 q.2 nt) (startG ok w ks vs) { tmps := vs.toArray ++ Array.replicate (nt - vs.toArray.size) undef, defers := [] } := by
  obtain ⟨h1, h2⟩ := argsOk_len h
  have h3 := argsOk_at h
  obtain ⟨hql, hlk⟩ := startArgs_lk hq
  have hlk0 : ∀ n vi, lk n q.2 = some vi → (∃ t v d, ks[n]? = some (.val t) ∧ vi = ⟨.set t, .v n⟩ ∧ vs[n]? = some v ∧ ds[n]? = some d ∧ Rep P ok w t v d) ∨ (∃ t v d, ks[n]? = some (.own t) ∧ vi = ⟨.own t, .v n⟩ ∧ vs[n]? = some v ∧ ds[n]? = some d ∧ OwnAt P ok w t v d) := fun n vi hn => by
    rcases (hlk n vi hn).2 with ⟨t, k1, k2⟩ | ⟨t, k1, k2⟩
    · rw [Nat.sub_zero] at k1
      obtain ⟨v, d, e1, e2, e3⟩ := h3 n _ k1
      cases e3 with | val hr => exact .inl ⟨t, v, d, k1, k2, e1, e2, hr⟩
    · rw [Nat.sub_zero] at k1
      obtain ⟨v, d, e1, e2, e3⟩ := h3 n _ k1
      cases e3 with | own hr => exact .inr ⟨t, v, d, k1, k2, e1, e2, hr⟩
  have hrv : ∀ n v, vs[n]? = some v → (startG ok w ks vs).rv n = v := fun n v hv => by simp [startG, List.getD, hv]
  have hact : ∀ b, Actv (startS ks.length q.1 q.2 nt) (startG ok w ks vs) b → Wr w ks vs b := by
    rintro b (⟨o, cs, h4, _⟩ | ⟨n, vi, h4, h5⟩)
    · simp [startS, lk] at h4
    · rcases hlk0 n vi h4 with ⟨t, v, d, k1, rfl, k3, k4, k5⟩ | ⟨t, v, d, k1, rfl, k3, k4, k5⟩
      · simp [blockOf] at h5
      · rw [hrv n v k3] at h5
        exact wr_at.2 ⟨n, _, v, k1, k3, h5⟩
  have hokS : ∀ b, ok b → okOf (startS ks.length q.1 q.2 nt) (startG ok w ks vs) w b := fun b hb => ⟨(hok b hb).1, fun e => (hok b hb).2 (hact b e), fun e => e.2.1 hb⟩
  have hde : ∀ n d, ds[n]? = some d → (DE.v n).eval X ds = d := fun n d hd => by simp [DE.eval, List.getD, hd]
  have hvo : ∀ n vi b, lk n q.2 = some vi → blockOf vi.vt ((startG ok w ks vs).rv n) = some b → ∃ t, ks[n]? = some (.own t) := fun n vi b hn hb => by
    rcases hlk0 n vi hn with ⟨t, v, d, k1, rfl, k3, k4, k5⟩ | ⟨t, v, d, k1, rfl, k3, k4, k5⟩
    · simp [blockOf] at hb
    · exact ⟨t, k1⟩
  refine ⟨⟨fun n vi hn => ?_, fun o cs ho => by simp [startS, lk] at ho, fun o o' c c' ho => by simp [startS, lk] at ho, fun n m vi vj b h4 h5 h6 h7 => ?_, fun o n c vi ho => by simp [startS, lk] at ho, fun b hb => .inr (hact b hb), fun l hl => by simp [startS] at hl, Fr.refl _ w, by simp [startS, h2], fun b hb => ⟨hb.1, hb.2.2⟩, fun b hb => hb⟩, ⟨fun s sv hs => ?_, rfl, by simp [startS]; omega⟩⟩
  · rcases hlk0 n vi hn with ⟨t, v, d, k1, rfl, k3, k4, k5⟩ | ⟨t, v, d, k1, rfl, k3, k4, k5⟩
    · simp only [VarOk]
      rw [hrv n v k3, hde n d k4]
      exact k5.mono hokS (fun _ _ => rfl)
    · simp only [VarOk]
      rw [hrv n v k3, hde n d k4]
      exact k5.mono hokS (fun _ _ => rfl) (fun _ _ => rfl)
  · obtain ⟨t1, e1⟩ := hvo n vi b h4 h6
    obtain ⟨t2, e2⟩ := hvo m vj b h5 h7
    exact owns_one ho e1 e2
  · obtain ⟨k1, k2⟩ := startArgs_den (X := X) (ok := ok) (w := w) (g := startG ok w ks vs) (vs := vs) (ds := ds) (fun i => rfl) hq (fun j k hj => by rw [Nat.zero_add]; exact h3 j k hj)
    obtain ⟨_, hs'⟩ := argEnv_lk q.1 0 s sv hs
    rw [Nat.sub_zero] at hs'
    have hlt : s < ks.length := by rw [← hql]; exact (List.getElem?_eq_some_iff.1 hs').1
    refine ⟨?_, oks_all.1 k2 sv (List.mem_of_getElem? hs')⟩
    have h5 : (dens X ds (startG ok w ks vs) q.1)[s]? = some (sv.den X ds (startG ok w ks vs)) := by rw [dens_map, List.getElem?_map, hs']; rfl
    rw [k1, List.getElem?_map, List.getElem?_range' hlt] at h5
    simp only [Option.map_some, Option.some.injEq, Nat.zero_add, Nat.one_mul] at h5
    rw [← h5]
    simp only
    rw [Array.getElem?_append_left (by simp; omega), List.getElem?_toArray, List.getD_eq_getElem?_getD, List.getElem?_eq_getElem (by omega)]
    rfl

theorem outsD_mem {k : RK} {rs : List ResultVar} : ∀ {outs : List Out} {ds : List (List (DE × Bool) × DE)}, outsD P k rs outs = some ds → ∀ o ∈ outs, ∃ d, outD P k rs o = some d ∧ d ∈ ds
  | [], ds, h, o, ho => by cases ho
  | p :: r, ds, h, o, ho => by
    simp only [outsD] at h
    split at h
    · rename_i d ds' h1 h2
      cases h
      rcases List.mem_cons.1 ho with rfl | ho
      · exact ⟨d, h1, by simp⟩
      · obtain ⟨d', k1, k2⟩ := outsD_mem h2 o ho
        exact ⟨d', k1, List.mem_cons_of_mem _ k2⟩
    · cases h

theorem startArgs_kind : ∀ {ks : List AK} {i : Nat} {q : List SV × List (Nat × VI)}, startArgs P i ks = some q → ∀ (j : Nat) (t m : TypeId), ks[j]? = some (.wcell t m) → False
  | [], _, _, _, j, t, m, h => by simp at h
  | .val _ :: r, i, q, hq, j, t, m, h => by
    simp only [startArgs] at hq
    split at hq
    · rename_i q' d hq' hu
      cases j with
      | zero => simp at h
      | succ j => exact startArgs_kind hq' j t m (by simpa using h)
    · cases hq
  | .own _ :: r, i, q, hq, j, t, m, h => by
    simp only [startArgs] at hq
    split at hq
    · rename_i q' hq'
      cases j with
      | zero => simp at h
      | succ j => exact startArgs_kind hq' j t m (by simpa using h)
    · cases hq
  | .mcell _ _ :: r, i, q, hq, j, t, m, h => by simp [startArgs] at hq
  | .wcell _ _ :: r, i, q, hq, j, t, m, h => by simp [startArgs] at hq

/-- of octets no more is said -/
theorem OwnAt.u8 {ok ok' : Nat → Prop} {w : World} {t e : TypeId} {v : Value} {d : D} (h : OwnAt P ok w t v d) (hu : P.underlying t = some (.slice e)) (h8 : isU8 P e = true) : OwnAt P ok' w t v d := by
  obtain ⟨e', i, n, xs, hu', hi, hown, hD⟩ := h
  rw [hu] at hu'; cases hu'
  have he8 : P.underlying e = some (.int .u8) := by
    unfold isU8 at h8
    split at h8
    · assumption
    · cases h8
  refine ⟨e, i, n, xs, hu, hi, hown, ?_⟩
  cases hD with
  | nil hv => exact .nil hv
  | bytes hv he hs => exact .bytes hv he hs
  | list hv he => exact absurd he8 he

theorem retV_sound {w0 : Base} {s : St} {g : Gh} {w : World} (h : Mem P X w0 δ s g w) {t : TypeId} {r : SV} {d : DE} (hr : r.ok X δ) (hd : retV P s t r = some d) : 
    Rep P (fun b => b < w.heap.size ∧ ¬ g.ex b) w t (r.den X δ g) (d.eval X δ) := by
  unfold retV at hd
  split at hd
  · rename_i d' hs
    cases hd
    exact (svT_sound (Mem.settle r h).1 hr hs).mono (fun b hb => ⟨hb.1, hb.2.2⟩) (fun _ _ => rfl)
  · split at hd
    rotate_left
    · cases hd
    rename_i o _
    split at hd
    rotate_left
    · cases hd
    rename_i cs ho
    unfold ptrD at hd
    split at hd
    rotate_left
    · cases hd
    rename_i e hu
    split at hd
    rotate_left
    · cases hd
    rename_i v hg
    obtain ⟨d2, hd2, rfl⟩ := Option.map_eq_some_iff.1 hd
    have hob := h.ob o cs ho
    obtain ⟨dd, i, hue, hi, hlen, hden, hok⟩ := gather_sound h hob.2.2 hg
    have hrep := svT_sound h hok hd2
    rw [mkf_eval]
    show Rep P _ w t (.pointer (some ⟨g.rb o, 0, none⟩)) (.ptr (d2.eval X δ))
    refine .ptr hu ⟨hob.lt, h.notEx (.inl ⟨o, cs, ho, rfl⟩)⟩ ?_ (hrep.mono (fun b hb => ⟨hb.1, hb.2.2⟩) (fun _ _ => rfl))
    have hc := hob.cells
    have : (v.den X δ g).cells.toList = dens X δ g cs := by
      rw [hden]
      cases ha : isAggD dd with
      | true => rfl
      | false =>
        rw [ha] at hlen
        simp only [Bool.false_eq_true, if_false] at hlen ⊢
        have h1 := (hrep.notAgg hue ha).1
        rw [hden, ha] at h1
        simp only [Bool.false_eq_true, if_false] at h1
        rw [h1]
        match hcs : cs, hlen with
        | [x], _ => rfl
    rw [this]
    exact hc

/-- A CONTRACT, of a run -/
theorem ctrOk_of_run {C : Cfg} {PreG : Nat → List D → Prop} (hnm : NamesOk C.P) (hord : C.P.follows .mixedOrders = true) (hctr : ∀ f c, C.ctr f = some c → CtrOk C.P X Pre f c) {n dp : Nat} {f : FuncId} {c : Ctr} {fn : Func} {de : DE} {os : List Ob}
    (hf : C.P.funcs[f]? = some fn) (hrun : runF C n dp c fn = some (de, os))
    (hX : ∀ (ok : Nat → Prop) (w : World) (vs : List Value) (ds : List D), ArgsOk C.P ok w c.args vs ds → (c.pre = true → PreG c.fn ds) → obsHold X Pre os ds ∧ de.eval X ds = X c.fn ds) : CtrOk C.P X PreG f c := by
  unfold runF at hrun
  split at hrun
  rotate_left
  · cases hrun
  rename_i body q hbody hq
  split at hrun
  rotate_left
  · cases hrun
  rename_i hoc
  simp only [Bool.and_eq_true, decide_eq_true_eq] at hoc
  obtain ⟨hoo, hnt⟩ := hoc
  split at hrun
  rotate_left
  · cases hrun
  rename_i outs houts
  split at hrun
  rotate_left
  · cases hrun
  rename_i hall
  split at hrun
  rotate_left
  · cases hrun
  rename_i dl hdl
  split at hrun
  rotate_left
  · cases hrun
  rename_i d' o' htd hto
  cases hrun
  refine ⟨⟨fn, body, hf, hbody⟩, fun ok w vs ds hA hok hRd hpre => ?_⟩
  have hown : owns c.args ≤ 1 := by
    unfold ownsOk at hoo
    split at hoo
    · simp only [beq_iff_eq] at hoo; omega
    · simp only [Bool.or_eq_true, Bool.and_eq_true, beq_iff_eq] at hoo
      rcases hoo with h | h <;> omega
    · cases hoo
  obtain ⟨hm, he⟩ := start_mem (X := X) hq hown hnt hA hok
  obtain ⟨hob, hde⟩ := hX ok w vs ds hA hpre
  have hsound := exec_sound hnm hord hctr n dp
  refine calls_of_wp hf hbody (wpC_mono_single ?_)
  refine hsound.sound _ ds [body] _ outs _ w _ hm he houts (fun o ho hpc => treeO_sound hto hob (o.pc, o.st.obl) (List.mem_map.2 ⟨o, ho, rfl⟩) hpc) _ (fun o ho hpc g' w' a' k1 k2 k3 => ?_)
  obtain ⟨dd, hod, hdm⟩ := outsD_mem hdl o ho
  unfold outD at hod
  split at hod
  rotate_left
  · cases hod
  rename_i r hrs
  obtain ⟨d2, hd2, rfl⟩ := Option.map_eq_some_iff.1 hod
  have hev : de.eval X ds = d2.eval X ds := treeD_sound htd _ hdm hpc
  obtain ⟨r1, r2⟩ := results_sound k2 k3 hrs
  have hfr : Fr (Wr w c.args vs) w w' := k2.fr
  have hexb : ∀ b, b < w.heap.size → ¬ g'.ex b → ok b ∨ Wr w c.args vs b := fun b hb hne => by
    by_cases h1 : ok b
    · exact .inl h1
    · by_cases h2 : Wr w c.args vs b
      · exact .inr h2
      · exact absurd (k2.ex.2 b ⟨hb, h1, h2⟩) hne
  have hres : ResOk C.P ok w w' c vs (r.den X ds g') (X c.fn ds) := by
    rw [← hde, hev]
    unfold ResOk
    unfold retD at hd2
    split at hd2
    · rename_i t hct
      rw [hct]
      simp only
      intro ok' h1 h2
      have hz : owns c.args = 0 := by
        unfold ownsOk at hoo; rw [hct] at hoo; simpa using hoo
      refine (retV_sound k2 r2 hd2).mono (fun b hb => ?_) (fun _ _ => rfl)
      by_cases hlt : b < w.heap.size
      · rcases hexb b hlt hb.2 with h3 | h3
        · exact h1 b h3
        · obtain ⟨i, k, v, e1, e2, e3⟩ := wr_at.1 h3
          cases k with
          | own t' => exact (owns_zero hz e1).elim
          | val t' => exact e3.elim
          | mcell t' m => exact e3.elim
          | wcell t' m => exact (startArgs_kind hq i t' m e1).elim
      · exact h2 b (by omega) hb.1
    · rename_i t hct
      rw [hct]
      simp only
      have hkeep : ∀ b, (r.den X ds g').ownBlock = some b → Actv o.st g' b := by
        intro b hb
        unfold retO at hd2
        split at hd2
        · rename_i n
          split at hd2
          · rename_i u d3 hn
            exact .inr ⟨n, _, hn, hb⟩
          · cases hd2
        · simp [SV.den, CV.den, Value.ownBlock] at hb
        · cases hd2
      have hown : OwnAt C.P (okOf o.st g' w') w' t (r.den X ds g') (d2.eval X ds) := by
        unfold retO at hd2
        split at hd2
        · rename_i n
          split at hd2
          · rename_i u d3 hn
            split at hd2
            · rename_i hut
              cases hd2
              subst hut
              exact k2.va n _ hn
            · cases hd2
          · cases hd2
        · split at hd2
          · rename_i hso
            cases hd2
            obtain ⟨e, i, hu, hi⟩ := sliceOk_eq hso
            exact OwnAt.nilv hu hi
          · cases hd2
        · cases hd2
      refine ⟨fun b hb => ⟨k2.lo b (hkeep b hb), k2.act_lt (hkeep b hb)⟩, fun ok' h1 h2 => ?_⟩
      unfold ownsOk at hoo
      rw [hct] at hoo
      simp only [Bool.or_eq_true, Bool.and_eq_true, beq_iff_eq] at hoo
      rcases hoo with hz | ⟨_, h8⟩
      · refine hown.mono (fun b hb => ?_) (fun _ _ => rfl) (fun _ _ => rfl)
        by_cases hlt : b < w.heap.size
        · rcases hexb b hlt hb.2.2 with h3 | h3
          · exact h1 b h3
          · obtain ⟨i, k, v, e1, e2, e3⟩ := wr_at.1 h3
            cases k with
            | own t' => exact (owns_zero hz e1).elim
            | val t' => exact e3.elim
            | mcell t' m => exact e3.elim
            | wcell t' m => exact (startArgs_kind hq i t' m e1).elim
        · exact h2 b (by omega) hb.1 (fun e => hb.2.1 (hkeep b e))
      · split at h8
        · rename_i e hu
          exact hown.u8 hu h8
        · cases h8
    · cases hd2
  have hpost : a'.defers = [] ∧ ∃ v, (results fn a'.tmps).run C.P w' = .ok v w' ∧ (∃ v', Ending.returned v = .returned v' ∧ Fr (Wr w c.args vs) w w' ∧ ResOk C.P ok w w' c vs v' (X c.fn ds)) :=
    ⟨k3.df, _, r1, _, rfl, hfr, hres⟩
  rcases allRet_ex hall o ho with hx | hx
  · rw [hx]; exact hpost
  · rw [hx]; exact hpost

end
end Go.Dx

namespace Go.Dx
open Go

/-! ## A function, run from its arguments' data, some of which are known numbers -/
def overK (ks : List (Nat × Int)) : Nat → List SV → List SV
  | _, [] => []
  | i, v :: r => (match v with
      | .i t (.v j) => match lk j ks with
        | some k => .i t (.k (.int k))
        | none => .i t (.v j)
      | v => v) :: overK ks (i + 1) r
def runFK (C : Cfg) (n dp : Nat) (c : Ctr) (fn : Func) (ks : List (Nat × Int)) : Option (DE × List Ob) :=
  match fn.body, startArgs C.P 0 c.args with
  | some body, some q =>
    if ownsOk C.P c && decide (c.args.length ≤ fn.ntmps) then
      match exec C n dp [body] (startS c.args.length (overK ks 0 q.1) q.2 fn.ntmps) with
      | some outs =>
        if allRet outs then
          match outsD C.P c.res fn.results.toList outs with
          | some ds =>
            match treeD 40 ds, treeO 40 (outs.map fun o => (o.pc, o.st.obl)) with
            | some d, some os => some (d, os)
            | _, _ => none
          | none => none
        else none
      | none => none
    else none
  | _, _ => none

section
variable {P : Program} {X : Nat → List D → D} {Pre : Nat → List D → Prop} {δ : List D}
theorem overK_spec {ks : List (Nat × Int)} {ds : List D} (hk : ∀ j k, lk j ks = some k → ds.getD j .nil = .int k) (g : Gh) : ∀ (l : List SV) (i : Nat), dens X ds g (overK ks i l) = dens X ds g l ∧ (oks X ds l → oks X ds (overK ks i l)) ∧ (overK ks i l).length = l.length
  | [], i => ⟨rfl, id, rfl⟩
  | v :: r, i => by
    obtain ⟨h1, h2, h3⟩ := overK_spec hk g r (i + 1)
    have main : ∀ u : SV, overK ks i (v :: r) = u :: overK ks (i + 1) r → u.den X ds g = v.den X ds g → (v.ok X ds → u.ok X ds) → dens X ds g (overK ks i (v :: r)) = dens X ds g (v :: r) ∧ (oks X ds (v :: r) → oks X ds (overK ks i (v :: r))) ∧ (overK ks i (v :: r)).length = (v :: r).length := fun u e e1 e2 => by
      rw [e]
      refine ⟨by simp only [dens]; rw [e1, h1], fun h => ?_, by simp [h3]⟩
      simp only [oks] at h ⊢
      exact ⟨e2 h.1, h2 h.2⟩
    simp only [overK] at main ⊢
    split at main
    · rename_i t j
      split at main
      · rename_i k hj
        refine main _ rfl ?_ (fun h => ?_)
        · simp only [SV.den, DE.eval, hk j k hj]
        · simp only [SV.ok, SV.okk] at h ⊢
          first
            | trivial
            | (have e := hk j k hj; simp only [DE.eval] at h ⊢; rw [e] at h; exact h)
      · exact main _ rfl rfl id
    · exact main _ rfl rfl id
theorem argEnv_some : ∀ (l : List SV) (i s : Nat) (sv : SV), l[s]? = some sv → lk (i + s) (argEnv i l) = some sv
  | [], _, _, _, h => by simp at h
  | x :: l, i, 0, sv, h => by
    simp only [List.getElem?_cons_zero, Option.some.injEq] at h; subst h
    simp [argEnv, lk]
  | x :: l, i, s + 1, sv, h => by
    simp only [List.getElem?_cons_succ] at h
    have := argEnv_some l (i + 1) s sv h
    have hne : (i + (s + 1) == i) = false := by simp
    simp only [argEnv, lk, hne]
    rw [show i + (s + 1) = i + 1 + s by omega]
    simpa using this
theorem start_memK {ok : Nat → Prop} {w : World} {ks : List AK} {vs : List Value} {ds : List D} {nt : Nat} {q : List SV × List (Nat × VI)} {cs : List (Nat × Int)} (hq : startArgs P 0 ks = some q) (ho : owns ks ≤ 1) (hnt : ks.length ≤ nt)
    (h : ArgsOk P ok w ks vs ds) (hok : ∀ b, ok b → b < w.heap.size ∧ ¬ Wr w ks vs b) (hk : ∀ j k, lk j cs = some k → ds.getD j .nil = .int k) :
    Mem P X (startB ok w ks vs) ds (startS ks.length (overK cs 0 q.1) q.2 nt) (startG ok w ks vs) w ∧ Env X ds (startS ks.length (overK cs 0 q.1) q.2 nt) (startG ok w ks vs) { tmps := vs.toArray ++ Array.replicate (nt - vs.toArray.size) undef, defers := [] } := by
  obtain ⟨hm, he⟩ := start_mem (X := X) hq ho hnt h hok
  obtain ⟨o1, o2, o3⟩ := overK_spec (X := X) hk (startG ok w ks vs) q.1 0
  refine ⟨hm.same rfl rfl rfl rfl, ⟨fun s sv hs => ?_, he.df, he.sz⟩⟩
  obtain ⟨_, hs'⟩ := argEnv_lk (overK cs 0 q.1) 0 s sv hs
  rw [Nat.sub_zero] at hs'
  have hlt : s < q.1.length := by rw [← o3]; exact (List.getElem?_eq_some_iff.1 hs').1
  have hu : q.1[s]? = some q.1[s] := List.getElem?_eq_getElem hlt
  have hl := argEnv_some q.1 0 s _ hu
  rw [Nat.zero_add] at hl
  obtain ⟨t1, _⟩ := he.tm s _ hl
  have e1 : (dens X ds (startG ok w ks vs) (overK cs 0 q.1))[s]? = some (sv.den X ds (startG ok w ks vs)) := by rw [dens_map, List.getElem?_map, hs']; rfl
  have e2 : (dens X ds (startG ok w ks vs) q.1)[s]? = some (q.1[s].den X ds (startG ok w ks vs)) := by rw [dens_map, List.getElem?_map, hu]; rfl
  rw [o1, e2] at e1
  refine ⟨by rw [← Option.some.inj e1]; exact t1, ?_⟩
  have hall : oks X ds q.1 := oks_all.2 fun x hx => by
    obtain ⟨j, hj, hjx⟩ := List.mem_iff_getElem.1 hx
    have := argEnv_some q.1 0 j x (by rw [List.getElem?_eq_getElem hj, hjx])
    rw [Nat.zero_add] at this
    exact (he.tm j x this).2
  exact oks_all.1 (o2 hall) sv (List.mem_of_getElem? hs')
end
section
variable {X : Nat → List D → D} {Pre : Nat → List D → Prop}
/-- A call, of a run -/
theorem callK {C : Cfg} (hnm : NamesOk C.P) (hord : C.P.follows .mixedOrders = true) (hctr : ∀ f c, C.ctr f = some c → CtrOk C.P X Pre f c) {n dp : Nat} {f : FuncId} {c : Ctr} {fn : Func} {de : DE} {os : List Ob} {ks : List (Nat × Int)}
    (hf : C.P.funcs[f]? = some fn) (hrun : runFK C n dp c fn ks = some (de, os)) {ok : Nat → Prop} {w : World} {vs : List Value} {ds : List D} (hA : ArgsOk C.P ok w c.args vs ds)
    (hok : ∀ b, ok b → b < w.heap.size ∧ ¬ Wr w c.args vs b) (hk : ∀ j k, lk j ks = some k → ds.getD j .nil = .int k) (hob : obsHold X Pre os ds) (hde : de.eval X ds = X c.fn ds) :
    Calls C.P f vs.toArray w fun e w' => ∃ v, e = .returned v ∧ Fr (Wr w c.args vs) w w' ∧ ResOk C.P ok w w' c vs v (X c.fn ds) := by
  unfold runFK at hrun
  split at hrun
  rotate_left
  · cases hrun
  rename_i body q hbody hq
  split at hrun
  rotate_left
  · cases hrun
  rename_i hoc
  simp only [Bool.and_eq_true, decide_eq_true_eq] at hoc
  obtain ⟨hoo, hnt⟩ := hoc
  split at hrun
  rotate_left
  · cases hrun
  rename_i outs houts
  split at hrun
  rotate_left
  · cases hrun
  rename_i hall
  split at hrun
  rotate_left
  · cases hrun
  rename_i dl hdl
  split at hrun
  rotate_left
  · cases hrun
  rename_i d' o' htd hto
  cases hrun
  have hown : owns c.args ≤ 1 := by
    unfold ownsOk at hoo
    split at hoo
    · simp only [beq_iff_eq] at hoo; omega
    · simp only [Bool.or_eq_true, Bool.and_eq_true, beq_iff_eq] at hoo
      rcases hoo with h | h <;> omega
    · cases hoo
  obtain ⟨hm, he⟩ := start_memK (X := X) hq hown hnt hA hok hk
  have hsound := exec_sound hnm hord hctr n dp
  refine calls_of_wp hf hbody (wpC_mono_single ?_)
  refine hsound.sound _ ds [body] _ outs _ w _ hm he houts (fun o ho hpc => treeO_sound hto hob (o.pc, o.st.obl) (List.mem_map.2 ⟨o, ho, rfl⟩) hpc) _ (fun o ho hpc g' w' a' k1 k2 k3 => ?_)
  obtain ⟨dd, hod, hdm⟩ := outsD_mem hdl o ho
  unfold outD at hod
  split at hod
  rotate_left
  · cases hod
  rename_i r hrs
  obtain ⟨d2, hd2, rfl⟩ := Option.map_eq_some_iff.1 hod
  have hev : de.eval X ds = d2.eval X ds := treeD_sound htd _ hdm hpc
  obtain ⟨r1, r2⟩ := results_sound k2 k3 hrs
  have hfr : Fr (Wr w c.args vs) w w' := k2.fr
  have hexb : ∀ b, b < w.heap.size → ¬ g'.ex b → ok b ∨ Wr w c.args vs b := fun b hb hne => by
    by_cases h1 : ok b
    · exact .inl h1
    · by_cases h2 : Wr w c.args vs b
      · exact .inr h2
      · exact absurd (k2.ex.2 b ⟨hb, h1, h2⟩) hne
  have hres : ResOk C.P ok w w' c vs (r.den X ds g') (X c.fn ds) := by
    rw [← hde, hev]
    unfold ResOk
    unfold retD at hd2
    split at hd2
    · rename_i t hct
      rw [hct]
      simp only
      intro ok' h1 h2
      have hz : owns c.args = 0 := by
        unfold ownsOk at hoo; rw [hct] at hoo; simpa using hoo
      refine (retV_sound k2 r2 hd2).mono (fun b hb => ?_) (fun _ _ => rfl)
      by_cases hlt : b < w.heap.size
      · rcases hexb b hlt hb.2 with h3 | h3
        · exact h1 b h3
        · obtain ⟨i, k, v, e1, e2, e3⟩ := wr_at.1 h3
          cases k with
          | own t' => exact (owns_zero hz e1).elim
          | val t' => exact e3.elim
          | mcell t' m => exact e3.elim
          | wcell t' m => exact (startArgs_kind hq i t' m e1).elim
      · exact h2 b (by omega) hb.1
    · rename_i t hct
      rw [hct]
      simp only
      have hkeep : ∀ b, (r.den X ds g').ownBlock = some b → Actv o.st g' b := by
        intro b hb
        unfold retO at hd2
        split at hd2
        · rename_i n
          split at hd2
          · rename_i u d3 hn
            exact .inr ⟨n, _, hn, hb⟩
          · cases hd2
        · simp [SV.den, CV.den, Value.ownBlock] at hb
        · cases hd2
      have hown : OwnAt C.P (okOf o.st g' w') w' t (r.den X ds g') (d2.eval X ds) := by
        unfold retO at hd2
        split at hd2
        · rename_i n
          split at hd2
          · rename_i u d3 hn
            split at hd2
            · rename_i hut
              cases hd2
              subst hut
              exact k2.va n _ hn
            · cases hd2
          · cases hd2
        · split at hd2
          · rename_i hso
            cases hd2
            obtain ⟨e, i, hu, hi⟩ := sliceOk_eq hso
            exact OwnAt.nilv hu hi
          · cases hd2
        · cases hd2
      refine ⟨fun b hb => ⟨k2.lo b (hkeep b hb), k2.act_lt (hkeep b hb)⟩, fun ok' h1 h2 => ?_⟩
      unfold ownsOk at hoo
      rw [hct] at hoo
      simp only [Bool.or_eq_true, Bool.and_eq_true, beq_iff_eq] at hoo
      rcases hoo with hz | ⟨_, h8⟩
      · refine hown.mono (fun b hb => ?_) (fun _ _ => rfl) (fun _ _ => rfl)
        by_cases hlt : b < w.heap.size
        · rcases hexb b hlt hb.2.2 with h3 | h3
          · exact h1 b h3
          · obtain ⟨i, k, v, e1, e2, e3⟩ := wr_at.1 h3
            cases k with
            | own t' => exact (owns_zero hz e1).elim
            | val t' => exact e3.elim
            | mcell t' m => exact e3.elim
            | wcell t' m => exact (startArgs_kind hq i t' m e1).elim
        · exact h2 b (by omega) hb.1 (fun e => hb.2.1 (hkeep b e))
      · split at h8
        · rename_i e hu
          exact hown.u8 hu h8
        · cases h8
    · cases hd2
  have hpost : a'.defers = [] ∧ ∃ v, (results fn a'.tmps).run C.P w' = .ok v w' ∧ (∃ v', Ending.returned v = .returned v' ∧ Fr (Wr w c.args vs) w w' ∧ ResOk C.P ok w w' c vs v' (X c.fn ds)) :=
    ⟨k3.df, _, r1, _, rfl, hfr, hres⟩
  rcases allRet_ex hall o ho with hx | hx
  · rw [hx]; exact hpost
  · rw [hx]; exact hpost

end
end Go.Dx

namespace Go.Mx
open Go Go.Dx

/-! ## What fields say, as plain data -/
structure Tg where
  key : Int
  val : Option (List UInt8)
inductive T where
  | mk (n : Int) (s : Option (List UInt8)) (null : Bool) (l : Option (List T)) (u : Option (List Tg))
inductive Fl where
  | mk (kind frm to null tag dflt of : Int) (sub : Option (List Fl))

namespace T
def n : T → Int | .mk n _ _ _ _ => n
def s : T → Option (List UInt8) | .mk _ s _ _ _ => s
def null : T → Bool | .mk _ _ b _ _ => b
def l : T → Option (List T) | .mk _ _ _ l _ => l
def u : T → Option (List Tg) | .mk _ _ _ _ u => u
/-- its octets, its things, its tags -/
def S (t : T) : List UInt8 := t.s.getD []
def L (t : T) : List T := t.l.getD []
def U (t : T) : List Tg := t.u.getD []
def zero : T := .mk 0 none false none none
end T
namespace Fl
def kind : Fl → Int | .mk k _ _ _ _ _ _ _ => k
def frm : Fl → Int | .mk _ k _ _ _ _ _ _ => k
def to : Fl → Int | .mk _ _ k _ _ _ _ _ => k
def null : Fl → Int | .mk _ _ _ k _ _ _ _ => k
def tag : Fl → Int | .mk _ _ _ _ k _ _ _ => k
def dflt : Fl → Int | .mk _ _ _ _ _ k _ _ => k
def of : Fl → Int | .mk _ _ _ _ _ _ k _ => k
def sub : Fl → Option (List Fl) | .mk _ _ _ _ _ _ _ s => s
def Sub (f : Fl) : List Fl := f.sub.getD []
end Fl

def encB : Option (List UInt8) → D
  | none => .nil
  | some s => .bytes s
def Tg.d (t : Tg) : D := .row [.int t.key, encB t.val]
def encU : Option (List Tg) → D
  | none => .nil
  | some l => .list (l.map Tg.d)
mutual
def T.d : T → D
  | .mk n s b l u => .row [.int n, encB s, .bool b, encT l, encU u]
def encT : Option (List T) → D
  | none => .nil
  | some l => .list (tds l)
def tds : List T → List D
  | [] => []
  | t :: r => t.d :: tds r
end
mutual
def Fl.d : Fl → D
  | .mk k f t n g d o s => .row [.int k, .int f, .int t, .int n, .int g, .int d, .int o, encF s]
def encF : Option (List Fl) → D
  | none => .nil
  | some l => .list (fds l)
def fds : List Fl → List D
  | [] => []
  | t :: r => t.d :: fds r
end
theorem tds_map : ∀ l : List T, tds l = l.map T.d
  | [] => rfl
  | t :: r => by simp [tds, tds_map r]
theorem fds_map : ∀ l : List Fl, fds l = l.map Fl.d
  | [] => rfl
  | t :: r => by simp [fds, fds_map r]

/-! ### back again -/
def decB : D → Option (List UInt8)
  | .bytes s => some s
  | _ => none
def toTg : D → Tg
  | .row [k, v] => ⟨k.asInt, decB v⟩
  | _ => ⟨0, none⟩
def decU : D → Option (List Tg)
  | .list l => some (l.map toTg)
  | _ => none
mutual
def toT : D → T
  | .row [n, s, b, l, u] => .mk n.asInt (decB s) b.asBool (decT l) (decU u)
  | _ => T.zero
  termination_by d => SizeOf.sizeOf d
def decT : D → Option (List T)
  | .list l => some (toTl l)
  | _ => none
  termination_by d => SizeOf.sizeOf d
def toTl : List D → List T
  | [] => []
  | t :: r => toT t :: toTl r
  termination_by d => SizeOf.sizeOf d
end
mutual
def toF : D → Fl
  | .row [k, f, t, n, g, d, o, s] => .mk k.asInt f.asInt t.asInt n.asInt g.asInt d.asInt o.asInt (decF s)
  | _ => .mk 0 0 0 0 0 0 0 none
  termination_by d => SizeOf.sizeOf d
def decF : D → Option (List Fl)
  | .list l => some (toFl l)
  | _ => none
  termination_by d => SizeOf.sizeOf d
def toFl : List D → List Fl
  | [] => []
  | t :: r => toF t :: toFl r
  termination_by d => SizeOf.sizeOf d
end
@[simp] theorem decB_enc (s : Option (List UInt8)) : decB (encB s) = s := by cases s <;> rfl
@[simp] theorem toTg_d (t : Tg) : toTg t.d = t := by cases t; simp [Tg.d, toTg, D.asInt]
@[simp] theorem decU_enc (u : Option (List Tg)) : decU (encU u) = u := by
  cases u with
  | none => rfl
  | some l =>
    simp only [encU, decU, Option.some.injEq, List.map_map]
    conv => rhs; rw [← List.map_id l]
    apply List.map_congr_left
    intro t _; simp
mutual
theorem toT_d : ∀ t : T, toT t.d = t
  | .mk n s b l u => by
    rw [T.d, toT, decT_enc l]
    simp [D.asInt, D.asBool]
theorem decT_enc : ∀ l : Option (List T), decT (encT l) = l
  | none => by rw [encT, decT]; intro l h; cases h
  | some l => by rw [encT, decT, toTl_tds l]
theorem toTl_tds : ∀ l : List T, toTl (tds l) = l
  | [] => by rw [tds, toTl]
  | t :: r => by rw [tds, toTl, toT_d t, toTl_tds r]
end
mutual
theorem toF_d : ∀ t : Fl, toF t.d = t
  | .mk k f t n g d o s => by
    rw [Fl.d, toF, decF_enc s]
    simp [D.asInt]
theorem decF_enc : ∀ l : Option (List Fl), decF (encF l) = l
  | none => by rw [encF, decF]; intro l h; cases h
  | some l => by rw [encF, decF, toFl_fds l]
theorem toFl_fds : ∀ l : List Fl, toFl (fds l) = l
  | [] => by rw [fds, toFl]
  | t :: r => by rw [fds, toFl, toF_d t, toFl_fds r]
end
attribute [simp] toT_d decT_enc toF_d decF_enc

/-! ### the spec's functions -/
/-- a list that is empty is null -/
def nz {α : Type} (l : List α) : Option (List α) := match l with | [] => none | l => some l
def Most : Nat := 32767
def whole (s : Option (List UInt8)) : Option (List UInt8) := s.map (·.take Most)
def things (l : Option (List T)) : Option (List T) := l.map (·.take Most)
def at' (t : T) (i : Int) : T := if i < t.L.length then t.L.getD i.toNat T.zero else T.zero
def has (f : Fl) (v : Int) : Bool := decide (f.frm ≤ v) && (decide (f.to < 0) || decide (v ≤ f.to))
def null (f : Fl) (v : Int) (t : T) : Bool := t.null && (decide (0 ≤ f.null) && decide (f.null ≤ v))
def width (k : Int) : Int := if k = 1 then 1 else if k = 2 ∨ k = 5 then 2 else if k = 3 then 4 else 8
/-- the tag that is one more than all that the fields have -/
def known (l : List Fl) : Nat := l.foldl (fun n f => if 0 ≤ f.tag then max n (f.tag.toNat + 1) else n) 0
/-- a tag, put in its place; the first one counts -/
def insTag (x : Tg) : List Tg → List Tg
  | [] => [x]
  | t :: r => if t.key < x.key then t :: insTag x r else if t.key = x.key then t :: r else x :: t :: r
def unknown (fs : List Fl) (l : Option (List Tg)) : List Tg := ((l.getD []).take Most).foldl (fun out t => if t.key < (known fs : Int) then out else insTag t out) []


/-! octets -/
def byteAt (n : Int) (i : Nat) : UInt8 := UInt8.ofNat (IntKind.u8.wrap (n.fdiv (2 ^ (8 * i)))).toNat
def Fixed (n : Int) (size : Nat) : List UInt8 := ((List.range size).reverse).map (byteAt n)
def Uvarint (n : Nat) : List UInt8 := if 127 < n then UInt8.ofNat (n % 128 + 128) :: Uvarint (n / 128) else [UInt8.ofNat n]
  termination_by n
  decreasing_by omega
def counted (flex null : Bool) (n : Nat) (size : Nat) : List UInt8 :=
  if flex && null then [0] else if flex then Uvarint (n + 1) else if null then Fixed (-1) size else Fixed n size
/-- octets laid over nought -/
def sixteen (s : List UInt8) : List UInt8 := s.take 16 ++ List.replicate (16 - s.length) 0

mutual
def usual : Fl → T → Bool
  | .mk k _ _ nl _ df _ sub, t =>
    if k = 0 then decide (t.n % 2 = df) else
    if k = 7 then (t.S.take 16).all (· == 0) else
    if k = 8 ∨ k = 9 then (if 0 ≤ nl then t.null else t.S.length == 0) else
    if k = 11 then t.L.length == 0 else
    if k = 10 then usualS sub t else
    Fixed t.n (width k).toNat == Fixed df (width k).toNat
def usualS : Option (List Fl) → T → Bool
  | none, t => (unknown [] t.u).length == 0
  | some l, t => usualL l 0 t && (unknown l t.u).length == 0
def usualL : List Fl → Nat → T → Bool
  | [], _, _ => true
  | f :: r, i, t => usual f (at' t i) && usualL r (i + 1) t
end

/-- what is written of a value; pt: what is written of it as a part -/
def valueB (kind : Int) (null flex : Bool) (t : T) (pt : List UInt8) : List UInt8 :=
  if kind = 0 then [UInt8.ofNat (t.n % 2).toNat] else
  if kind = 7 then sixteen t.S else
  if kind = 8 then (let s := if null then [] else t.S.take Most; counted flex null s.length 2 ++ s) else
  if kind = 9 then (let s := if null then [] else t.S.take Most; counted flex null s.length 4 ++ s) else
  if kind = 10 then pt else
  Fixed t.n (width kind).toNat
def fieldB (kind nl of : Int) (null flex : Bool) (t : T) (pt : T → List UInt8) : List UInt8 :=
  if kind = 11 then (let l := if null then [] else t.L.take Most; counted flex null l.length 4 ++ (l.map fun x => valueB of false flex x (pt x)).flatten) else
  if kind = 10 ∧ 0 ≤ nl then (if null then Fixed (-1) 1 else Fixed 1 1 ++ pt t) else
  valueB kind null flex t (pt t)
/-- a tag with its number and its length -/
def tagB (k : Nat) (b : List UInt8) : List UInt8 := Uvarint k ++ Uvarint b.length ++ b
/-- the tags that are not as by default; each row: a field, what it says, what is written of it -/
def tagsB (rows : List (Fl × T × List UInt8)) (n : Nat) : List (List UInt8) :=
  (List.range n).flatMap fun (g : Nat) => rows.filterMap fun r => if r.1.tag = (g : Int) ∧ usual r.1 r.2.1 = false then some (tagB g r.2.2) else none
def partB (v : Int) (flex : Bool) (fs : List Fl) (u : Option (List Tg)) (rows : List (Fl × T × List UInt8)) : List UInt8 :=
  let out := (rows.map fun r => if r.1.tag < 0 ∧ has r.1 v = true then r.2.2 else []).flatten
  if flex then
    let tags := tagsB rows (known fs) ++ (unknown fs u).map fun x => tagB (IntKind.u64.wrap x.key).toNat ((x.val.getD []).take Most)
    out ++ Uvarint tags.length ++ tags.flatten
  else out
mutual
def field : Fl → Int → Bool → T → List UInt8
  | .mk k fr to nl tg df of sub, v, flex, t => fieldB k nl of (Mx.null (.mk k fr to nl tg df of sub) v t) flex t (fun x => partS sub v flex x)
def partS : Option (List Fl) → Int → Bool → T → List UInt8
  | none, v, flex, t => partB v flex [] t.u []
  | some l, v, flex, t => partB v flex l t.u (rowsL l 0 v flex t)
def rowsL : List Fl → Nat → Int → Bool → T → List (Fl × T × List UInt8)
  | [], _, _, _, _ => []
  | f :: r, i, v, flex, t => (f, at' t i, field f v flex (at' t i)) :: rowsL r (i + 1) v flex t
end

/-! what can be set -/
def fittedB (kind : Int) (null : Bool) (t : T) (ft : T) : T :=
  if kind = 8 ∨ kind = 9 then .mk 0 (whole t.s) null none none else
  if kind = 10 then .mk ft.n ft.s null ft.l ft.u else
  .mk t.n t.s false none none
mutual
def fitted : Fl → Int → T → T
  | .mk k fr to nl tg df of sub, v, t =>
    if k = 11 then .mk 0 none (Mx.null (.mk k fr to nl tg df of sub) v t || (decide (0 ≤ tg) && t.L.length == 0)) (nz ((t.L.take Most).map fun x => fittedB of false x (FitS sub v x))) none else
    fittedB k (Mx.null (.mk k fr to nl tg df of sub) v t) t (FitS sub v t)
def FitS : Option (List Fl) → Int → T → T
  | none, _, t => .mk 0 none false none (nz ((unknown [] t.u).map fun x => ⟨x.key, whole x.val⟩))
  | some l, v, t => .mk 0 none false (nz (fitL l 0 v t)) (nz ((unknown l t.u).map fun x => ⟨x.key, whole x.val⟩))
def fitL : List Fl → Nat → Int → T → List T
  | [], _, _, _ => []
  | f :: r, i, v, t => fitted f v (at' t i) :: fitL r (i + 1) v t
end
/-- lists of lists are not -/
def one (f : Fl) : Fl := .mk f.of f.frm f.to (-1) (-1) f.dflt f.of f.sub
mutual
def given : T → T
  | .mk n s b l u => .mk n s b (givenO l) (nz (u.getD []))
def givenO : Option (List T) → Option (List T)
  | none => none
  | some l => nz (givenL l)
def givenL : List T → List T
  | [] => []
  | t :: r => given t :: givenL r
end
theorem givenL_map : ∀ l : List T, givenL l = l.map given
  | [] => rfl
  | t :: r => by simp [givenL, givenL_map r]
def Flexible (flex v : Int) : Bool := decide (0 ≤ flex) && decide (flex ≤ v)

end Go.Mx

namespace Go.Mx
open Go Go.Dx

/-! ## What the functions mean on data -/
def encN (s : List UInt8) : D := match s with | [] => .nil | s => .bytes s
def app (o : D) (s : List UInt8) : D := .bytes (o.asStr ++ s)
def fitsTo (t : T) : Bool := decide (t.S.length ≤ 2147483647) && (decide (t.L.length ≤ 2147483647) && (decide (t.U.length ≤ 2147483647) && t.U.all fun x => decide ((x.val.getD []).length ≤ 2147483647)))
def rowBytes (d : D) : List UInt8 := d.cells.map fun x => UInt8.ofNat x.asInt.toNat
/-- a map's entry -/
def insM (k : Int) (d : D) : List (Int × D) → List (Int × D)
  | [] => [(k, d)]
  | x :: r => if x.1 < k then x :: insM k d r else if x.1 = k then (k, d) :: r else (k, d) :: x :: r
def mapL : D → List (Int × D)
  | .map l => l
  | _ => []
def X : Nat → List D → D
  | 1, [t, i] => (at' (toT t) i.asInt).d
  | 2, [o, b] => app o [if b.asBool then 1 else 0]
  | 3, [o, n] => app o (Fixed n.asInt 1)
  | 4, [o, n] => app o (Fixed n.asInt 2)
  | 5, [o, n] => app o (Fixed n.asInt 2)
  | 6, [o, n] => app o (Fixed n.asInt 4)
  | 7, [o, n] => app o (Fixed n.asInt 8)
  | 8, [o, n] => app o (Fixed n.asNat 8)
  | 9, [o, r] => app o (rowBytes r)
  | 10, [o, n] => app o (Uvarint n.asInt.toNat)
  | 11, [o, s] => app o (Fixed s.len 2 ++ s.asStr)
  | 12, [o, s] => app o (Uvarint (s.len + 1) ++ s.asStr)
  | 13, [o, p] => app o (if p.isNil then Fixed (-1) 2 else Fixed p.deref.len 2 ++ p.deref.asStr)
  | 14, [o, p] => app o (if p.isNil then Uvarint 0 else Uvarint (p.deref.len + 1) ++ p.deref.asStr)
  | 15, [o, s] => app o (Fixed s.len 4 ++ s.asStr)
  | 16, [o, s] => app o (Uvarint (s.len + 1) ++ s.asStr)
  | 17, [o, s] => app o (if s.isNil then Fixed (-1) 4 else Fixed s.len 4 ++ s.asStr)
  | 18, [o, s] => app o (if s.isNil then Uvarint 0 else Uvarint (s.len + 1) ++ s.asStr)
  | 19, [o, n] => app o (Fixed n.asInt 4)
  | 20, [o, n] => app o (Uvarint (n.asInt.toNat + 1))
  | 21, [o, n, b] => app o (if b.asBool then Fixed (-1) 4 else Fixed n.asInt 4)
  | 22, [o, n, b] => app o (if b.asBool then Uvarint 0 else Uvarint (n.asInt.toNat + 1))
  | 23, [m, k, v] => .map (insM k.asInt v (mapL m))
  | 24, [m] => .int (mapL m).length
  | 25, [m, o] => if (mapL m).isEmpty then o else app o ((mapL m).map fun x => tagB x.1.toNat x.2.asStr).flatten
  | 26, [t] => if (toT t).null then .nil else .ptr (.str (toT t).S)
  | 27, [t] => if (toT t).null then .nil else .bytes (toT t).S
  | 28, [b] => .row ((sixteen b.asStr).map fun x => .int x.toNat)
  | 29, [o, n] => app o (Fixed n.asInt 8)
  | 30, [o, n] => app o (Fixed n.asInt 4)
  | 31, [n] => .int (Uvarint n.asInt.toNat).length
  | 40, [t, i] => (at' (toT t) i.asInt).d
  | 41, [fs, u] => encU (nz (unknown ((decF fs).getD []) (decU u)))
  | 42, [f, v, t] => (fitted (toF f) v.asInt (toT t)).d
  | 43, [fs, v, t] => (FitS (decF fs) v.asInt (toT t)).d
  | 44, [t] => (given (toT t)).d
  | 45, [n, s] => encN (Fixed n.asInt s.asInt.toNat)
  | 46, [n] => encN (Uvarint n.asInt.toNat)
  | 47, [fs, v, x, t] => encN (partS (decF fs) v.asInt x.asBool (toT t))
  | 48, [k, fs, b, v, x, t] => encN (valueB k.asInt b.asBool x.asBool (toT t) (partS (decF fs) v.asInt x.asBool (toT t)))
  | 49, [f, v, x, t] => encN (field (toF f) v.asInt x.asBool (toT t))
  | 50, [f, t] => .bool (usual (toF f) (toT t))
  | 51, [fs] => .int (known ((decF fs).getD []))
  | 52, [a, b] => .bool (a.asStr == b.asStr)
  | 53, [x, b, n, s] => encN (counted x.asBool b.asBool n.asInt.toNat s.asInt.toNat)
  | 54, [t] => .bool (fitsTo (toT t))
  | 55, [k] => .int (width k.asInt)
  | 56, [f, v, t] => .bool (Mx.null (toF f) v.asInt (toT t))
  | 57, [f, v] => .bool (has (toF f) v.asInt)
  | 58, [n, m] => .int (n.asInt % (m.asInt + 1))
  | 59, [.row [fs, fx], v, t] => encN (partS (decF fs) v.asInt (Flexible fx.asInt v.asInt) (toT t))
  | 60, [.row [fs, fx], v, t] => encN (Fixed v.asInt 2 ++ partS (decF fs) v.asInt (Flexible fx.asInt v.asInt) (toT t))
  | 100, [_, t] => app .nil (Fixed (at' (toT t) 0).S.length 2 ++ (at' (toT t) 0).S)
  | 200, _ => .bool true
  | _, _ => .nil

theorem X_200 (l : List D) : X 200 l = .bool true := by cases l with | nil => rfl | cons a l => cases l with | nil => rfl | cons b l => cases l with | nil => rfl | cons c l => rfl
theorem X_100 (v t : D) : X 100 [v, t] = app .nil (Fixed (at' (toT t) 0).S.length 2 ++ (at' (toT t) 0).S) := rfl
theorem X_1 (t i : D) : X 1 [t, i] = (at' (toT t) i.asInt).d := rfl
theorem X_2 (o b : D) : X 2 [o, b] = app o [if b.asBool then 1 else 0] := rfl
theorem X_3 (o n : D) : X 3 [o, n] = app o (Fixed n.asInt 1) := rfl
theorem X_4 (o n : D) : X 4 [o, n] = app o (Fixed n.asInt 2) := rfl
theorem X_5 (o n : D) : X 5 [o, n] = app o (Fixed n.asInt 2) := rfl
theorem X_6 (o n : D) : X 6 [o, n] = app o (Fixed n.asInt 4) := rfl
theorem X_7 (o n : D) : X 7 [o, n] = app o (Fixed n.asInt 8) := rfl
theorem X_8 (o n : D) : X 8 [o, n] = app o (Fixed n.asNat 8) := rfl
theorem X_9 (o r : D) : X 9 [o, r] = app o (rowBytes r) := rfl
theorem X_10 (o n : D) : X 10 [o, n] = app o (Uvarint n.asInt.toNat) := rfl
theorem X_11 (o s : D) : X 11 [o, s] = app o (Fixed s.len 2 ++ s.asStr) := rfl
theorem X_12 (o s : D) : X 12 [o, s] = app o (Uvarint (s.len + 1) ++ s.asStr) := rfl
theorem X_13 (o p : D) : X 13 [o, p] = app o (if p.isNil then Fixed (-1) 2 else Fixed p.deref.len 2 ++ p.deref.asStr) := rfl
theorem X_14 (o p : D) : X 14 [o, p] = app o (if p.isNil then Uvarint 0 else Uvarint (p.deref.len + 1) ++ p.deref.asStr) := rfl
theorem X_15 (o s : D) : X 15 [o, s] = app o (Fixed s.len 4 ++ s.asStr) := rfl
theorem X_16 (o s : D) : X 16 [o, s] = app o (Uvarint (s.len + 1) ++ s.asStr) := rfl
theorem X_17 (o s : D) : X 17 [o, s] = app o (if s.isNil then Fixed (-1) 4 else Fixed s.len 4 ++ s.asStr) := rfl
theorem X_18 (o s : D) : X 18 [o, s] = app o (if s.isNil then Uvarint 0 else Uvarint (s.len + 1) ++ s.asStr) := rfl
theorem X_19 (o n : D) : X 19 [o, n] = app o (Fixed n.asInt 4) := rfl
theorem X_20 (o n : D) : X 20 [o, n] = app o (Uvarint (n.asInt.toNat + 1)) := rfl
theorem X_21 (o n b : D) : X 21 [o, n, b] = app o (if b.asBool then Fixed (-1) 4 else Fixed n.asInt 4) := rfl
theorem X_22 (o n b : D) : X 22 [o, n, b] = app o (if b.asBool then Uvarint 0 else Uvarint (n.asInt.toNat + 1)) := rfl
theorem X_23 (m k v : D) : X 23 [m, k, v] = .map (insM k.asInt v (mapL m)) := rfl
theorem X_24 (m : D) : X 24 [m] = .int (mapL m).length := rfl
theorem X_25 (m o : D) : X 25 [m, o] = if (mapL m).isEmpty then o else app o ((mapL m).map fun x => tagB x.1.toNat x.2.asStr).flatten := rfl
theorem X_26 (t : D) : X 26 [t] = if (toT t).null then .nil else .ptr (.str (toT t).S) := rfl
theorem X_27 (t : D) : X 27 [t] = if (toT t).null then .nil else .bytes (toT t).S := rfl
theorem X_28 (b : D) : X 28 [b] = .row ((sixteen b.asStr).map fun x => .int x.toNat) := rfl
theorem X_29 (o n : D) : X 29 [o, n] = app o (Fixed n.asInt 8) := rfl
theorem X_30 (o n : D) : X 30 [o, n] = app o (Fixed n.asInt 4) := rfl
theorem X_31 (n : D) : X 31 [n] = .int (Uvarint n.asInt.toNat).length := rfl
theorem X_40 (t i : D) : X 40 [t, i] = (at' (toT t) i.asInt).d := rfl
theorem X_41 (fs u : D) : X 41 [fs, u] = encU (nz (unknown ((decF fs).getD []) (decU u))) := rfl
theorem X_42 (f v t : D) : X 42 [f, v, t] = (fitted (toF f) v.asInt (toT t)).d := rfl
theorem X_43 (fs v t : D) : X 43 [fs, v, t] = (FitS (decF fs) v.asInt (toT t)).d := rfl
theorem X_44 (t : D) : X 44 [t] = (given (toT t)).d := rfl
theorem X_45 (n s : D) : X 45 [n, s] = encN (Fixed n.asInt s.asInt.toNat) := rfl
theorem X_46 (n : D) : X 46 [n] = encN (Uvarint n.asInt.toNat) := rfl
theorem X_47 (fs v x t : D) : X 47 [fs, v, x, t] = encN (partS (decF fs) v.asInt x.asBool (toT t)) := rfl
theorem X_48 (k fs b v x t : D) : X 48 [k, fs, b, v, x, t] = encN (valueB k.asInt b.asBool x.asBool (toT t) (partS (decF fs) v.asInt x.asBool (toT t))) := rfl
theorem X_49 (f v x t : D) : X 49 [f, v, x, t] = encN (field (toF f) v.asInt x.asBool (toT t)) := rfl
theorem X_50 (f t : D) : X 50 [f, t] = .bool (usual (toF f) (toT t)) := rfl
theorem X_51 (fs : D) : X 51 [fs] = .int (known ((decF fs).getD [])) := rfl
theorem X_52 (a b : D) : X 52 [a, b] = .bool (a.asStr == b.asStr) := rfl
theorem X_53 (x b n s : D) : X 53 [x, b, n, s] = encN (counted x.asBool b.asBool n.asInt.toNat s.asInt.toNat) := rfl
theorem X_54 (t : D) : X 54 [t] = .bool (fitsTo (toT t)) := rfl
theorem X_55 (k : D) : X 55 [k] = .int (width k.asInt) := rfl
theorem X_56 (f v t : D) : X 56 [f, v, t] = .bool (Mx.null (toF f) v.asInt (toT t)) := rfl
theorem X_57 (f v : D) : X 57 [f, v] = .bool (has (toF f) v.asInt) := rfl
theorem X_58 (n m : D) : X 58 [n, m] = .int (n.asInt % (m.asInt + 1)) := rfl
theorem X_59 (fs fx v t : D) : X 59 [.row [fs, fx], v, t] = encN (partS (decF fs) v.asInt (Flexible fx.asInt v.asInt) (toT t)) := rfl
theorem X_60 (fs fx v t : D) : X 60 [.row [fs, fx], v, t] = encN (Fixed v.asInt 2 ++ partS (decF fs) v.asInt (Flexible fx.asInt v.asInt) (toT t)) := rfl

/-! ### folds -/
def foldI {A S : Type} (f : Nat → A → S → S) : Nat → List A → S → S
  | _, [], s => s
  | i, a :: r, s => foldI f (i + 1) r (f i a s)
theorem foldRows_enc {A S : Type} {step : Nat → D → List D → List D} (ea : A → D) (es : S → List D) (f : Nat → A → S → S) : ∀ (l : List A) (i : Nat) (s : S), (∀ i a s, a ∈ l → step i (ea a) (es s) = es (f i a s)) → foldRows step i (l.map ea) (es s) = es (foldI f i l s)
  | [], _, _, _ => rfl
  | a :: l, i, s, h => by
    simp only [List.map_cons, foldRows, foldI]
    rw [h i a s (by simp)]
    exact foldRows_enc ea es f l (i + 1) _ (fun i a s ha => h i a s (by simp [ha]))
theorem foldI_const {A S : Type} (f : A → S → S) : ∀ (l : List A) (i : Nat) (s : S), foldI (fun _ a s => f a s) i l s = l.foldl (fun s a => f a s) s
  | [], _, _ => rfl
  | a :: l, i, s => by simp only [foldI, List.foldl]; exact foldI_const f l (i + 1) _

/-! ### the primitives, on data of their kind -/
section
variable {Y : Nat → List D → D}
theorem fe_wrap (k : IntKind) (a : Int) : Fn.eval Y (.wrap k) [.int a] = .int (k.wrap a) := rfl
theorem fe_add (k : IntKind) (a b : Int) : Fn.eval Y (.add k) [.int a, .int b] = .int (k.wrap (a + b)) := rfl
theorem fe_sub (k : IntKind) (a b : Int) : Fn.eval Y (.sub k) [.int a, .int b] = .int (k.wrap (a - b)) := rfl
theorem fe_mul (k : IntKind) (a b : Int) : Fn.eval Y (.mul k) [.int a, .int b] = .int (k.wrap (a * b)) := rfl
theorem fe_shr (k : IntKind) (a b : Int) : Fn.eval Y (.shr k) [.int a, .int b] = .int (shrI a b k) := rfl
theorem fe_eqI (a b : Int) : Fn.eval Y .eqI [.int a, .int b] = .bool (a == b) := rfl
theorem fe_neI (a b : Int) : Fn.eval Y .neI [.int a, .int b] = .bool (a != b) := rfl
theorem fe_ltI (a b : Int) : Fn.eval Y .ltI [.int a, .int b] = .bool (decide (a < b)) := rfl
theorem fe_leI (a b : Int) : Fn.eval Y .leI [.int a, .int b] = .bool (decide (a ≤ b)) := rfl
theorem fe_not (a : Bool) : Fn.eval Y .not [.bool a] = .bool (!a) := rfl
theorem fe_ite (c : Bool) (a b : D) : Fn.eval Y .ite [.bool c, a, b] = if c then a else b := rfl
theorem fe_get (j : Nat) (a : D) : Fn.eval Y (.get j) [a] = a.cells.getD j .nil := rfl
theorem fe_len (a : D) : Fn.eval Y .len [a] = .int a.len := rfl
theorem fe_isNil (a : D) : Fn.eval Y .isNil [a] = .bool a.isNil := rfl
theorem fe_mkrow (l : List D) : Fn.eval Y .mkrow l = .row l := by cases l with | nil => rfl | cons a l => cases l with | nil => rfl | cons b l => cases l with | nil => rfl | cons c l => rfl
theorem fe_mklist (l : List D) : Fn.eval Y .mklist l = .list l := by cases l with | nil => rfl | cons a l => cases l with | nil => rfl | cons b l => cases l with | nil => rfl | cons c l => rfl
theorem fe_app (a b : D) : Fn.eval Y .app [a, b] = a.appd b := rfl
theorem fe_at (a : D) (i : Int) : Fn.eval Y .at [a, .int i] = a.rows.getD i.toNat .nil := rfl
theorem fe_take (a : D) (i : Int) : Fn.eval Y .take [a, .int i] = a.takeD i.toNat := rfl
theorem fe_ext (n : Nat) (l : List D) : Fn.eval Y (.ext n) l = Y n l := by cases l with | nil => rfl | cons a l => cases l with | nil => rfl | cons b l => cases l with | nil => rfl | cons c l => rfl
theorem fe_imin (a b : Int) : Fn.eval Y .imin [.int a, .int b] = .int (min a b) := by
  show D.int (if b < a then b else a) = _
  by_cases h : b < a
  · rw [if_pos h]; congr 1; omega
  · rw [if_neg h]; congr 1; omega
theorem fe_imax (a b : Int) : Fn.eval Y .imax [.int a, .int b] = .int (max a b) := by
  show D.int (if b > a then b else a) = _
  by_cases h : b > a
  · rw [if_pos h]; congr 1; omega
  · rw [if_neg h]; congr 1; omega
theorem ev_v (i : Nat) (δ : List D) : (DE.v i).eval Y δ = δ.getD i .nil := rfl
theorem ev_k (d : D) (δ : List D) : (DE.k d).eval Y δ = d := rfl
theorem ev_f (n : Dx.Fn) (l : List DE) (δ : List D) : (DE.f n l).eval Y δ = Fn.eval Y n (evals Y l δ) := rfl
theorem evs_nil (δ : List D) : evals Y [] δ = [] := rfl
theorem evs_cons (a : DE) (l : List DE) (δ : List D) : evals Y (a :: l) δ = a.eval Y δ :: evals Y l δ := rfl
theorem bool_b (b : Bool) : (D.bool b).asBool = b := rfl
theorem int_i (b : Int) : (D.int b).asInt = b := rfl
end

/-! ### small facts -/
theorem appd_encN (a : List UInt8) (d : D) (h : d = .nil ∨ ∃ s, d = .bytes s ∨ d = .str s) : (encN a).appd d = encN (a ++ d.asStr) := by
  rcases h with rfl | ⟨s, rfl | rfl⟩
  · cases a <;> simp [encN, D.appd, D.asStr]
  · cases a with
    | nil => cases s <;> simp [encN, D.appd, D.asStr]
    | cons x a => simp [encN, D.appd, D.asStr]
  · cases a with
    | nil => cases s <;> simp [encN, D.appd, D.asStr]
    | cons x a => simp [encN, D.appd, D.asStr]
theorem asStr_encN (a : List UInt8) : (encN a).asStr = a := by cases a <;> rfl
theorem asStr_encB (a : Option (List UInt8)) : (encB a).asStr = a.getD [] := by cases a <;> rfl
theorem len_encB (a : Option (List UInt8)) : (encB a).len = (a.getD []).length := by cases a <;> rfl
theorem len_encN (a : List UInt8) : (encN a).len = a.length := by cases a <;> rfl
theorem len_encT (a : Option (List T)) : (encT a).len = (a.getD []).length := by cases a <;> simp [encT, D.len, tds_map]
theorem len_encU (a : Option (List Tg)) : (encU a).len = (a.getD []).length := by cases a <;> simp [encU, D.len]
theorem rows_encT (a : Option (List T)) : (encT a).rows = (a.getD []).map T.d := by cases a <;> simp [encT, D.rows, tds_map]
theorem rows_encU (a : Option (List Tg)) : (encU a).rows = (a.getD []).map Tg.d := by cases a <;> simp [encU, D.rows]
theorem rows_encF (a : Option (List Fl)) : (encF a).rows = (a.getD []).map Fl.d := by cases a <;> simp [encF, D.rows, fds_map]
theorem rows_encB (a : Option (List UInt8)) : (encB a).rows = (a.getD []).map (fun x => D.int x.toNat) := by cases a <;> rfl
theorem cells_T (t : T) : t.d.cells = [.int t.n, encB t.s, .bool t.null, encT t.l, encU t.u] := by cases t; simp [T.d, D.cells, T.n, T.s, T.null, T.l, T.u]
theorem cells_Tg (t : Tg) : t.d.cells = [.int t.key, encB t.val] := rfl
theorem cells_F (f : Fl) : f.d.cells = [.int f.kind, .int f.frm, .int f.to, .int f.null, .int f.tag, .int f.dflt, .int f.of, encF f.sub] := by cases f; simp [Fl.d, D.cells, Fl.kind, Fl.frm, Fl.to, Fl.null, Fl.tag, Fl.dflt, Fl.of, Fl.sub]
theorem takeD_encB (a : Option (List UInt8)) (n : Nat) : (encB a).takeD n = encB (a.map (·.take n)) := by cases a <;> rfl
theorem takeD_encT (a : Option (List T)) (n : Nat) : (encT a).takeD n = encT (a.map (·.take n)) := by cases a <;> simp [encT, D.takeD, tds_map]
theorem takeD_encU (a : Option (List Tg)) (n : Nat) : (encU a).takeD n = encU (a.map (·.take n)) := by cases a <;> simp [encU, D.takeD]

end Go.Mx

namespace Go.Mx
open Go Go.Dx

/-- pub-mailsack/impl.at -/
def de1 : DE := (.f .ite [(.f .ltI [(.v 1), (.f .len [(.f (.get 3) [(.v 0)])])]), (.f .at [(.f (.get 3) [(.v 0)]), (.v 1)]), (.f .mkrow [(.k (.int 0)), (.k .nil), (.k (.bool false)), (.k .nil), (.k .nil)])])
def ob1 : List Ob := [(.when (.f .ltI [(.v 1), (.f .len [(.f (.get 3) [(.v 0)])])]) true [(.idx (.v 1) (.f (.get 3) [(.v 0)]) true)])]
/-- pub-mailsack/pub/kmsg/inner/kbin.AppendBool -/
def de2 : DE := (.f .ite [(.v 1), (.f .app [(.v 0), (.f .mkbytes [(.k (.int 1))])]), (.f .app [(.v 0), (.f .mkbytes [(.k (.int 0))])])])
def ob2 : List Ob := [(.when (.v 1) true [(.room (.f .app [(.v 0), (.f .mkbytes [(.k (.int 1))])]) 1)]), (.when (.v 1) false [(.room (.f .app [(.v 0), (.f .mkbytes [(.k (.int 0))])]) 1)])]
/-- pub-mailsack/pub/kmsg/inner/kbin.AppendInt16 -/
def de4 : DE := (.f (.ext 5) [(.v 0), (.f (.wrap .u16) [(.v 1)])])
def ob4 : List Ob := [(.pre 5 [(.v 0), (.f (.wrap .u16) [(.v 1)])])]
/-- pub-mailsack/pub/kmsg/inner/kbin.AppendUint16 -/
def de5 : DE := (.f .app [(.v 0), (.f .mkbytes [(.f (.wrap .u8) [(.f (.shr .u16) [(.v 1), (.k (.int 8))])]), (.f (.wrap .u8) [(.v 1)])])])
def ob5 : List Ob := [(.room (.f .app [(.v 0), (.f .mkbytes [(.f (.wrap .u8) [(.f (.shr .u16) [(.v 1), (.k (.int 8))])]), (.f (.wrap .u8) [(.v 1)])])]) 1)]
/-- pub-mailsack/pub/kmsg/inner/kbin.AppendInt32 -/
def de6 : DE := (.f (.ext 30) [(.v 0), (.f (.wrap .u32) [(.v 1)])])
def ob6 : List Ob := [(.pre 30 [(.v 0), (.f (.wrap .u32) [(.v 1)])])]
/-- pub-mailsack/pub/kmsg/inner/kbin.AppendInt64 -/
def de7 : DE := (.f (.ext 29) [(.v 0), (.f (.wrap .u64) [(.v 1)])])
def ob7 : List Ob := [(.pre 29 [(.v 0), (.f (.wrap .u64) [(.v 1)])])]
/-- pub-mailsack/pub/kmsg/inner/kbin.AppendUvarint -/
def de10 : DE := (.f .ite [(.f .eqI [(.f (.ext 31) [(.v 1)]), (.k (.int 5))]), (.f .app [(.v 0), (.f .mkbytes [(.f (.wrap .u8) [(.f (.bor .u32) [(.f (.band .u32) [(.v 1), (.k (.int 127))]), (.k (.int 128))])]), (.f (.wrap .u8) [(.f (.bor .u32) [(.f (.band .u32) [(.f (.shr .u32) [(.v 1), (.k (.int 7))]), (.k (.int 127))]), (.k (.int 128))])]), (.f (.wrap .u8) [(.f (.bor .u32) [(.f (.band .u32) [(.f (.shr .u32) [(.v 1), (.k (.int 14))]), (.k (.int 127))]), (.k (.int 128))])]), (.f (.wrap .u8) [(.f (.bor .u32) [(.f (.band .u32) [(.f (.shr .u32) [(.v 1), (.k (.int 21))]), (.k (.int 127))]), (.k (.int 128))])]), (.f (.wrap .u8) [(.f (.shr .u32) [(.v 1), (.k (.int 28))])])])]), (.f .ite [(.f .eqI [(.f (.ext 31) [(.v 1)]), (.k (.int 4))]), (.f .app [(.v 0), (.f .mkbytes [(.f (.wrap .u8) [(.f (.bor .u32) [(.f (.band .u32) [(.v 1), (.k (.int 127))]), (.k (.int 128))])]), (.f (.wrap .u8) [(.f (.bor .u32) [(.f (.band .u32) [(.f (.shr .u32) [(.v 1), (.k (.int 7))]), (.k (.int 127))]), (.k (.int 128))])]), (.f (.wrap .u8) [(.f (.bor .u32) [(.f (.band .u32) [(.f (.shr .u32) [(.v 1), (.k (.int 14))]), (.k (.int 127))]), (.k (.int 128))])]), (.f (.wrap .u8) [(.f (.shr .u32) [(.v 1), (.k (.int 21))])])])]), (.f .ite [(.f .eqI [(.f (.ext 31) [(.v 1)]), (.k (.int 3))]), (.f .app [(.v 0), (.f .mkbytes [(.f (.wrap .u8) [(.f (.bor .u32) [(.f (.band .u32) [(.v 1), (.k (.int 127))]), (.k (.int 128))])]), (.f (.wrap .u8) [(.f (.bor .u32) [(.f (.band .u32) [(.f (.shr .u32) [(.v 1), (.k (.int 7))]), (.k (.int 127))]), (.k (.int 128))])]), (.f (.wrap .u8) [(.f (.shr .u32) [(.v 1), (.k (.int 14))])])])]), (.f .ite [(.f .eqI [(.f (.ext 31) [(.v 1)]), (.k (.int 2))]), (.f .app [(.v 0), (.f .mkbytes [(.f (.wrap .u8) [(.f (.bor .u32) [(.f (.band .u32) [(.v 1), (.k (.int 127))]), (.k (.int 128))])]), (.f (.wrap .u8) [(.f (.shr .u32) [(.v 1), (.k (.int 7))])])])]), (.f .ite [(.f .eqI [(.f (.ext 31) [(.v 1)]), (.k (.int 1))]), (.f .app [(.v 0), (.f .mkbytes [(.f (.wrap .u8) [(.v 1)])])]), (.v 0)])])])])])
def ob10 : List Ob := [(.when (.f .eqI [(.f (.ext 31) [(.v 1)]), (.k (.int 5))]) true [(.room (.f .app [(.v 0), (.f .mkbytes [(.f (.wrap .u8) [(.f (.bor .u32) [(.f (.band .u32) [(.v 1), (.k (.int 127))]), (.k (.int 128))])]), (.f (.wrap .u8) [(.f (.bor .u32) [(.f (.band .u32) [(.f (.shr .u32) [(.v 1), (.k (.int 7))]), (.k (.int 127))]), (.k (.int 128))])]), (.f (.wrap .u8) [(.f (.bor .u32) [(.f (.band .u32) [(.f (.shr .u32) [(.v 1), (.k (.int 14))]), (.k (.int 127))]), (.k (.int 128))])]), (.f (.wrap .u8) [(.f (.bor .u32) [(.f (.band .u32) [(.f (.shr .u32) [(.v 1), (.k (.int 21))]), (.k (.int 127))]), (.k (.int 128))])]), (.f (.wrap .u8) [(.f (.shr .u32) [(.v 1), (.k (.int 28))])])])]) 1)]), (.when (.f .eqI [(.f (.ext 31) [(.v 1)]), (.k (.int 5))]) false [(.when (.f .eqI [(.f (.ext 31) [(.v 1)]), (.k (.int 4))]) true [(.room (.f .app [(.v 0), (.f .mkbytes [(.f (.wrap .u8) [(.f (.bor .u32) [(.f (.band .u32) [(.v 1), (.k (.int 127))]), (.k (.int 128))])]), (.f (.wrap .u8) [(.f (.bor .u32) [(.f (.band .u32) [(.f (.shr .u32) [(.v 1), (.k (.int 7))]), (.k (.int 127))]), (.k (.int 128))])]), (.f (.wrap .u8) [(.f (.bor .u32) [(.f (.band .u32) [(.f (.shr .u32) [(.v 1), (.k (.int 14))]), (.k (.int 127))]), (.k (.int 128))])]), (.f (.wrap .u8) [(.f (.shr .u32) [(.v 1), (.k (.int 21))])])])]) 1)]), (.when (.f .eqI [(.f (.ext 31) [(.v 1)]), (.k (.int 4))]) false [(.when (.f .eqI [(.f (.ext 31) [(.v 1)]), (.k (.int 3))]) true [(.room (.f .app [(.v 0), (.f .mkbytes [(.f (.wrap .u8) [(.f (.bor .u32) [(.f (.band .u32) [(.v 1), (.k (.int 127))]), (.k (.int 128))])]), (.f (.wrap .u8) [(.f (.bor .u32) [(.f (.band .u32) [(.f (.shr .u32) [(.v 1), (.k (.int 7))]), (.k (.int 127))]), (.k (.int 128))])]), (.f (.wrap .u8) [(.f (.shr .u32) [(.v 1), (.k (.int 14))])])])]) 1)]), (.when (.f .eqI [(.f (.ext 31) [(.v 1)]), (.k (.int 3))]) false [(.when (.f .eqI [(.f (.ext 31) [(.v 1)]), (.k (.int 2))]) true [(.room (.f .app [(.v 0), (.f .mkbytes [(.f (.wrap .u8) [(.f (.bor .u32) [(.f (.band .u32) [(.v 1), (.k (.int 127))]), (.k (.int 128))])]), (.f (.wrap .u8) [(.f (.shr .u32) [(.v 1), (.k (.int 7))])])])]) 1)]), (.when (.f .eqI [(.f (.ext 31) [(.v 1)]), (.k (.int 2))]) false [(.when (.f .eqI [(.f (.ext 31) [(.v 1)]), (.k (.int 1))]) true [(.room (.f .app [(.v 0), (.f .mkbytes [(.f (.wrap .u8) [(.v 1)])])]) 1)])])])])]), (.pre 31 [(.v 1)])]
/-- pub-mailsack/pub/kmsg/inner/kbin.AppendString -/
def de11 : DE := (.f .app [(.f (.ext 4) [(.v 0), (.f (.wrap .i16) [(.f .len [(.v 1)])])]), (.v 1)])
def ob11 : List Ob := [(.room (.f .app [(.f (.ext 4) [(.v 0), (.f (.wrap .i16) [(.f .len [(.v 1)])])]), (.v 1)]) 1), (.pre 4 [(.v 0), (.f (.wrap .i16) [(.f .len [(.v 1)])])])]
/-- pub-mailsack/pub/kmsg/inner/kbin.AppendCompactString -/
def de12 : DE := (.f .app [(.f (.ext 10) [(.v 0), (.f (.add .u32) [(.k (.int 1)), (.f (.wrap .u32) [(.f .len [(.v 1)])])])]), (.v 1)])
def ob12 : List Ob := [(.room (.f .app [(.f (.ext 10) [(.v 0), (.f (.add .u32) [(.k (.int 1)), (.f (.wrap .u32) [(.f .len [(.v 1)])])])]), (.v 1)]) 1), (.pre 10 [(.v 0), (.f (.add .u32) [(.k (.int 1)), (.f (.wrap .u32) [(.f .len [(.v 1)])])])])]
/-- pub-mailsack/pub/kmsg/inner/kbin.AppendBytes -/
def de15 : DE := (.f .app [(.f (.ext 6) [(.v 0), (.f (.wrap .i32) [(.f .len [(.v 1)])])]), (.v 1)])
def ob15 : List Ob := [(.room (.f .app [(.f (.ext 6) [(.v 0), (.f (.wrap .i32) [(.f .len [(.v 1)])])]), (.v 1)]) 1), (.pre 6 [(.v 0), (.f (.wrap .i32) [(.f .len [(.v 1)])])])]
/-- pub-mailsack/pub/kmsg/inner/kbin.AppendNullableBytes -/
def de17 : DE := (.f .ite [(.f .isNil [(.v 1)]), (.f (.ext 6) [(.v 0), (.k (.int (-1)))]), (.f (.ext 15) [(.v 0), (.v 1)])])
def ob17 : List Ob := [(.when (.f .isNil [(.v 1)]) true [(.pre 6 [(.v 0), (.k (.int (-1)))])]), (.when (.f .isNil [(.v 1)]) false [(.pre 15 [(.v 0), (.v 1)])])]
/-- pub-mailsack/impl.textOf -/
def de26 : DE := (.f .ite [(.f (.get 2) [(.v 0)]), (.k .nil), (.f .mkptr [(.f .toStr [(.f (.get 1) [(.v 0)])])])])
def ob26 : List Ob := []
/-- pub-mailsack/impl.octetsOf -/
def de27 : DE := (.f .ite [(.f (.get 2) [(.v 0)]), (.k .nil), (.f .app [(.f .mkbytes []), (.f (.get 1) [(.v 0)])])])
def ob27 : List Ob := [(.when (.f (.get 2) [(.v 0)]) false [(.room (.f .app [(.f .mkbytes []), (.f (.get 1) [(.v 0)])]) 1)])]
/-- pub-mailsack/pub/kmsg/inner/kbin.appendUint64 -/
def de29 : DE := (.f .app [(.v 0), (.f .mkbytes [(.f (.wrap .u8) [(.f (.shr .u64) [(.v 1), (.k (.int 56))])]), (.f (.wrap .u8) [(.f (.shr .u64) [(.v 1), (.k (.int 48))])]), (.f (.wrap .u8) [(.f (.shr .u64) [(.v 1), (.k (.int 40))])]), (.f (.wrap .u8) [(.f (.shr .u64) [(.v 1), (.k (.int 32))])]), (.f (.wrap .u8) [(.f (.shr .u64) [(.v 1), (.k (.int 24))])]), (.f (.wrap .u8) [(.f (.shr .u64) [(.v 1), (.k (.int 16))])]), (.f (.wrap .u8) [(.f (.shr .u64) [(.v 1), (.k (.int 8))])]), (.f (.wrap .u8) [(.v 1)])])])
def ob29 : List Ob := [(.room (.f .app [(.v 0), (.f .mkbytes [(.f (.wrap .u8) [(.f (.shr .u64) [(.v 1), (.k (.int 56))])]), (.f (.wrap .u8) [(.f (.shr .u64) [(.v 1), (.k (.int 48))])]), (.f (.wrap .u8) [(.f (.shr .u64) [(.v 1), (.k (.int 40))])]), (.f (.wrap .u8) [(.f (.shr .u64) [(.v 1), (.k (.int 32))])]), (.f (.wrap .u8) [(.f (.shr .u64) [(.v 1), (.k (.int 24))])]), (.f (.wrap .u8) [(.f (.shr .u64) [(.v 1), (.k (.int 16))])]), (.f (.wrap .u8) [(.f (.shr .u64) [(.v 1), (.k (.int 8))])]), (.f (.wrap .u8) [(.v 1)])])]) 1)]
/-- pub-mailsack/pub/kmsg/inner/kbin.AppendUint32 -/
def de30 : DE := (.f .app [(.v 0), (.f .mkbytes [(.f (.wrap .u8) [(.f (.shr .u32) [(.v 1), (.k (.int 24))])]), (.f (.wrap .u8) [(.f (.shr .u32) [(.v 1), (.k (.int 16))])]), (.f (.wrap .u8) [(.f (.shr .u32) [(.v 1), (.k (.int 8))])]), (.f (.wrap .u8) [(.v 1)])])])
def ob30 : List Ob := [(.room (.f .app [(.v 0), (.f .mkbytes [(.f (.wrap .u8) [(.f (.shr .u32) [(.v 1), (.k (.int 24))])]), (.f (.wrap .u8) [(.f (.shr .u32) [(.v 1), (.k (.int 16))])]), (.f (.wrap .u8) [(.f (.shr .u32) [(.v 1), (.k (.int 8))])]), (.f (.wrap .u8) [(.v 1)])])]) 1)]
/-- pub-mailsack/spec.at -/
def de40 : DE := (.f .ite [(.f .ltI [(.v 1), (.f .len [(.f (.get 3) [(.v 0)])])]), (.f .at [(.f (.get 3) [(.v 0)]), (.v 1)]), (.f .mkrow [(.k (.int 0)), (.k .nil), (.k (.bool false)), (.k .nil), (.k .nil)])])
def ob40 : List Ob := [(.when (.f .ltI [(.v 1), (.f .len [(.f (.get 3) [(.v 0)])])]) true [(.idx (.v 1) (.f (.get 3) [(.v 0)]) true)])]
/-- pub-mailsack/spec.unknown -/
def de41 : DE := (.fold 2 (.f .take [(.v 1), (.f .imin [(.f .len [(.v 1)]), (.k (.int 32767))])]) [(.k .nil)] [(.f .ite [(.f .ite [(.f .ltI [(.f (.get 0) [(.v 3)]), (.f (.ext 51) [(.v 0)])]), (.k (.bool true)), (.f .ite [(.f .ltI [(.fold 5 (.f .iota [(.wh 5 (.f .ite [(.f .ltI [(.v 7), (.f .len [(.v 4)])]), (.f .ltI [(.f (.get 0) [(.f .at [(.v 4), (.v 7)])]), (.f (.get 0) [(.v 3)])]), (.k (.bool false))]) [(.k (.int 0))] [(.f (.add .i64) [(.v 7), (.k (.int 1))])])]) [(.k (.int 0))] [(.f (.add .i64) [(.v 7), (.k (.int 1))])] 0), (.f .len [(.v 4)])]), (.f .eqI [(.f (.get 0) [(.f .at [(.v 4), (.fold 5 (.f .iota [(.wh 5 (.f .ite [(.f .ltI [(.v 7), (.f .len [(.v 4)])]), (.f .ltI [(.f (.get 0) [(.f .at [(.v 4), (.v 7)])]), (.f (.get 0) [(.v 3)])]), (.k (.bool false))]) [(.k (.int 0))] [(.f (.add .i64) [(.v 7), (.k (.int 1))])])]) [(.k (.int 0))] [(.f (.add .i64) [(.v 7), (.k (.int 1))])] 0)])]), (.f (.get 0) [(.v 3)])]), (.k (.bool false))])]), (.v 4), (.f .setAt [(.fold 5 (.f .iota [(.wh 5 (.f .ltI [(.fold 5 (.f .iota [(.wh 5 (.f .ite [(.f .ltI [(.v 7), (.f .len [(.v 4)])]), (.f .ltI [(.f (.get 0) [(.f .at [(.v 4), (.v 7)])]), (.f (.get 0) [(.v 3)])]), (.k (.bool false))]) [(.k (.int 0))] [(.f (.add .i64) [(.v 7), (.k (.int 1))])])]) [(.k (.int 0))] [(.f (.add .i64) [(.v 7), (.k (.int 1))])] 0), (.v 7)]) [(.f (.sub .i64) [(.f .len [(.f .app [(.v 4), (.f .mklist [(.f .mkrow [(.k (.int 0)), (.k .nil)])])])]), (.k (.int 1))]), (.f .app [(.v 4), (.f .mklist [(.f .mkrow [(.k (.int 0)), (.k .nil)])])])] [(.f (.sub .i64) [(.v 7), (.k (.int 1))]), (.f .setAt [(.v 8), (.v 7), (.f .at [(.v 8), (.f (.sub .i64) [(.v 7), (.k (.int 1))])])])])]) [(.f (.sub .i64) [(.f .len [(.f .app [(.v 4), (.f .mklist [(.f .mkrow [(.k (.int 0)), (.k .nil)])])])]), (.k (.int 1))]), (.f .app [(.v 4), (.f .mklist [(.f .mkrow [(.k (.int 0)), (.k .nil)])])])] [(.f (.sub .i64) [(.v 7), (.k (.int 1))]), (.f .setAt [(.v 8), (.v 7), (.f .at [(.v 8), (.f (.sub .i64) [(.v 7), (.k (.int 1))])])])] 1), (.fold 5 (.f .iota [(.wh 5 (.f .ite [(.f .ltI [(.v 7), (.f .len [(.v 4)])]), (.f .ltI [(.f (.get 0) [(.f .at [(.v 4), (.v 7)])]), (.f (.get 0) [(.v 3)])]), (.k (.bool false))]) [(.k (.int 0))] [(.f (.add .i64) [(.v 7), (.k (.int 1))])])]) [(.k (.int 0))] [(.f (.add .i64) [(.v 7), (.k (.int 1))])] 0), (.v 3)])])] 0)
def ob41 : List Ob := [(.all (.f .take [(.v 1), (.f .imin [(.f .len [(.v 1)]), (.k (.int 32767))])]) [(.k .nil)] [(.f .ite [(.f .ite [(.f .ltI [(.f (.get 0) [(.v 3)]), (.f (.ext 51) [(.v 0)])]), (.k (.bool true)), (.f .ite [(.f .ltI [(.fold 5 (.f .iota [(.wh 5 (.f .ite [(.f .ltI [(.v 7), (.f .len [(.v 4)])]), (.f .ltI [(.f (.get 0) [(.f .at [(.v 4), (.v 7)])]), (.f (.get 0) [(.v 3)])]), (.k (.bool false))]) [(.k (.int 0))] [(.f (.add .i64) [(.v 7), (.k (.int 1))])])]) [(.k (.int 0))] [(.f (.add .i64) [(.v 7), (.k (.int 1))])] 0), (.f .len [(.v 4)])]), (.f .eqI [(.f (.get 0) [(.f .at [(.v 4), (.fold 5 (.f .iota [(.wh 5 (.f .ite [(.f .ltI [(.v 7), (.f .len [(.v 4)])]), (.f .ltI [(.f (.get 0) [(.f .at [(.v 4), (.v 7)])]), (.f (.get 0) [(.v 3)])]), (.k (.bool false))]) [(.k (.int 0))] [(.f (.add .i64) [(.v 7), (.k (.int 1))])])]) [(.k (.int 0))] [(.f (.add .i64) [(.v 7), (.k (.int 1))])] 0)])]), (.f (.get 0) [(.v 3)])]), (.k (.bool false))])]), (.v 4), (.f .setAt [(.fold 5 (.f .iota [(.wh 5 (.f .ltI [(.fold 5 (.f .iota [(.wh 5 (.f .ite [(.f .ltI [(.v 7), (.f .len [(.v 4)])]), (.f .ltI [(.f (.get 0) [(.f .at [(.v 4), (.v 7)])]), (.f (.get 0) [(.v 3)])]), (.k (.bool false))]) [(.k (.int 0))] [(.f (.add .i64) [(.v 7), (.k (.int 1))])])]) [(.k (.int 0))] [(.f (.add .i64) [(.v 7), (.k (.int 1))])] 0), (.v 7)]) [(.f (.sub .i64) [(.f .len [(.f .app [(.v 4), (.f .mklist [(.f .mkrow [(.k (.int 0)), (.k .nil)])])])]), (.k (.int 1))]), (.f .app [(.v 4), (.f .mklist [(.f .mkrow [(.k (.int 0)), (.k .nil)])])])] [(.f (.sub .i64) [(.v 7), (.k (.int 1))]), (.f .setAt [(.v 8), (.v 7), (.f .at [(.v 8), (.f (.sub .i64) [(.v 7), (.k (.int 1))])])])])]) [(.f (.sub .i64) [(.f .len [(.f .app [(.v 4), (.f .mklist [(.f .mkrow [(.k (.int 0)), (.k .nil)])])])]), (.k (.int 1))]), (.f .app [(.v 4), (.f .mklist [(.f .mkrow [(.k (.int 0)), (.k .nil)])])])] [(.f (.sub .i64) [(.v 7), (.k (.int 1))]), (.f .setAt [(.v 8), (.v 7), (.f .at [(.v 8), (.f (.sub .i64) [(.v 7), (.k (.int 1))])])])] 1), (.fold 5 (.f .iota [(.wh 5 (.f .ite [(.f .ltI [(.v 7), (.f .len [(.v 4)])]), (.f .ltI [(.f (.get 0) [(.f .at [(.v 4), (.v 7)])]), (.f (.get 0) [(.v 3)])]), (.k (.bool false))]) [(.k (.int 0))] [(.f (.add .i64) [(.v 7), (.k (.int 1))])])]) [(.k (.int 0))] [(.f (.add .i64) [(.v 7), (.k (.int 1))])] 0), (.v 3)])])] [(.when (.f .ite [(.f .ltI [(.f (.get 0) [(.v 3)]), (.f (.ext 51) [(.v 0)])]), (.k (.bool true)), (.f .ite [(.f .ltI [(.fold 5 (.f .iota [(.wh 5 (.f .ite [(.f .ltI [(.v 7), (.f .len [(.v 4)])]), (.f .ltI [(.f (.get 0) [(.f .at [(.v 4), (.v 7)])]), (.f (.get 0) [(.v 3)])]), (.k (.bool false))]) [(.k (.int 0))] [(.f (.add .i64) [(.v 7), (.k (.int 1))])])]) [(.k (.int 0))] [(.f (.add .i64) [(.v 7), (.k (.int 1))])] 0), (.f .len [(.v 4)])]), (.f .eqI [(.f (.get 0) [(.f .at [(.v 4), (.fold 5 (.f .iota [(.wh 5 (.f .ite [(.f .ltI [(.v 7), (.f .len [(.v 4)])]), (.f .ltI [(.f (.get 0) [(.f .at [(.v 4), (.v 7)])]), (.f (.get 0) [(.v 3)])]), (.k (.bool false))]) [(.k (.int 0))] [(.f (.add .i64) [(.v 7), (.k (.int 1))])])]) [(.k (.int 0))] [(.f (.add .i64) [(.v 7), (.k (.int 1))])] 0)])]), (.f (.get 0) [(.v 3)])]), (.k (.bool false))])]) false [(.idx (.fold 5 (.f .iota [(.wh 5 (.f .ite [(.f .ltI [(.v 7), (.f .len [(.v 4)])]), (.f .ltI [(.f (.get 0) [(.f .at [(.v 4), (.v 7)])]), (.f (.get 0) [(.v 3)])]), (.k (.bool false))]) [(.k (.int 0))] [(.f (.add .i64) [(.v 7), (.k (.int 1))])])]) [(.k (.int 0))] [(.f (.add .i64) [(.v 7), (.k (.int 1))])] 0) (.fold 5 (.f .iota [(.wh 5 (.f .ltI [(.fold 5 (.f .iota [(.wh 5 (.f .ite [(.f .ltI [(.v 7), (.f .len [(.v 4)])]), (.f .ltI [(.f (.get 0) [(.f .at [(.v 4), (.v 7)])]), (.f (.get 0) [(.v 3)])]), (.k (.bool false))]) [(.k (.int 0))] [(.f (.add .i64) [(.v 7), (.k (.int 1))])])]) [(.k (.int 0))] [(.f (.add .i64) [(.v 7), (.k (.int 1))])] 0), (.v 7)]) [(.f (.sub .i64) [(.f .len [(.f .app [(.v 4), (.f .mklist [(.f .mkrow [(.k (.int 0)), (.k .nil)])])])]), (.k (.int 1))]), (.f .app [(.v 4), (.f .mklist [(.f .mkrow [(.k (.int 0)), (.k .nil)])])])] [(.f (.sub .i64) [(.v 7), (.k (.int 1))]), (.f .setAt [(.v 8), (.v 7), (.f .at [(.v 8), (.f (.sub .i64) [(.v 7), (.k (.int 1))])])])])]) [(.f (.sub .i64) [(.f .len [(.f .app [(.v 4), (.f .mklist [(.f .mkrow [(.k (.int 0)), (.k .nil)])])])]), (.k (.int 1))]), (.f .app [(.v 4), (.f .mklist [(.f .mkrow [(.k (.int 0)), (.k .nil)])])])] [(.f (.sub .i64) [(.v 7), (.k (.int 1))]), (.f .setAt [(.v 8), (.v 7), (.f .at [(.v 8), (.f (.sub .i64) [(.v 7), (.k (.int 1))])])])] 1) true), (.idx (.fold 5 (.f .iota [(.wh 5 (.f .ite [(.f .ltI [(.v 7), (.f .len [(.v 4)])]), (.f .ltI [(.f (.get 0) [(.f .at [(.v 4), (.v 7)])]), (.f (.get 0) [(.v 3)])]), (.k (.bool false))]) [(.k (.int 0))] [(.f (.add .i64) [(.v 7), (.k (.int 1))])])]) [(.k (.int 0))] [(.f (.add .i64) [(.v 7), (.k (.int 1))])] 0) (.fold 5 (.f .iota [(.wh 5 (.f .ltI [(.fold 5 (.f .iota [(.wh 5 (.f .ite [(.f .ltI [(.v 7), (.f .len [(.v 4)])]), (.f .ltI [(.f (.get 0) [(.f .at [(.v 4), (.v 7)])]), (.f (.get 0) [(.v 3)])]), (.k (.bool false))]) [(.k (.int 0))] [(.f (.add .i64) [(.v 7), (.k (.int 1))])])]) [(.k (.int 0))] [(.f (.add .i64) [(.v 7), (.k (.int 1))])] 0), (.v 7)]) [(.f (.sub .i64) [(.f .len [(.f .app [(.v 4), (.f .mklist [(.f .mkrow [(.k (.int 0)), (.k .nil)])])])]), (.k (.int 1))]), (.f .app [(.v 4), (.f .mklist [(.f .mkrow [(.k (.int 0)), (.k .nil)])])])] [(.f (.sub .i64) [(.v 7), (.k (.int 1))]), (.f .setAt [(.v 8), (.v 7), (.f .at [(.v 8), (.f (.sub .i64) [(.v 7), (.k (.int 1))])])])])]) [(.f (.sub .i64) [(.f .len [(.f .app [(.v 4), (.f .mklist [(.f .mkrow [(.k (.int 0)), (.k .nil)])])])]), (.k (.int 1))]), (.f .app [(.v 4), (.f .mklist [(.f .mkrow [(.k (.int 0)), (.k .nil)])])])] [(.f (.sub .i64) [(.v 7), (.k (.int 1))]), (.f .setAt [(.v 8), (.v 7), (.f .at [(.v 8), (.f (.sub .i64) [(.v 7), (.k (.int 1))])])])] 1) true), (.term 5 (.f .ltI [(.fold 5 (.f .iota [(.wh 5 (.f .ite [(.f .ltI [(.v 7), (.f .len [(.v 4)])]), (.f .ltI [(.f (.get 0) [(.f .at [(.v 4), (.v 7)])]), (.f (.get 0) [(.v 3)])]), (.k (.bool false))]) [(.k (.int 0))] [(.f (.add .i64) [(.v 7), (.k (.int 1))])])]) [(.k (.int 0))] [(.f (.add .i64) [(.v 7), (.k (.int 1))])] 0), (.v 7)]) [(.f (.sub .i64) [(.f .len [(.f .app [(.v 4), (.f .mklist [(.f .mkrow [(.k (.int 0)), (.k .nil)])])])]), (.k (.int 1))]), (.f .app [(.v 4), (.f .mklist [(.f .mkrow [(.k (.int 0)), (.k .nil)])])])] [(.f (.sub .i64) [(.v 7), (.k (.int 1))]), (.f .setAt [(.v 8), (.v 7), (.f .at [(.v 8), (.f (.sub .i64) [(.v 7), (.k (.int 1))])])])]), (.all (.f .iotaS [(.wh 5 (.f .ltI [(.fold 5 (.f .iota [(.wh 5 (.f .ite [(.f .ltI [(.v 7), (.f .len [(.v 4)])]), (.f .ltI [(.f (.get 0) [(.f .at [(.v 4), (.v 7)])]), (.f (.get 0) [(.v 3)])]), (.k (.bool false))]) [(.k (.int 0))] [(.f (.add .i64) [(.v 7), (.k (.int 1))])])]) [(.k (.int 0))] [(.f (.add .i64) [(.v 7), (.k (.int 1))])] 0), (.v 7)]) [(.f (.sub .i64) [(.f .len [(.f .app [(.v 4), (.f .mklist [(.f .mkrow [(.k (.int 0)), (.k .nil)])])])]), (.k (.int 1))]), (.f .app [(.v 4), (.f .mklist [(.f .mkrow [(.k (.int 0)), (.k .nil)])])])] [(.f (.sub .i64) [(.v 7), (.k (.int 1))]), (.f .setAt [(.v 8), (.v 7), (.f .at [(.v 8), (.f (.sub .i64) [(.v 7), (.k (.int 1))])])])])]) [(.f (.sub .i64) [(.f .len [(.f .app [(.v 4), (.f .mklist [(.f .mkrow [(.k (.int 0)), (.k .nil)])])])]), (.k (.int 1))]), (.f .app [(.v 4), (.f .mklist [(.f .mkrow [(.k (.int 0)), (.k .nil)])])])] [(.f (.sub .i64) [(.v 7), (.k (.int 1))]), (.f .setAt [(.v 8), (.v 7), (.f .at [(.v 8), (.f (.sub .i64) [(.v 7), (.k (.int 1))])])])] [(.when (.f .ltI [(.fold 5 (.f .iota [(.wh 5 (.f .ite [(.f .ltI [(.v 7), (.f .len [(.v 4)])]), (.f .ltI [(.f (.get 0) [(.f .at [(.v 4), (.v 7)])]), (.f (.get 0) [(.v 3)])]), (.k (.bool false))]) [(.k (.int 0))] [(.f (.add .i64) [(.v 7), (.k (.int 1))])])]) [(.k (.int 0))] [(.f (.add .i64) [(.v 7), (.k (.int 1))])] 0), (.v 7)]) true [(.idx (.v 7) (.v 8) true), (.idx (.v 7) (.v 8) true), (.idx (.f (.sub .i64) [(.v 7), (.k (.int 1))]) (.v 8) true), (.idx (.f (.sub .i64) [(.v 7), (.k (.int 1))]) (.v 8) true)])]), (.room (.f .app [(.v 4), (.f .mklist [(.f .mkrow [(.k (.int 0)), (.k .nil)])])]) 32)]), (.when (.f .ltI [(.f (.get 0) [(.v 3)]), (.f (.ext 51) [(.v 0)])]) false [(.when (.f .ltI [(.fold 5 (.f .iota [(.wh 5 (.f .ite [(.f .ltI [(.v 7), (.f .len [(.v 4)])]), (.f .ltI [(.f (.get 0) [(.f .at [(.v 4), (.v 7)])]), (.f (.get 0) [(.v 3)])]), (.k (.bool false))]) [(.k (.int 0))] [(.f (.add .i64) [(.v 7), (.k (.int 1))])])]) [(.k (.int 0))] [(.f (.add .i64) [(.v 7), (.k (.int 1))])] 0), (.f .len [(.v 4)])]) true [(.idx (.fold 5 (.f .iota [(.wh 5 (.f .ite [(.f .ltI [(.v 7), (.f .len [(.v 4)])]), (.f .ltI [(.f (.get 0) [(.f .at [(.v 4), (.v 7)])]), (.f (.get 0) [(.v 3)])]), (.k (.bool false))]) [(.k (.int 0))] [(.f (.add .i64) [(.v 7), (.k (.int 1))])])]) [(.k (.int 0))] [(.f (.add .i64) [(.v 7), (.k (.int 1))])] 0) (.v 4) true), (.idx (.fold 5 (.f .iota [(.wh 5 (.f .ite [(.f .ltI [(.v 7), (.f .len [(.v 4)])]), (.f .ltI [(.f (.get 0) [(.f .at [(.v 4), (.v 7)])]), (.f (.get 0) [(.v 3)])]), (.k (.bool false))]) [(.k (.int 0))] [(.f (.add .i64) [(.v 7), (.k (.int 1))])])]) [(.k (.int 0))] [(.f (.add .i64) [(.v 7), (.k (.int 1))])] 0) (.v 4) true)])]), (.term 5 (.f .ite [(.f .ltI [(.v 7), (.f .len [(.v 4)])]), (.f .ltI [(.f (.get 0) [(.f .at [(.v 4), (.v 7)])]), (.f (.get 0) [(.v 3)])]), (.k (.bool false))]) [(.k (.int 0))] [(.f (.add .i64) [(.v 7), (.k (.int 1))])]), (.all (.f .iotaS [(.wh 5 (.f .ite [(.f .ltI [(.v 7), (.f .len [(.v 4)])]), (.f .ltI [(.f (.get 0) [(.f .at [(.v 4), (.v 7)])]), (.f (.get 0) [(.v 3)])]), (.k (.bool false))]) [(.k (.int 0))] [(.f (.add .i64) [(.v 7), (.k (.int 1))])])]) [(.k (.int 0))] [(.f (.add .i64) [(.v 7), (.k (.int 1))])] [(.when (.f .ltI [(.v 7), (.f .len [(.v 4)])]) true [(.idx (.v 7) (.v 4) true), (.idx (.v 7) (.v 4) true)])])]), (.idx (.f .imin [(.f .len [(.v 1)]), (.k (.int 32767))]) (.v 1) false), (.pre 51 [(.v 0)])]
/-- pub-mailsack/spec.fitted -/
def de42 : DE := (.f .ite [(.f .ite [(.f .eqI [(.f (.get 0) [(.v 0)]), (.k (.int 8))]), (.f .eqI [(.f (.get 0) [(.v 0)]), (.k (.int 8))]), (.f .eqI [(.f (.get 0) [(.v 0)]), (.k (.int 9))])]), (.f .mkrow [(.k (.int 0)), (.f .take [(.f (.get 1) [(.v 2)]), (.f .imin [(.f .len [(.f (.get 1) [(.v 2)])]), (.k (.int 32767))])]), (.f (.ext 56) [(.v 0), (.v 1), (.v 2)]), (.k .nil), (.k .nil)]), (.f .ite [(.f .eqI [(.f (.get 0) [(.v 0)]), (.k (.int 10))]), (.f .mkrow [(.f (.get 0) [(.f (.ext 43) [(.f (.get 7) [(.v 0)]), (.v 1), (.v 2)])]), (.f (.get 1) [(.f (.ext 43) [(.f (.get 7) [(.v 0)]), (.v 1), (.v 2)])]), (.f (.ext 56) [(.v 0), (.v 1), (.v 2)]), (.f (.get 3) [(.f (.ext 43) [(.f (.get 7) [(.v 0)]), (.v 1), (.v 2)])]), (.f (.get 4) [(.f (.ext 43) [(.f (.get 7) [(.v 0)]), (.v 1), (.v 2)])])]), (.f .ite [(.f .eqI [(.f (.get 0) [(.v 0)]), (.k (.int 11))]), (.f .mkrow [(.k (.int 0)), (.k .nil), (.f .ite [(.f (.ext 56) [(.v 0), (.v 1), (.v 2)]), (.k (.bool true)), (.f .ite [(.f .leI [(.k (.int 0)), (.f (.get 4) [(.v 0)])]), (.f .eqI [(.f .len [(.f (.get 3) [(.v 2)])]), (.k (.int 0))]), (.k (.bool false))])]), (.fold 3 (.f .take [(.f (.get 3) [(.v 2)]), (.f .imin [(.f .len [(.f (.get 3) [(.v 2)])]), (.k (.int 32767))])]) [(.k .nil)] [(.f .app [(.v 5), (.f .mklist [(.f (.ext 42) [(.f .mkrow [(.f (.get 6) [(.v 0)]), (.f (.get 1) [(.v 0)]), (.f (.get 2) [(.v 0)]), (.k (.int (-1))), (.k (.int (-1))), (.f (.get 5) [(.v 0)]), (.f (.get 6) [(.v 0)]), (.f (.get 7) [(.v 0)])]), (.v 1), (.v 4)])])])] 0), (.k .nil)]), (.f .mkrow [(.f (.get 0) [(.v 2)]), (.f (.get 1) [(.v 2)]), (.k (.bool false)), (.k .nil), (.k .nil)])])])])
def ob42 : List Ob := [(.when (.f .ite [(.f .eqI [(.f (.get 0) [(.v 0)]), (.k (.int 8))]), (.f .eqI [(.f (.get 0) [(.v 0)]), (.k (.int 8))]), (.f .eqI [(.f (.get 0) [(.v 0)]), (.k (.int 9))])]) true [(.idx (.f .imin [(.f .len [(.f (.get 1) [(.v 2)])]), (.k (.int 32767))]) (.f (.get 1) [(.v 2)]) false)]), (.when (.f .ite [(.f .eqI [(.f (.get 0) [(.v 0)]), (.k (.int 8))]), (.f .eqI [(.f (.get 0) [(.v 0)]), (.k (.int 8))]), (.f .eqI [(.f (.get 0) [(.v 0)]), (.k (.int 9))])]) false [(.when (.f .eqI [(.f (.get 0) [(.v 0)]), (.k (.int 10))]) true [(.pre 43 [(.f (.get 7) [(.v 0)]), (.v 1), (.v 2)])]), (.when (.f .eqI [(.f (.get 0) [(.v 0)]), (.k (.int 10))]) false [(.when (.f .eqI [(.f (.get 0) [(.v 0)]), (.k (.int 11))]) true [(.all (.f .take [(.f (.get 3) [(.v 2)]), (.f .imin [(.f .len [(.f (.get 3) [(.v 2)])]), (.k (.int 32767))])]) [(.k .nil)] [(.f .app [(.v 5), (.f .mklist [(.f (.ext 42) [(.f .mkrow [(.f (.get 6) [(.v 0)]), (.f (.get 1) [(.v 0)]), (.f (.get 2) [(.v 0)]), (.k (.int (-1))), (.k (.int (-1))), (.f (.get 5) [(.v 0)]), (.f (.get 6) [(.v 0)]), (.f (.get 7) [(.v 0)])]), (.v 1), (.v 4)])])])] [(.room (.f .app [(.v 5), (.f .mklist [(.f (.ext 42) [(.f .mkrow [(.f (.get 6) [(.v 0)]), (.f (.get 1) [(.v 0)]), (.f (.get 2) [(.v 0)]), (.k (.int (-1))), (.k (.int (-1))), (.f (.get 5) [(.v 0)]), (.f (.get 6) [(.v 0)]), (.f (.get 7) [(.v 0)])]), (.v 1), (.v 4)])])]) 88), (.pre 42 [(.f .mkrow [(.f (.get 6) [(.v 0)]), (.f (.get 1) [(.v 0)]), (.f (.get 2) [(.v 0)]), (.k (.int (-1))), (.k (.int (-1))), (.f (.get 5) [(.v 0)]), (.f (.get 6) [(.v 0)]), (.f (.get 7) [(.v 0)])]), (.v 1), (.v 4)])]), (.idx (.f .imin [(.f .len [(.f (.get 3) [(.v 2)])]), (.k (.int 32767))]) (.f (.get 3) [(.v 2)]) false)])])]), (.pre 56 [(.v 0), (.v 1), (.v 2)])]
/-- pub-mailsack/spec.Fit -/
def de43 : DE := (.f .mkrow [(.k (.int 0)), (.k .nil), (.k (.bool false)), (.fold 3 (.v 0) [(.k .nil)] [(.f .app [(.v 5), (.f .mklist [(.f (.ext 42) [(.v 4), (.v 1), (.f (.ext 40) [(.v 2), (.v 3)])])])])] 0), (.fold 3 (.f (.ext 41) [(.v 0), (.f (.get 4) [(.v 2)])]) [(.k .nil)] [(.f .app [(.v 5), (.f .mklist [(.f .mkrow [(.f (.get 0) [(.v 4)]), (.f .take [(.f (.get 1) [(.v 4)]), (.f .imin [(.f .len [(.f (.get 1) [(.v 4)])]), (.k (.int 32767))])])])])])] 0)])
def ob43 : List Ob := [(.all (.f (.ext 41) [(.v 0), (.f (.get 4) [(.v 2)])]) [(.k .nil)] [(.f .app [(.v 5), (.f .mklist [(.f .mkrow [(.f (.get 0) [(.v 4)]), (.f .take [(.f (.get 1) [(.v 4)]), (.f .imin [(.f .len [(.f (.get 1) [(.v 4)])]), (.k (.int 32767))])])])])])] [(.room (.f .app [(.v 5), (.f .mklist [(.f .mkrow [(.f (.get 0) [(.v 4)]), (.f .take [(.f (.get 1) [(.v 4)]), (.f .imin [(.f .len [(.f (.get 1) [(.v 4)])]), (.k (.int 32767))])])])])]) 32), (.idx (.f .imin [(.f .len [(.f (.get 1) [(.v 4)])]), (.k (.int 32767))]) (.f (.get 1) [(.v 4)]) false)]), (.pre 41 [(.v 0), (.f (.get 4) [(.v 2)])]), (.all (.v 0) [(.k .nil)] [(.f .app [(.v 5), (.f .mklist [(.f (.ext 42) [(.v 4), (.v 1), (.f (.ext 40) [(.v 2), (.v 3)])])])])] [(.room (.f .app [(.v 5), (.f .mklist [(.f (.ext 42) [(.v 4), (.v 1), (.f (.ext 40) [(.v 2), (.v 3)])])])]) 88), (.pre 42 [(.v 4), (.v 1), (.f (.ext 40) [(.v 2), (.v 3)])]), (.pre 40 [(.v 2), (.v 3)])])]
/-- pub-mailsack/laws.given -/
def de44 : DE := (.f .mkrow [(.f (.get 0) [(.v 0)]), (.f (.get 1) [(.v 0)]), (.f (.get 2) [(.v 0)]), (.fold 1 (.f (.get 3) [(.v 0)]) [(.k .nil)] [(.f .app [(.v 3), (.f .mklist [(.f (.ext 44) [(.v 2)])])])] 0), (.fold 1 (.f (.get 4) [(.v 0)]) [(.k .nil)] [(.f .app [(.v 3), (.f .mklist [(.f .mkrow [(.f (.get 0) [(.v 2)]), (.f (.get 1) [(.v 2)])])])])] 0)])
def ob44 : List Ob := [(.all (.f (.get 4) [(.v 0)]) [(.k .nil)] [(.f .app [(.v 3), (.f .mklist [(.f .mkrow [(.f (.get 0) [(.v 2)]), (.f (.get 1) [(.v 2)])])])])] [(.room (.f .app [(.v 3), (.f .mklist [(.f .mkrow [(.f (.get 0) [(.v 2)]), (.f (.get 1) [(.v 2)])])])]) 32)]), (.all (.f (.get 3) [(.v 0)]) [(.k .nil)] [(.f .app [(.v 3), (.f .mklist [(.f (.ext 44) [(.v 2)])])])] [(.room (.f .app [(.v 3), (.f .mklist [(.f (.ext 44) [(.v 2)])])]) 88), (.pre 44 [(.v 2)])])]
/-- pub-mailsack/spec.Fixed -/
def de45 : DE := (.fold 2 (.f .iota [(.wh 2 (.f .leI [(.k (.int 0)), (.v 4)]) [(.f (.sub .i64) [(.v 1), (.k (.int 1))]), (.k .nil)] [(.f (.sub .i64) [(.v 4), (.k (.int 1))]), (.f .app [(.v 5), (.f .mkbytes [(.f (.wrap .u8) [(.f (.shr .i64) [(.v 0), (.f (.mul .i64) [(.k (.int 8)), (.v 4)])])])])])])]) [(.f (.sub .i64) [(.v 1), (.k (.int 1))]), (.k .nil)] [(.f (.sub .i64) [(.v 4), (.k (.int 1))]), (.f .app [(.v 5), (.f .mkbytes [(.f (.wrap .u8) [(.f (.shr .i64) [(.v 0), (.f (.mul .i64) [(.k (.int 8)), (.v 4)])])])])])] 1)
def ob45 : List Ob := [(.term 2 (.f .leI [(.k (.int 0)), (.v 4)]) [(.f (.sub .i64) [(.v 1), (.k (.int 1))]), (.k .nil)] [(.f (.sub .i64) [(.v 4), (.k (.int 1))]), (.f .app [(.v 5), (.f .mkbytes [(.f (.wrap .u8) [(.f (.shr .i64) [(.v 0), (.f (.mul .i64) [(.k (.int 8)), (.v 4)])])])])])]), (.all (.f .iotaS [(.wh 2 (.f .leI [(.k (.int 0)), (.v 4)]) [(.f (.sub .i64) [(.v 1), (.k (.int 1))]), (.k .nil)] [(.f (.sub .i64) [(.v 4), (.k (.int 1))]), (.f .app [(.v 5), (.f .mkbytes [(.f (.wrap .u8) [(.f (.shr .i64) [(.v 0), (.f (.mul .i64) [(.k (.int 8)), (.v 4)])])])])])])]) [(.f (.sub .i64) [(.v 1), (.k (.int 1))]), (.k .nil)] [(.f (.sub .i64) [(.v 4), (.k (.int 1))]), (.f .app [(.v 5), (.f .mkbytes [(.f (.wrap .u8) [(.f (.shr .i64) [(.v 0), (.f (.mul .i64) [(.k (.int 8)), (.v 4)])])])])])] [(.when (.f .leI [(.k (.int 0)), (.v 4)]) true [(.room (.f .app [(.v 5), (.f .mkbytes [(.f (.wrap .u8) [(.f (.shr .i64) [(.v 0), (.f (.mul .i64) [(.k (.int 8)), (.v 4)])])])])]) 1), (.ge0 (.f (.mul .i64) [(.k (.int 8)), (.v 4)]))])])]
/-- pub-mailsack/spec.Uvarint -/
def de46 : DE := (.f .app [(.fold 1 (.f .iota [(.wh 1 (.f .ltI [(.k (.int 127)), (.v 4)]) [(.k .nil), (.v 0)] [(.f .app [(.v 3), (.f .mkbytes [(.f (.bor .u8) [(.f (.wrap .u8) [(.f (.band .u64) [(.v 4), (.k (.int 127))])]), (.k (.int 128))])])]), (.f (.shr .u64) [(.v 4), (.k (.int 7))])])]) [(.k .nil), (.v 0)] [(.f .app [(.v 3), (.f .mkbytes [(.f (.bor .u8) [(.f (.wrap .u8) [(.f (.band .u64) [(.v 4), (.k (.int 127))])]), (.k (.int 128))])])]), (.f (.shr .u64) [(.v 4), (.k (.int 7))])] 0), (.f .mkbytes [(.f (.wrap .u8) [(.fold 1 (.f .iota [(.wh 1 (.f .ltI [(.k (.int 127)), (.v 4)]) [(.k .nil), (.v 0)] [(.f .app [(.v 3), (.f .mkbytes [(.f (.bor .u8) [(.f (.wrap .u8) [(.f (.band .u64) [(.v 4), (.k (.int 127))])]), (.k (.int 128))])])]), (.f (.shr .u64) [(.v 4), (.k (.int 7))])])]) [(.k .nil), (.v 0)] [(.f .app [(.v 3), (.f .mkbytes [(.f (.bor .u8) [(.f (.wrap .u8) [(.f (.band .u64) [(.v 4), (.k (.int 127))])]), (.k (.int 128))])])]), (.f (.shr .u64) [(.v 4), (.k (.int 7))])] 1)])])])
def ob46 : List Ob := [(.room (.f .app [(.fold 1 (.f .iota [(.wh 1 (.f .ltI [(.k (.int 127)), (.v 4)]) [(.k .nil), (.v 0)] [(.f .app [(.v 3), (.f .mkbytes [(.f (.bor .u8) [(.f (.wrap .u8) [(.f (.band .u64) [(.v 4), (.k (.int 127))])]), (.k (.int 128))])])]), (.f (.shr .u64) [(.v 4), (.k (.int 7))])])]) [(.k .nil), (.v 0)] [(.f .app [(.v 3), (.f .mkbytes [(.f (.bor .u8) [(.f (.wrap .u8) [(.f (.band .u64) [(.v 4), (.k (.int 127))])]), (.k (.int 128))])])]), (.f (.shr .u64) [(.v 4), (.k (.int 7))])] 0), (.f .mkbytes [(.f (.wrap .u8) [(.fold 1 (.f .iota [(.wh 1 (.f .ltI [(.k (.int 127)), (.v 4)]) [(.k .nil), (.v 0)] [(.f .app [(.v 3), (.f .mkbytes [(.f (.bor .u8) [(.f (.wrap .u8) [(.f (.band .u64) [(.v 4), (.k (.int 127))])]), (.k (.int 128))])])]), (.f (.shr .u64) [(.v 4), (.k (.int 7))])])]) [(.k .nil), (.v 0)] [(.f .app [(.v 3), (.f .mkbytes [(.f (.bor .u8) [(.f (.wrap .u8) [(.f (.band .u64) [(.v 4), (.k (.int 127))])]), (.k (.int 128))])])]), (.f (.shr .u64) [(.v 4), (.k (.int 7))])] 1)])])]) 1), (.term 1 (.f .ltI [(.k (.int 127)), (.v 4)]) [(.k .nil), (.v 0)] [(.f .app [(.v 3), (.f .mkbytes [(.f (.bor .u8) [(.f (.wrap .u8) [(.f (.band .u64) [(.v 4), (.k (.int 127))])]), (.k (.int 128))])])]), (.f (.shr .u64) [(.v 4), (.k (.int 7))])]), (.all (.f .iotaS [(.wh 1 (.f .ltI [(.k (.int 127)), (.v 4)]) [(.k .nil), (.v 0)] [(.f .app [(.v 3), (.f .mkbytes [(.f (.bor .u8) [(.f (.wrap .u8) [(.f (.band .u64) [(.v 4), (.k (.int 127))])]), (.k (.int 128))])])]), (.f (.shr .u64) [(.v 4), (.k (.int 7))])])]) [(.k .nil), (.v 0)] [(.f .app [(.v 3), (.f .mkbytes [(.f (.bor .u8) [(.f (.wrap .u8) [(.f (.band .u64) [(.v 4), (.k (.int 127))])]), (.k (.int 128))])])]), (.f (.shr .u64) [(.v 4), (.k (.int 7))])] [(.when (.f .ltI [(.k (.int 127)), (.v 4)]) true [(.room (.f .app [(.v 3), (.f .mkbytes [(.f (.bor .u8) [(.f (.wrap .u8) [(.f (.band .u64) [(.v 4), (.k (.int 127))])]), (.k (.int 128))])])]) 1)])])]
/-- pub-mailsack/spec.part -/
def de47 : DE := (.f .ite [(.f .not [(.v 2)]), (.fold 4 (.v 0) [(.k .nil)] [(.f .ite [(.f .ite [(.f .ltI [(.f (.get 4) [(.v 5)]), (.k (.int 0))]), (.f (.ext 57) [(.v 5), (.v 1)]), (.k (.bool false))]), (.f .app [(.v 6), (.f (.ext 49) [(.v 5), (.v 1), (.v 2), (.f (.ext 40) [(.v 3), (.v 4)])])]), (.v 6)])] 0), (.f .app [(.f .app [(.fold 4 (.v 0) [(.k .nil)] [(.f .ite [(.f .ite [(.f .ltI [(.f (.get 4) [(.v 5)]), (.k (.int 0))]), (.f (.ext 57) [(.v 5), (.v 1)]), (.k (.bool false))]), (.f .app [(.v 6), (.f (.ext 49) [(.v 5), (.v 1), (.v 2), (.f (.ext 40) [(.v 3), (.v 4)])])]), (.v 6)])] 0), (.f (.ext 46) [(.f (.wrap .u64) [(.fold 4 (.f (.ext 41) [(.v 0), (.f (.get 4) [(.v 3)])]) [(.fold 4 (.f .iota [(.f (.wrap .i64) [(.f (.ext 51) [(.v 0)])])]) [(.k (.int 0)), (.k .nil)] [(.fold 8 (.v 0) [(.v 7), (.v 6)] [(.f .ite [(.f .ite [(.f .eqI [(.f (.get 4) [(.v 9)]), (.v 4)]), (.f .not [(.f (.ext 50) [(.v 9), (.f (.ext 40) [(.v 3), (.v 8)])])]), (.k (.bool false))]), (.f .app [(.f .app [(.f .app [(.v 10), (.f (.ext 46) [(.f (.wrap .u64) [(.v 4)])])]), (.f (.ext 46) [(.f (.wrap .u64) [(.f .len [(.f (.ext 49) [(.v 9), (.v 1), (.v 2), (.f (.ext 40) [(.v 3), (.v 8)])])])])])]), (.f (.ext 49) [(.v 9), (.v 1), (.v 2), (.f (.ext 40) [(.v 3), (.v 8)])])]), (.v 10)]), (.f .ite [(.f .ite [(.f .eqI [(.f (.get 4) [(.v 9)]), (.v 4)]), (.f .not [(.f (.ext 50) [(.v 9), (.f (.ext 40) [(.v 3), (.v 8)])])]), (.k (.bool false))]), (.f (.add .i64) [(.v 11), (.k (.int 1))]), (.v 11)])] 1), (.fold 8 (.v 0) [(.v 7), (.v 6)] [(.f .ite [(.f .ite [(.f .eqI [(.f (.get 4) [(.v 9)]), (.v 4)]), (.f .not [(.f (.ext 50) [(.v 9), (.f (.ext 40) [(.v 3), (.v 8)])])]), (.k (.bool false))]), (.f .app [(.f .app [(.f .app [(.v 10), (.f (.ext 46) [(.f (.wrap .u64) [(.v 4)])])]), (.f (.ext 46) [(.f (.wrap .u64) [(.f .len [(.f (.ext 49) [(.v 9), (.v 1), (.v 2), (.f (.ext 40) [(.v 3), (.v 8)])])])])])]), (.f (.ext 49) [(.v 9), (.v 1), (.v 2), (.f (.ext 40) [(.v 3), (.v 8)])])]), (.v 10)]), (.f .ite [(.f .ite [(.f .eqI [(.f (.get 4) [(.v 9)]), (.v 4)]), (.f .not [(.f (.ext 50) [(.v 9), (.f (.ext 40) [(.v 3), (.v 8)])])]), (.k (.bool false))]), (.f (.add .i64) [(.v 11), (.k (.int 1))]), (.v 11)])] 0)] 1), (.fold 4 (.f .iota [(.f (.wrap .i64) [(.f (.ext 51) [(.v 0)])])]) [(.k (.int 0)), (.k .nil)] [(.fold 8 (.v 0) [(.v 7), (.v 6)] [(.f .ite [(.f .ite [(.f .eqI [(.f (.get 4) [(.v 9)]), (.v 4)]), (.f .not [(.f (.ext 50) [(.v 9), (.f (.ext 40) [(.v 3), (.v 8)])])]), (.k (.bool false))]), (.f .app [(.f .app [(.f .app [(.v 10), (.f (.ext 46) [(.f (.wrap .u64) [(.v 4)])])]), (.f (.ext 46) [(.f (.wrap .u64) [(.f .len [(.f (.ext 49) [(.v 9), (.v 1), (.v 2), (.f (.ext 40) [(.v 3), (.v 8)])])])])])]), (.f (.ext 49) [(.v 9), (.v 1), (.v 2), (.f (.ext 40) [(.v 3), (.v 8)])])]), (.v 10)]), (.f .ite [(.f .ite [(.f .eqI [(.f (.get 4) [(.v 9)]), (.v 4)]), (.f .not [(.f (.ext 50) [(.v 9), (.f (.ext 40) [(.v 3), (.v 8)])])]), (.k (.bool false))]), (.f (.add .i64) [(.v 11), (.k (.int 1))]), (.v 11)])] 1), (.fold 8 (.v 0) [(.v 7), (.v 6)] [(.f .ite [(.f .ite [(.f .eqI [(.f (.get 4) [(.v 9)]), (.v 4)]), (.f .not [(.f (.ext 50) [(.v 9), (.f (.ext 40) [(.v 3), (.v 8)])])]), (.k (.bool false))]), (.f .app [(.f .app [(.f .app [(.v 10), (.f (.ext 46) [(.f (.wrap .u64) [(.v 4)])])]), (.f (.ext 46) [(.f (.wrap .u64) [(.f .len [(.f (.ext 49) [(.v 9), (.v 1), (.v 2), (.f (.ext 40) [(.v 3), (.v 8)])])])])])]), (.f (.ext 49) [(.v 9), (.v 1), (.v 2), (.f (.ext 40) [(.v 3), (.v 8)])])]), (.v 10)]), (.f .ite [(.f .ite [(.f .eqI [(.f (.get 4) [(.v 9)]), (.v 4)]), (.f .not [(.f (.ext 50) [(.v 9), (.f (.ext 40) [(.v 3), (.v 8)])])]), (.k (.bool false))]), (.f (.add .i64) [(.v 11), (.k (.int 1))]), (.v 11)])] 0)] 0)] [(.f .app [(.f .app [(.f .app [(.v 6), (.f (.ext 46) [(.f (.wrap .u64) [(.f (.get 0) [(.v 5)])])])]), (.f (.ext 46) [(.f (.wrap .u64) [(.f .len [(.f .take [(.f (.get 1) [(.v 5)]), (.f .imin [(.f .len [(.f (.get 1) [(.v 5)])]), (.k (.int 32767))])])])])])]), (.f .take [(.f (.get 1) [(.v 5)]), (.f .imin [(.f .len [(.f (.get 1) [(.v 5)])]), (.k (.int 32767))])])]), (.f (.add .i64) [(.v 7), (.k (.int 1))])] 1)])])]), (.fold 4 (.f (.ext 41) [(.v 0), (.f (.get 4) [(.v 3)])]) [(.fold 4 (.f .iota [(.f (.wrap .i64) [(.f (.ext 51) [(.v 0)])])]) [(.k (.int 0)), (.k .nil)] [(.fold 8 (.v 0) [(.v 7), (.v 6)] [(.f .ite [(.f .ite [(.f .eqI [(.f (.get 4) [(.v 9)]), (.v 4)]), (.f .not [(.f (.ext 50) [(.v 9), (.f (.ext 40) [(.v 3), (.v 8)])])]), (.k (.bool false))]), (.f .app [(.f .app [(.f .app [(.v 10), (.f (.ext 46) [(.f (.wrap .u64) [(.v 4)])])]), (.f (.ext 46) [(.f (.wrap .u64) [(.f .len [(.f (.ext 49) [(.v 9), (.v 1), (.v 2), (.f (.ext 40) [(.v 3), (.v 8)])])])])])]), (.f (.ext 49) [(.v 9), (.v 1), (.v 2), (.f (.ext 40) [(.v 3), (.v 8)])])]), (.v 10)]), (.f .ite [(.f .ite [(.f .eqI [(.f (.get 4) [(.v 9)]), (.v 4)]), (.f .not [(.f (.ext 50) [(.v 9), (.f (.ext 40) [(.v 3), (.v 8)])])]), (.k (.bool false))]), (.f (.add .i64) [(.v 11), (.k (.int 1))]), (.v 11)])] 1), (.fold 8 (.v 0) [(.v 7), (.v 6)] [(.f .ite [(.f .ite [(.f .eqI [(.f (.get 4) [(.v 9)]), (.v 4)]), (.f .not [(.f (.ext 50) [(.v 9), (.f (.ext 40) [(.v 3), (.v 8)])])]), (.k (.bool false))]), (.f .app [(.f .app [(.f .app [(.v 10), (.f (.ext 46) [(.f (.wrap .u64) [(.v 4)])])]), (.f (.ext 46) [(.f (.wrap .u64) [(.f .len [(.f (.ext 49) [(.v 9), (.v 1), (.v 2), (.f (.ext 40) [(.v 3), (.v 8)])])])])])]), (.f (.ext 49) [(.v 9), (.v 1), (.v 2), (.f (.ext 40) [(.v 3), (.v 8)])])]), (.v 10)]), (.f .ite [(.f .ite [(.f .eqI [(.f (.get 4) [(.v 9)]), (.v 4)]), (.f .not [(.f (.ext 50) [(.v 9), (.f (.ext 40) [(.v 3), (.v 8)])])]), (.k (.bool false))]), (.f (.add .i64) [(.v 11), (.k (.int 1))]), (.v 11)])] 0)] 1), (.fold 4 (.f .iota [(.f (.wrap .i64) [(.f (.ext 51) [(.v 0)])])]) [(.k (.int 0)), (.k .nil)] [(.fold 8 (.v 0) [(.v 7), (.v 6)] [(.f .ite [(.f .ite [(.f .eqI [(.f (.get 4) [(.v 9)]), (.v 4)]), (.f .not [(.f (.ext 50) [(.v 9), (.f (.ext 40) [(.v 3), (.v 8)])])]), (.k (.bool false))]), (.f .app [(.f .app [(.f .app [(.v 10), (.f (.ext 46) [(.f (.wrap .u64) [(.v 4)])])]), (.f (.ext 46) [(.f (.wrap .u64) [(.f .len [(.f (.ext 49) [(.v 9), (.v 1), (.v 2), (.f (.ext 40) [(.v 3), (.v 8)])])])])])]), (.f (.ext 49) [(.v 9), (.v 1), (.v 2), (.f (.ext 40) [(.v 3), (.v 8)])])]), (.v 10)]), (.f .ite [(.f .ite [(.f .eqI [(.f (.get 4) [(.v 9)]), (.v 4)]), (.f .not [(.f (.ext 50) [(.v 9), (.f (.ext 40) [(.v 3), (.v 8)])])]), (.k (.bool false))]), (.f (.add .i64) [(.v 11), (.k (.int 1))]), (.v 11)])] 1), (.fold 8 (.v 0) [(.v 7), (.v 6)] [(.f .ite [(.f .ite [(.f .eqI [(.f (.get 4) [(.v 9)]), (.v 4)]), (.f .not [(.f (.ext 50) [(.v 9), (.f (.ext 40) [(.v 3), (.v 8)])])]), (.k (.bool false))]), (.f .app [(.f .app [(.f .app [(.v 10), (.f (.ext 46) [(.f (.wrap .u64) [(.v 4)])])]), (.f (.ext 46) [(.f (.wrap .u64) [(.f .len [(.f (.ext 49) [(.v 9), (.v 1), (.v 2), (.f (.ext 40) [(.v 3), (.v 8)])])])])])]), (.f (.ext 49) [(.v 9), (.v 1), (.v 2), (.f (.ext 40) [(.v 3), (.v 8)])])]), (.v 10)]), (.f .ite [(.f .ite [(.f .eqI [(.f (.get 4) [(.v 9)]), (.v 4)]), (.f .not [(.f (.ext 50) [(.v 9), (.f (.ext 40) [(.v 3), (.v 8)])])]), (.k (.bool false))]), (.f (.add .i64) [(.v 11), (.k (.int 1))]), (.v 11)])] 0)] 0)] [(.f .app [(.f .app [(.f .app [(.v 6), (.f (.ext 46) [(.f (.wrap .u64) [(.f (.get 0) [(.v 5)])])])]), (.f (.ext 46) [(.f (.wrap .u64) [(.f .len [(.f .take [(.f (.get 1) [(.v 5)]), (.f .imin [(.f .len [(.f (.get 1) [(.v 5)])]), (.k (.int 32767))])])])])])]), (.f .take [(.f (.get 1) [(.v 5)]), (.f .imin [(.f .len [(.f (.get 1) [(.v 5)])]), (.k (.int 32767))])])]), (.f (.add .i64) [(.v 7), (.k (.int 1))])] 0)])])
def ob47 : List Ob := [(.when (.f .not [(.v 2)]) false [(.room (.f .app [(.f .app [(.fold 4 (.v 0) [(.k .nil)] [(.f .ite [(.f .ite [(.f .ltI [(.f (.get 4) [(.v 5)]), (.k (.int 0))]), (.f (.ext 57) [(.v 5), (.v 1)]), (.k (.bool false))]), (.f .app [(.v 6), (.f (.ext 49) [(.v 5), (.v 1), (.v 2), (.f (.ext 40) [(.v 3), (.v 4)])])]), (.v 6)])] 0), (.f (.ext 46) [(.f (.wrap .u64) [(.fold 4 (.f (.ext 41) [(.v 0), (.f (.get 4) [(.v 3)])]) [(.fold 4 (.f .iota [(.f (.wrap .i64) [(.f (.ext 51) [(.v 0)])])]) [(.k (.int 0)), (.k .nil)] [(.fold 8 (.v 0) [(.v 7), (.v 6)] [(.f .ite [(.f .ite [(.f .eqI [(.f (.get 4) [(.v 9)]), (.v 4)]), (.f .not [(.f (.ext 50) [(.v 9), (.f (.ext 40) [(.v 3), (.v 8)])])]), (.k (.bool false))]), (.f .app [(.f .app [(.f .app [(.v 10), (.f (.ext 46) [(.f (.wrap .u64) [(.v 4)])])]), (.f (.ext 46) [(.f (.wrap .u64) [(.f .len [(.f (.ext 49) [(.v 9), (.v 1), (.v 2), (.f (.ext 40) [(.v 3), (.v 8)])])])])])]), (.f (.ext 49) [(.v 9), (.v 1), (.v 2), (.f (.ext 40) [(.v 3), (.v 8)])])]), (.v 10)]), (.f .ite [(.f .ite [(.f .eqI [(.f (.get 4) [(.v 9)]), (.v 4)]), (.f .not [(.f (.ext 50) [(.v 9), (.f (.ext 40) [(.v 3), (.v 8)])])]), (.k (.bool false))]), (.f (.add .i64) [(.v 11), (.k (.int 1))]), (.v 11)])] 1), (.fold 8 (.v 0) [(.v 7), (.v 6)] [(.f .ite [(.f .ite [(.f .eqI [(.f (.get 4) [(.v 9)]), (.v 4)]), (.f .not [(.f (.ext 50) [(.v 9), (.f (.ext 40) [(.v 3), (.v 8)])])]), (.k (.bool false))]), (.f .app [(.f .app [(.f .app [(.v 10), (.f (.ext 46) [(.f (.wrap .u64) [(.v 4)])])]), (.f (.ext 46) [(.f (.wrap .u64) [(.f .len [(.f (.ext 49) [(.v 9), (.v 1), (.v 2), (.f (.ext 40) [(.v 3), (.v 8)])])])])])]), (.f (.ext 49) [(.v 9), (.v 1), (.v 2), (.f (.ext 40) [(.v 3), (.v 8)])])]), (.v 10)]), (.f .ite [(.f .ite [(.f .eqI [(.f (.get 4) [(.v 9)]), (.v 4)]), (.f .not [(.f (.ext 50) [(.v 9), (.f (.ext 40) [(.v 3), (.v 8)])])]), (.k (.bool false))]), (.f (.add .i64) [(.v 11), (.k (.int 1))]), (.v 11)])] 0)] 1), (.fold 4 (.f .iota [(.f (.wrap .i64) [(.f (.ext 51) [(.v 0)])])]) [(.k (.int 0)), (.k .nil)] [(.fold 8 (.v 0) [(.v 7), (.v 6)] [(.f .ite [(.f .ite [(.f .eqI [(.f (.get 4) [(.v 9)]), (.v 4)]), (.f .not [(.f (.ext 50) [(.v 9), (.f (.ext 40) [(.v 3), (.v 8)])])]), (.k (.bool false))]), (.f .app [(.f .app [(.f .app [(.v 10), (.f (.ext 46) [(.f (.wrap .u64) [(.v 4)])])]), (.f (.ext 46) [(.f (.wrap .u64) [(.f .len [(.f (.ext 49) [(.v 9), (.v 1), (.v 2), (.f (.ext 40) [(.v 3), (.v 8)])])])])])]), (.f (.ext 49) [(.v 9), (.v 1), (.v 2), (.f (.ext 40) [(.v 3), (.v 8)])])]), (.v 10)]), (.f .ite [(.f .ite [(.f .eqI [(.f (.get 4) [(.v 9)]), (.v 4)]), (.f .not [(.f (.ext 50) [(.v 9), (.f (.ext 40) [(.v 3), (.v 8)])])]), (.k (.bool false))]), (.f (.add .i64) [(.v 11), (.k (.int 1))]), (.v 11)])] 1), (.fold 8 (.v 0) [(.v 7), (.v 6)] [(.f .ite [(.f .ite [(.f .eqI [(.f (.get 4) [(.v 9)]), (.v 4)]), (.f .not [(.f (.ext 50) [(.v 9), (.f (.ext 40) [(.v 3), (.v 8)])])]), (.k (.bool false))]), (.f .app [(.f .app [(.f .app [(.v 10), (.f (.ext 46) [(.f (.wrap .u64) [(.v 4)])])]), (.f (.ext 46) [(.f (.wrap .u64) [(.f .len [(.f (.ext 49) [(.v 9), (.v 1), (.v 2), (.f (.ext 40) [(.v 3), (.v 8)])])])])])]), (.f (.ext 49) [(.v 9), (.v 1), (.v 2), (.f (.ext 40) [(.v 3), (.v 8)])])]), (.v 10)]), (.f .ite [(.f .ite [(.f .eqI [(.f (.get 4) [(.v 9)]), (.v 4)]), (.f .not [(.f (.ext 50) [(.v 9), (.f (.ext 40) [(.v 3), (.v 8)])])]), (.k (.bool false))]), (.f (.add .i64) [(.v 11), (.k (.int 1))]), (.v 11)])] 0)] 0)] [(.f .app [(.f .app [(.f .app [(.v 6), (.f (.ext 46) [(.f (.wrap .u64) [(.f (.get 0) [(.v 5)])])])]), (.f (.ext 46) [(.f (.wrap .u64) [(.f .len [(.f .take [(.f (.get 1) [(.v 5)]), (.f .imin [(.f .len [(.f (.get 1) [(.v 5)])]), (.k (.int 32767))])])])])])]), (.f .take [(.f (.get 1) [(.v 5)]), (.f .imin [(.f .len [(.f (.get 1) [(.v 5)])]), (.k (.int 32767))])])]), (.f (.add .i64) [(.v 7), (.k (.int 1))])] 1)])])]), (.fold 4 (.f (.ext 41) [(.v 0), (.f (.get 4) [(.v 3)])]) [(.fold 4 (.f .iota [(.f (.wrap .i64) [(.f (.ext 51) [(.v 0)])])]) [(.k (.int 0)), (.k .nil)] [(.fold 8 (.v 0) [(.v 7), (.v 6)] [(.f .ite [(.f .ite [(.f .eqI [(.f (.get 4) [(.v 9)]), (.v 4)]), (.f .not [(.f (.ext 50) [(.v 9), (.f (.ext 40) [(.v 3), (.v 8)])])]), (.k (.bool false))]), (.f .app [(.f .app [(.f .app [(.v 10), (.f (.ext 46) [(.f (.wrap .u64) [(.v 4)])])]), (.f (.ext 46) [(.f (.wrap .u64) [(.f .len [(.f (.ext 49) [(.v 9), (.v 1), (.v 2), (.f (.ext 40) [(.v 3), (.v 8)])])])])])]), (.f (.ext 49) [(.v 9), (.v 1), (.v 2), (.f (.ext 40) [(.v 3), (.v 8)])])]), (.v 10)]), (.f .ite [(.f .ite [(.f .eqI [(.f (.get 4) [(.v 9)]), (.v 4)]), (.f .not [(.f (.ext 50) [(.v 9), (.f (.ext 40) [(.v 3), (.v 8)])])]), (.k (.bool false))]), (.f (.add .i64) [(.v 11), (.k (.int 1))]), (.v 11)])] 1), (.fold 8 (.v 0) [(.v 7), (.v 6)] [(.f .ite [(.f .ite [(.f .eqI [(.f (.get 4) [(.v 9)]), (.v 4)]), (.f .not [(.f (.ext 50) [(.v 9), (.f (.ext 40) [(.v 3), (.v 8)])])]), (.k (.bool false))]), (.f .app [(.f .app [(.f .app [(.v 10), (.f (.ext 46) [(.f (.wrap .u64) [(.v 4)])])]), (.f (.ext 46) [(.f (.wrap .u64) [(.f .len [(.f (.ext 49) [(.v 9), (.v 1), (.v 2), (.f (.ext 40) [(.v 3), (.v 8)])])])])])]), (.f (.ext 49) [(.v 9), (.v 1), (.v 2), (.f (.ext 40) [(.v 3), (.v 8)])])]), (.v 10)]), (.f .ite [(.f .ite [(.f .eqI [(.f (.get 4) [(.v 9)]), (.v 4)]), (.f .not [(.f (.ext 50) [(.v 9), (.f (.ext 40) [(.v 3), (.v 8)])])]), (.k (.bool false))]), (.f (.add .i64) [(.v 11), (.k (.int 1))]), (.v 11)])] 0)] 1), (.fold 4 (.f .iota [(.f (.wrap .i64) [(.f (.ext 51) [(.v 0)])])]) [(.k (.int 0)), (.k .nil)] [(.fold 8 (.v 0) [(.v 7), (.v 6)] [(.f .ite [(.f .ite [(.f .eqI [(.f (.get 4) [(.v 9)]), (.v 4)]), (.f .not [(.f (.ext 50) [(.v 9), (.f (.ext 40) [(.v 3), (.v 8)])])]), (.k (.bool false))]), (.f .app [(.f .app [(.f .app [(.v 10), (.f (.ext 46) [(.f (.wrap .u64) [(.v 4)])])]), (.f (.ext 46) [(.f (.wrap .u64) [(.f .len [(.f (.ext 49) [(.v 9), (.v 1), (.v 2), (.f (.ext 40) [(.v 3), (.v 8)])])])])])]), (.f (.ext 49) [(.v 9), (.v 1), (.v 2), (.f (.ext 40) [(.v 3), (.v 8)])])]), (.v 10)]), (.f .ite [(.f .ite [(.f .eqI [(.f (.get 4) [(.v 9)]), (.v 4)]), (.f .not [(.f (.ext 50) [(.v 9), (.f (.ext 40) [(.v 3), (.v 8)])])]), (.k (.bool false))]), (.f (.add .i64) [(.v 11), (.k (.int 1))]), (.v 11)])] 1), (.fold 8 (.v 0) [(.v 7), (.v 6)] [(.f .ite [(.f .ite [(.f .eqI [(.f (.get 4) [(.v 9)]), (.v 4)]), (.f .not [(.f (.ext 50) [(.v 9), (.f (.ext 40) [(.v 3), (.v 8)])])]), (.k (.bool false))]), (.f .app [(.f .app [(.f .app [(.v 10), (.f (.ext 46) [(.f (.wrap .u64) [(.v 4)])])]), (.f (.ext 46) [(.f (.wrap .u64) [(.f .len [(.f (.ext 49) [(.v 9), (.v 1), (.v 2), (.f (.ext 40) [(.v 3), (.v 8)])])])])])]), (.f (.ext 49) [(.v 9), (.v 1), (.v 2), (.f (.ext 40) [(.v 3), (.v 8)])])]), (.v 10)]), (.f .ite [(.f .ite [(.f .eqI [(.f (.get 4) [(.v 9)]), (.v 4)]), (.f .not [(.f (.ext 50) [(.v 9), (.f (.ext 40) [(.v 3), (.v 8)])])]), (.k (.bool false))]), (.f (.add .i64) [(.v 11), (.k (.int 1))]), (.v 11)])] 0)] 0)] [(.f .app [(.f .app [(.f .app [(.v 6), (.f (.ext 46) [(.f (.wrap .u64) [(.f (.get 0) [(.v 5)])])])]), (.f (.ext 46) [(.f (.wrap .u64) [(.f .len [(.f .take [(.f (.get 1) [(.v 5)]), (.f .imin [(.f .len [(.f (.get 1) [(.v 5)])]), (.k (.int 32767))])])])])])]), (.f .take [(.f (.get 1) [(.v 5)]), (.f .imin [(.f .len [(.f (.get 1) [(.v 5)])]), (.k (.int 32767))])])]), (.f (.add .i64) [(.v 7), (.k (.int 1))])] 0)]) 1), (.room (.f .app [(.fold 4 (.v 0) [(.k .nil)] [(.f .ite [(.f .ite [(.f .ltI [(.f (.get 4) [(.v 5)]), (.k (.int 0))]), (.f (.ext 57) [(.v 5), (.v 1)]), (.k (.bool false))]), (.f .app [(.v 6), (.f (.ext 49) [(.v 5), (.v 1), (.v 2), (.f (.ext 40) [(.v 3), (.v 4)])])]), (.v 6)])] 0), (.f (.ext 46) [(.f (.wrap .u64) [(.fold 4 (.f (.ext 41) [(.v 0), (.f (.get 4) [(.v 3)])]) [(.fold 4 (.f .iota [(.f (.wrap .i64) [(.f (.ext 51) [(.v 0)])])]) [(.k (.int 0)), (.k .nil)] [(.fold 8 (.v 0) [(.v 7), (.v 6)] [(.f .ite [(.f .ite [(.f .eqI [(.f (.get 4) [(.v 9)]), (.v 4)]), (.f .not [(.f (.ext 50) [(.v 9), (.f (.ext 40) [(.v 3), (.v 8)])])]), (.k (.bool false))]), (.f .app [(.f .app [(.f .app [(.v 10), (.f (.ext 46) [(.f (.wrap .u64) [(.v 4)])])]), (.f (.ext 46) [(.f (.wrap .u64) [(.f .len [(.f (.ext 49) [(.v 9), (.v 1), (.v 2), (.f (.ext 40) [(.v 3), (.v 8)])])])])])]), (.f (.ext 49) [(.v 9), (.v 1), (.v 2), (.f (.ext 40) [(.v 3), (.v 8)])])]), (.v 10)]), (.f .ite [(.f .ite [(.f .eqI [(.f (.get 4) [(.v 9)]), (.v 4)]), (.f .not [(.f (.ext 50) [(.v 9), (.f (.ext 40) [(.v 3), (.v 8)])])]), (.k (.bool false))]), (.f (.add .i64) [(.v 11), (.k (.int 1))]), (.v 11)])] 1), (.fold 8 (.v 0) [(.v 7), (.v 6)] [(.f .ite [(.f .ite [(.f .eqI [(.f (.get 4) [(.v 9)]), (.v 4)]), (.f .not [(.f (.ext 50) [(.v 9), (.f (.ext 40) [(.v 3), (.v 8)])])]), (.k (.bool false))]), (.f .app [(.f .app [(.f .app [(.v 10), (.f (.ext 46) [(.f (.wrap .u64) [(.v 4)])])]), (.f (.ext 46) [(.f (.wrap .u64) [(.f .len [(.f (.ext 49) [(.v 9), (.v 1), (.v 2), (.f (.ext 40) [(.v 3), (.v 8)])])])])])]), (.f (.ext 49) [(.v 9), (.v 1), (.v 2), (.f (.ext 40) [(.v 3), (.v 8)])])]), (.v 10)]), (.f .ite [(.f .ite [(.f .eqI [(.f (.get 4) [(.v 9)]), (.v 4)]), (.f .not [(.f (.ext 50) [(.v 9), (.f (.ext 40) [(.v 3), (.v 8)])])]), (.k (.bool false))]), (.f (.add .i64) [(.v 11), (.k (.int 1))]), (.v 11)])] 0)] 1), (.fold 4 (.f .iota [(.f (.wrap .i64) [(.f (.ext 51) [(.v 0)])])]) [(.k (.int 0)), (.k .nil)] [(.fold 8 (.v 0) [(.v 7), (.v 6)] [(.f .ite [(.f .ite [(.f .eqI [(.f (.get 4) [(.v 9)]), (.v 4)]), (.f .not [(.f (.ext 50) [(.v 9), (.f (.ext 40) [(.v 3), (.v 8)])])]), (.k (.bool false))]), (.f .app [(.f .app [(.f .app [(.v 10), (.f (.ext 46) [(.f (.wrap .u64) [(.v 4)])])]), (.f (.ext 46) [(.f (.wrap .u64) [(.f .len [(.f (.ext 49) [(.v 9), (.v 1), (.v 2), (.f (.ext 40) [(.v 3), (.v 8)])])])])])]), (.f (.ext 49) [(.v 9), (.v 1), (.v 2), (.f (.ext 40) [(.v 3), (.v 8)])])]), (.v 10)]), (.f .ite [(.f .ite [(.f .eqI [(.f (.get 4) [(.v 9)]), (.v 4)]), (.f .not [(.f (.ext 50) [(.v 9), (.f (.ext 40) [(.v 3), (.v 8)])])]), (.k (.bool false))]), (.f (.add .i64) [(.v 11), (.k (.int 1))]), (.v 11)])] 1), (.fold 8 (.v 0) [(.v 7), (.v 6)] [(.f .ite [(.f .ite [(.f .eqI [(.f (.get 4) [(.v 9)]), (.v 4)]), (.f .not [(.f (.ext 50) [(.v 9), (.f (.ext 40) [(.v 3), (.v 8)])])]), (.k (.bool false))]), (.f .app [(.f .app [(.f .app [(.v 10), (.f (.ext 46) [(.f (.wrap .u64) [(.v 4)])])]), (.f (.ext 46) [(.f (.wrap .u64) [(.f .len [(.f (.ext 49) [(.v 9), (.v 1), (.v 2), (.f (.ext 40) [(.v 3), (.v 8)])])])])])]), (.f (.ext 49) [(.v 9), (.v 1), (.v 2), (.f (.ext 40) [(.v 3), (.v 8)])])]), (.v 10)]), (.f .ite [(.f .ite [(.f .eqI [(.f (.get 4) [(.v 9)]), (.v 4)]), (.f .not [(.f (.ext 50) [(.v 9), (.f (.ext 40) [(.v 3), (.v 8)])])]), (.k (.bool false))]), (.f (.add .i64) [(.v 11), (.k (.int 1))]), (.v 11)])] 0)] 0)] [(.f .app [(.f .app [(.f .app [(.v 6), (.f (.ext 46) [(.f (.wrap .u64) [(.f (.get 0) [(.v 5)])])])]), (.f (.ext 46) [(.f (.wrap .u64) [(.f .len [(.f .take [(.f (.get 1) [(.v 5)]), (.f .imin [(.f .len [(.f (.get 1) [(.v 5)])]), (.k (.int 32767))])])])])])]), (.f .take [(.f (.get 1) [(.v 5)]), (.f .imin [(.f .len [(.f (.get 1) [(.v 5)])]), (.k (.int 32767))])])]), (.f (.add .i64) [(.v 7), (.k (.int 1))])] 1)])])]) 1), (.pre 46 [(.f (.wrap .u64) [(.fold 4 (.f (.ext 41) [(.v 0), (.f (.get 4) [(.v 3)])]) [(.fold 4 (.f .iota [(.f (.wrap .i64) [(.f (.ext 51) [(.v 0)])])]) [(.k (.int 0)), (.k .nil)] [(.fold 8 (.v 0) [(.v 7), (.v 6)] [(.f .ite [(.f .ite [(.f .eqI [(.f (.get 4) [(.v 9)]), (.v 4)]), (.f .not [(.f (.ext 50) [(.v 9), (.f (.ext 40) [(.v 3), (.v 8)])])]), (.k (.bool false))]), (.f .app [(.f .app [(.f .app [(.v 10), (.f (.ext 46) [(.f (.wrap .u64) [(.v 4)])])]), (.f (.ext 46) [(.f (.wrap .u64) [(.f .len [(.f (.ext 49) [(.v 9), (.v 1), (.v 2), (.f (.ext 40) [(.v 3), (.v 8)])])])])])]), (.f (.ext 49) [(.v 9), (.v 1), (.v 2), (.f (.ext 40) [(.v 3), (.v 8)])])]), (.v 10)]), (.f .ite [(.f .ite [(.f .eqI [(.f (.get 4) [(.v 9)]), (.v 4)]), (.f .not [(.f (.ext 50) [(.v 9), (.f (.ext 40) [(.v 3), (.v 8)])])]), (.k (.bool false))]), (.f (.add .i64) [(.v 11), (.k (.int 1))]), (.v 11)])] 1), (.fold 8 (.v 0) [(.v 7), (.v 6)] [(.f .ite [(.f .ite [(.f .eqI [(.f (.get 4) [(.v 9)]), (.v 4)]), (.f .not [(.f (.ext 50) [(.v 9), (.f (.ext 40) [(.v 3), (.v 8)])])]), (.k (.bool false))]), (.f .app [(.f .app [(.f .app [(.v 10), (.f (.ext 46) [(.f (.wrap .u64) [(.v 4)])])]), (.f (.ext 46) [(.f (.wrap .u64) [(.f .len [(.f (.ext 49) [(.v 9), (.v 1), (.v 2), (.f (.ext 40) [(.v 3), (.v 8)])])])])])]), (.f (.ext 49) [(.v 9), (.v 1), (.v 2), (.f (.ext 40) [(.v 3), (.v 8)])])]), (.v 10)]), (.f .ite [(.f .ite [(.f .eqI [(.f (.get 4) [(.v 9)]), (.v 4)]), (.f .not [(.f (.ext 50) [(.v 9), (.f (.ext 40) [(.v 3), (.v 8)])])]), (.k (.bool false))]), (.f (.add .i64) [(.v 11), (.k (.int 1))]), (.v 11)])] 0)] 1), (.fold 4 (.f .iota [(.f (.wrap .i64) [(.f (.ext 51) [(.v 0)])])]) [(.k (.int 0)), (.k .nil)] [(.fold 8 (.v 0) [(.v 7), (.v 6)] [(.f .ite [(.f .ite [(.f .eqI [(.f (.get 4) [(.v 9)]), (.v 4)]), (.f .not [(.f (.ext 50) [(.v 9), (.f (.ext 40) [(.v 3), (.v 8)])])]), (.k (.bool false))]), (.f .app [(.f .app [(.f .app [(.v 10), (.f (.ext 46) [(.f (.wrap .u64) [(.v 4)])])]), (.f (.ext 46) [(.f (.wrap .u64) [(.f .len [(.f (.ext 49) [(.v 9), (.v 1), (.v 2), (.f (.ext 40) [(.v 3), (.v 8)])])])])])]), (.f (.ext 49) [(.v 9), (.v 1), (.v 2), (.f (.ext 40) [(.v 3), (.v 8)])])]), (.v 10)]), (.f .ite [(.f .ite [(.f .eqI [(.f (.get 4) [(.v 9)]), (.v 4)]), (.f .not [(.f (.ext 50) [(.v 9), (.f (.ext 40) [(.v 3), (.v 8)])])]), (.k (.bool false))]), (.f (.add .i64) [(.v 11), (.k (.int 1))]), (.v 11)])] 1), (.fold 8 (.v 0) [(.v 7), (.v 6)] [(.f .ite [(.f .ite [(.f .eqI [(.f (.get 4) [(.v 9)]), (.v 4)]), (.f .not [(.f (.ext 50) [(.v 9), (.f (.ext 40) [(.v 3), (.v 8)])])]), (.k (.bool false))]), (.f .app [(.f .app [(.f .app [(.v 10), (.f (.ext 46) [(.f (.wrap .u64) [(.v 4)])])]), (.f (.ext 46) [(.f (.wrap .u64) [(.f .len [(.f (.ext 49) [(.v 9), (.v 1), (.v 2), (.f (.ext 40) [(.v 3), (.v 8)])])])])])]), (.f (.ext 49) [(.v 9), (.v 1), (.v 2), (.f (.ext 40) [(.v 3), (.v 8)])])]), (.v 10)]), (.f .ite [(.f .ite [(.f .eqI [(.f (.get 4) [(.v 9)]), (.v 4)]), (.f .not [(.f (.ext 50) [(.v 9), (.f (.ext 40) [(.v 3), (.v 8)])])]), (.k (.bool false))]), (.f (.add .i64) [(.v 11), (.k (.int 1))]), (.v 11)])] 0)] 0)] [(.f .app [(.f .app [(.f .app [(.v 6), (.f (.ext 46) [(.f (.wrap .u64) [(.f (.get 0) [(.v 5)])])])]), (.f (.ext 46) [(.f (.wrap .u64) [(.f .len [(.f .take [(.f (.get 1) [(.v 5)]), (.f .imin [(.f .len [(.f (.get 1) [(.v 5)])]), (.k (.int 32767))])])])])])]), (.f .take [(.f (.get 1) [(.v 5)]), (.f .imin [(.f .len [(.f (.get 1) [(.v 5)])]), (.k (.int 32767))])])]), (.f (.add .i64) [(.v 7), (.k (.int 1))])] 1)])]), (.all (.f (.ext 41) [(.v 0), (.f (.get 4) [(.v 3)])]) [(.fold 4 (.f .iota [(.f (.wrap .i64) [(.f (.ext 51) [(.v 0)])])]) [(.k (.int 0)), (.k .nil)] [(.fold 8 (.v 0) [(.v 7), (.v 6)] [(.f .ite [(.f .ite [(.f .eqI [(.f (.get 4) [(.v 9)]), (.v 4)]), (.f .not [(.f (.ext 50) [(.v 9), (.f (.ext 40) [(.v 3), (.v 8)])])]), (.k (.bool false))]), (.f .app [(.f .app [(.f .app [(.v 10), (.f (.ext 46) [(.f (.wrap .u64) [(.v 4)])])]), (.f (.ext 46) [(.f (.wrap .u64) [(.f .len [(.f (.ext 49) [(.v 9), (.v 1), (.v 2), (.f (.ext 40) [(.v 3), (.v 8)])])])])])]), (.f (.ext 49) [(.v 9), (.v 1), (.v 2), (.f (.ext 40) [(.v 3), (.v 8)])])]), (.v 10)]), (.f .ite [(.f .ite [(.f .eqI [(.f (.get 4) [(.v 9)]), (.v 4)]), (.f .not [(.f (.ext 50) [(.v 9), (.f (.ext 40) [(.v 3), (.v 8)])])]), (.k (.bool false))]), (.f (.add .i64) [(.v 11), (.k (.int 1))]), (.v 11)])] 1), (.fold 8 (.v 0) [(.v 7), (.v 6)] [(.f .ite [(.f .ite [(.f .eqI [(.f (.get 4) [(.v 9)]), (.v 4)]), (.f .not [(.f (.ext 50) [(.v 9), (.f (.ext 40) [(.v 3), (.v 8)])])]), (.k (.bool false))]), (.f .app [(.f .app [(.f .app [(.v 10), (.f (.ext 46) [(.f (.wrap .u64) [(.v 4)])])]), (.f (.ext 46) [(.f (.wrap .u64) [(.f .len [(.f (.ext 49) [(.v 9), (.v 1), (.v 2), (.f (.ext 40) [(.v 3), (.v 8)])])])])])]), (.f (.ext 49) [(.v 9), (.v 1), (.v 2), (.f (.ext 40) [(.v 3), (.v 8)])])]), (.v 10)]), (.f .ite [(.f .ite [(.f .eqI [(.f (.get 4) [(.v 9)]), (.v 4)]), (.f .not [(.f (.ext 50) [(.v 9), (.f (.ext 40) [(.v 3), (.v 8)])])]), (.k (.bool false))]), (.f (.add .i64) [(.v 11), (.k (.int 1))]), (.v 11)])] 0)] 1), (.fold 4 (.f .iota [(.f (.wrap .i64) [(.f (.ext 51) [(.v 0)])])]) [(.k (.int 0)), (.k .nil)] [(.fold 8 (.v 0) [(.v 7), (.v 6)] [(.f .ite [(.f .ite [(.f .eqI [(.f (.get 4) [(.v 9)]), (.v 4)]), (.f .not [(.f (.ext 50) [(.v 9), (.f (.ext 40) [(.v 3), (.v 8)])])]), (.k (.bool false))]), (.f .app [(.f .app [(.f .app [(.v 10), (.f (.ext 46) [(.f (.wrap .u64) [(.v 4)])])]), (.f (.ext 46) [(.f (.wrap .u64) [(.f .len [(.f (.ext 49) [(.v 9), (.v 1), (.v 2), (.f (.ext 40) [(.v 3), (.v 8)])])])])])]), (.f (.ext 49) [(.v 9), (.v 1), (.v 2), (.f (.ext 40) [(.v 3), (.v 8)])])]), (.v 10)]), (.f .ite [(.f .ite [(.f .eqI [(.f (.get 4) [(.v 9)]), (.v 4)]), (.f .not [(.f (.ext 50) [(.v 9), (.f (.ext 40) [(.v 3), (.v 8)])])]), (.k (.bool false))]), (.f (.add .i64) [(.v 11), (.k (.int 1))]), (.v 11)])] 1), (.fold 8 (.v 0) [(.v 7), (.v 6)] [(.f .ite [(.f .ite [(.f .eqI [(.f (.get 4) [(.v 9)]), (.v 4)]), (.f .not [(.f (.ext 50) [(.v 9), (.f (.ext 40) [(.v 3), (.v 8)])])]), (.k (.bool false))]), (.f .app [(.f .app [(.f .app [(.v 10), (.f (.ext 46) [(.f (.wrap .u64) [(.v 4)])])]), (.f (.ext 46) [(.f (.wrap .u64) [(.f .len [(.f (.ext 49) [(.v 9), (.v 1), (.v 2), (.f (.ext 40) [(.v 3), (.v 8)])])])])])]), (.f (.ext 49) [(.v 9), (.v 1), (.v 2), (.f (.ext 40) [(.v 3), (.v 8)])])]), (.v 10)]), (.f .ite [(.f .ite [(.f .eqI [(.f (.get 4) [(.v 9)]), (.v 4)]), (.f .not [(.f (.ext 50) [(.v 9), (.f (.ext 40) [(.v 3), (.v 8)])])]), (.k (.bool false))]), (.f (.add .i64) [(.v 11), (.k (.int 1))]), (.v 11)])] 0)] 0)] [(.f .app [(.f .app [(.f .app [(.v 6), (.f (.ext 46) [(.f (.wrap .u64) [(.f (.get 0) [(.v 5)])])])]), (.f (.ext 46) [(.f (.wrap .u64) [(.f .len [(.f .take [(.f (.get 1) [(.v 5)]), (.f .imin [(.f .len [(.f (.get 1) [(.v 5)])]), (.k (.int 32767))])])])])])]), (.f .take [(.f (.get 1) [(.v 5)]), (.f .imin [(.f .len [(.f (.get 1) [(.v 5)])]), (.k (.int 32767))])])]), (.f (.add .i64) [(.v 7), (.k (.int 1))])] [(.room (.f .app [(.f .app [(.f .app [(.v 6), (.f (.ext 46) [(.f (.wrap .u64) [(.f (.get 0) [(.v 5)])])])]), (.f (.ext 46) [(.f (.wrap .u64) [(.f .len [(.f .take [(.f (.get 1) [(.v 5)]), (.f .imin [(.f .len [(.f (.get 1) [(.v 5)])]), (.k (.int 32767))])])])])])]), (.f .take [(.f (.get 1) [(.v 5)]), (.f .imin [(.f .len [(.f (.get 1) [(.v 5)])]), (.k (.int 32767))])])]) 1), (.room (.f .app [(.f .app [(.v 6), (.f (.ext 46) [(.f (.wrap .u64) [(.f (.get 0) [(.v 5)])])])]), (.f (.ext 46) [(.f (.wrap .u64) [(.f .len [(.f .take [(.f (.get 1) [(.v 5)]), (.f .imin [(.f .len [(.f (.get 1) [(.v 5)])]), (.k (.int 32767))])])])])])]) 1), (.pre 46 [(.f (.wrap .u64) [(.f .len [(.f .take [(.f (.get 1) [(.v 5)]), (.f .imin [(.f .len [(.f (.get 1) [(.v 5)])]), (.k (.int 32767))])])])])]), (.room (.f .app [(.v 6), (.f (.ext 46) [(.f (.wrap .u64) [(.f (.get 0) [(.v 5)])])])]) 1), (.pre 46 [(.f (.wrap .u64) [(.f (.get 0) [(.v 5)])])]), (.idx (.f .imin [(.f .len [(.f (.get 1) [(.v 5)])]), (.k (.int 32767))]) (.f (.get 1) [(.v 5)]) false)]), (.pre 41 [(.v 0), (.f (.get 4) [(.v 3)])]), (.all (.f .iota [(.f (.wrap .i64) [(.f (.ext 51) [(.v 0)])])]) [(.k (.int 0)), (.k .nil)] [(.fold 8 (.v 0) [(.v 7), (.v 6)] [(.f .ite [(.f .ite [(.f .eqI [(.f (.get 4) [(.v 9)]), (.v 4)]), (.f .not [(.f (.ext 50) [(.v 9), (.f (.ext 40) [(.v 3), (.v 8)])])]), (.k (.bool false))]), (.f .app [(.f .app [(.f .app [(.v 10), (.f (.ext 46) [(.f (.wrap .u64) [(.v 4)])])]), (.f (.ext 46) [(.f (.wrap .u64) [(.f .len [(.f (.ext 49) [(.v 9), (.v 1), (.v 2), (.f (.ext 40) [(.v 3), (.v 8)])])])])])]), (.f (.ext 49) [(.v 9), (.v 1), (.v 2), (.f (.ext 40) [(.v 3), (.v 8)])])]), (.v 10)]), (.f .ite [(.f .ite [(.f .eqI [(.f (.get 4) [(.v 9)]), (.v 4)]), (.f .not [(.f (.ext 50) [(.v 9), (.f (.ext 40) [(.v 3), (.v 8)])])]), (.k (.bool false))]), (.f (.add .i64) [(.v 11), (.k (.int 1))]), (.v 11)])] 1), (.fold 8 (.v 0) [(.v 7), (.v 6)] [(.f .ite [(.f .ite [(.f .eqI [(.f (.get 4) [(.v 9)]), (.v 4)]), (.f .not [(.f (.ext 50) [(.v 9), (.f (.ext 40) [(.v 3), (.v 8)])])]), (.k (.bool false))]), (.f .app [(.f .app [(.f .app [(.v 10), (.f (.ext 46) [(.f (.wrap .u64) [(.v 4)])])]), (.f (.ext 46) [(.f (.wrap .u64) [(.f .len [(.f (.ext 49) [(.v 9), (.v 1), (.v 2), (.f (.ext 40) [(.v 3), (.v 8)])])])])])]), (.f (.ext 49) [(.v 9), (.v 1), (.v 2), (.f (.ext 40) [(.v 3), (.v 8)])])]), (.v 10)]), (.f .ite [(.f .ite [(.f .eqI [(.f (.get 4) [(.v 9)]), (.v 4)]), (.f .not [(.f (.ext 50) [(.v 9), (.f (.ext 40) [(.v 3), (.v 8)])])]), (.k (.bool false))]), (.f (.add .i64) [(.v 11), (.k (.int 1))]), (.v 11)])] 0)] [(.all (.v 0) [(.v 7), (.v 6)] [(.f .ite [(.f .ite [(.f .eqI [(.f (.get 4) [(.v 9)]), (.v 4)]), (.f .not [(.f (.ext 50) [(.v 9), (.f (.ext 40) [(.v 3), (.v 8)])])]), (.k (.bool false))]), (.f .app [(.f .app [(.f .app [(.v 10), (.f (.ext 46) [(.f (.wrap .u64) [(.v 4)])])]), (.f (.ext 46) [(.f (.wrap .u64) [(.f .len [(.f (.ext 49) [(.v 9), (.v 1), (.v 2), (.f (.ext 40) [(.v 3), (.v 8)])])])])])]), (.f (.ext 49) [(.v 9), (.v 1), (.v 2), (.f (.ext 40) [(.v 3), (.v 8)])])]), (.v 10)]), (.f .ite [(.f .ite [(.f .eqI [(.f (.get 4) [(.v 9)]), (.v 4)]), (.f .not [(.f (.ext 50) [(.v 9), (.f (.ext 40) [(.v 3), (.v 8)])])]), (.k (.bool false))]), (.f (.add .i64) [(.v 11), (.k (.int 1))]), (.v 11)])] [(.when (.f .ite [(.f .eqI [(.f (.get 4) [(.v 9)]), (.v 4)]), (.f .not [(.f (.ext 50) [(.v 9), (.f (.ext 40) [(.v 3), (.v 8)])])]), (.k (.bool false))]) true [(.room (.f .app [(.f .app [(.f .app [(.v 10), (.f (.ext 46) [(.f (.wrap .u64) [(.v 4)])])]), (.f (.ext 46) [(.f (.wrap .u64) [(.f .len [(.f (.ext 49) [(.v 9), (.v 1), (.v 2), (.f (.ext 40) [(.v 3), (.v 8)])])])])])]), (.f (.ext 49) [(.v 9), (.v 1), (.v 2), (.f (.ext 40) [(.v 3), (.v 8)])])]) 1), (.room (.f .app [(.f .app [(.v 10), (.f (.ext 46) [(.f (.wrap .u64) [(.v 4)])])]), (.f (.ext 46) [(.f (.wrap .u64) [(.f .len [(.f (.ext 49) [(.v 9), (.v 1), (.v 2), (.f (.ext 40) [(.v 3), (.v 8)])])])])])]) 1), (.pre 46 [(.f (.wrap .u64) [(.f .len [(.f (.ext 49) [(.v 9), (.v 1), (.v 2), (.f (.ext 40) [(.v 3), (.v 8)])])])])]), (.room (.f .app [(.v 10), (.f (.ext 46) [(.f (.wrap .u64) [(.v 4)])])]) 1), (.pre 46 [(.f (.wrap .u64) [(.v 4)])]), (.pre 49 [(.v 9), (.v 1), (.v 2), (.f (.ext 40) [(.v 3), (.v 8)])]), (.pre 40 [(.v 3), (.v 8)])]), (.when (.f .eqI [(.f (.get 4) [(.v 9)]), (.v 4)]) true [(.pre 50 [(.v 9), (.f (.ext 40) [(.v 3), (.v 8)])]), (.pre 40 [(.v 3), (.v 8)])])])]), (.pre 51 [(.v 0)])]), (.all (.v 0) [(.k .nil)] [(.f .ite [(.f .ite [(.f .ltI [(.f (.get 4) [(.v 5)]), (.k (.int 0))]), (.f (.ext 57) [(.v 5), (.v 1)]), (.k (.bool false))]), (.f .app [(.v 6), (.f (.ext 49) [(.v 5), (.v 1), (.v 2), (.f (.ext 40) [(.v 3), (.v 4)])])]), (.v 6)])] [(.when (.f .ite [(.f .ltI [(.f (.get 4) [(.v 5)]), (.k (.int 0))]), (.f (.ext 57) [(.v 5), (.v 1)]), (.k (.bool false))]) true [(.room (.f .app [(.v 6), (.f (.ext 49) [(.v 5), (.v 1), (.v 2), (.f (.ext 40) [(.v 3), (.v 4)])])]) 1), (.pre 49 [(.v 5), (.v 1), (.v 2), (.f (.ext 40) [(.v 3), (.v 4)])]), (.pre 40 [(.v 3), (.v 4)])]), (.when (.f .ltI [(.f (.get 4) [(.v 5)]), (.k (.int 0))]) true [(.pre 57 [(.v 5), (.v 1)])])])]
/-- pub-mailsack/spec.value -/
def de48 : DE := (.f .ite [(.f .eqI [(.v 0), (.k (.int 0))]), (.f .mkbytes [(.f (.wrap .u8) [(.f (.band .i64) [(.f (.get 0) [(.v 5)]), (.k (.int 1))])])]), (.f .ite [(.f .eqI [(.v 0), (.k (.int 7))]), (.f .copy [(.f .zeros [(.k (.int 16))]), (.f (.get 1) [(.v 5)])]), (.f .ite [(.f .eqI [(.v 0), (.k (.int 8))]), (.f .app [(.f (.ext 53) [(.v 4), (.v 2), (.f .len [(.f .ite [(.v 2), (.k .nil), (.f .take [(.f (.get 1) [(.v 5)]), (.f .imin [(.f .len [(.f (.get 1) [(.v 5)])]), (.k (.int 32767))])])])]), (.k (.int 2))]), (.f .ite [(.v 2), (.k .nil), (.f .take [(.f (.get 1) [(.v 5)]), (.f .imin [(.f .len [(.f (.get 1) [(.v 5)])]), (.k (.int 32767))])])])]), (.f .ite [(.f .eqI [(.v 0), (.k (.int 9))]), (.f .app [(.f (.ext 53) [(.v 4), (.v 2), (.f .len [(.f .ite [(.v 2), (.k .nil), (.f .take [(.f (.get 1) [(.v 5)]), (.f .imin [(.f .len [(.f (.get 1) [(.v 5)])]), (.k (.int 32767))])])])]), (.k (.int 4))]), (.f .ite [(.v 2), (.k .nil), (.f .take [(.f (.get 1) [(.v 5)]), (.f .imin [(.f .len [(.f (.get 1) [(.v 5)])]), (.k (.int 32767))])])])]), (.f .ite [(.f .eqI [(.v 0), (.k (.int 10))]), (.f (.ext 47) [(.v 1), (.v 3), (.v 4), (.v 5)]), (.f (.ext 45) [(.f (.get 0) [(.v 5)]), (.f (.ext 55) [(.v 0)])])])])])])])
def ob48 : List Ob := [(.when (.f .eqI [(.v 0), (.k (.int 0))]) false [(.when (.f .eqI [(.v 0), (.k (.int 7))]) true [(.cap (.k (.int 16)) 1)]), (.when (.f .eqI [(.v 0), (.k (.int 7))]) false [(.when (.f .eqI [(.v 0), (.k (.int 8))]) true [(.room (.f .app [(.f (.ext 53) [(.v 4), (.v 2), (.f .len [(.f .ite [(.v 2), (.k .nil), (.f .take [(.f (.get 1) [(.v 5)]), (.f .imin [(.f .len [(.f (.get 1) [(.v 5)])]), (.k (.int 32767))])])])]), (.k (.int 2))]), (.f .ite [(.v 2), (.k .nil), (.f .take [(.f (.get 1) [(.v 5)]), (.f .imin [(.f .len [(.f (.get 1) [(.v 5)])]), (.k (.int 32767))])])])]) 1), (.pre 53 [(.v 4), (.v 2), (.f .len [(.f .ite [(.v 2), (.k .nil), (.f .take [(.f (.get 1) [(.v 5)]), (.f .imin [(.f .len [(.f (.get 1) [(.v 5)])]), (.k (.int 32767))])])])]), (.k (.int 2))]), (.idx (.f .imin [(.f .len [(.f (.get 1) [(.v 5)])]), (.k (.int 32767))]) (.f (.get 1) [(.v 5)]) false)]), (.when (.f .eqI [(.v 0), (.k (.int 8))]) false [(.when (.f .eqI [(.v 0), (.k (.int 9))]) true [(.room (.f .app [(.f (.ext 53) [(.v 4), (.v 2), (.f .len [(.f .ite [(.v 2), (.k .nil), (.f .take [(.f (.get 1) [(.v 5)]), (.f .imin [(.f .len [(.f (.get 1) [(.v 5)])]), (.k (.int 32767))])])])]), (.k (.int 4))]), (.f .ite [(.v 2), (.k .nil), (.f .take [(.f (.get 1) [(.v 5)]), (.f .imin [(.f .len [(.f (.get 1) [(.v 5)])]), (.k (.int 32767))])])])]) 1), (.pre 53 [(.v 4), (.v 2), (.f .len [(.f .ite [(.v 2), (.k .nil), (.f .take [(.f (.get 1) [(.v 5)]), (.f .imin [(.f .len [(.f (.get 1) [(.v 5)])]), (.k (.int 32767))])])])]), (.k (.int 4))]), (.idx (.f .imin [(.f .len [(.f (.get 1) [(.v 5)])]), (.k (.int 32767))]) (.f (.get 1) [(.v 5)]) false)]), (.when (.f .eqI [(.v 0), (.k (.int 9))]) false [(.when (.f .eqI [(.v 0), (.k (.int 10))]) true [(.pre 47 [(.v 1), (.v 3), (.v 4), (.v 5)])]), (.when (.f .eqI [(.v 0), (.k (.int 10))]) false [(.pre 45 [(.f (.get 0) [(.v 5)]), (.f (.ext 55) [(.v 0)])]), (.pre 55 [(.v 0)])])])])])])]
/-- pub-mailsack/spec.field -/
def de49 : DE := (.f .ite [(.f .eqI [(.f (.get 0) [(.v 0)]), (.k (.int 11))]), (.fold 4 (.f .ite [(.f (.ext 56) [(.v 0), (.v 1), (.v 3)]), (.k .nil), (.f .take [(.f (.get 3) [(.v 3)]), (.f .imin [(.f .len [(.f (.get 3) [(.v 3)])]), (.k (.int 32767))])])]) [(.f (.ext 53) [(.v 2), (.f (.ext 56) [(.v 0), (.v 1), (.v 3)]), (.f .len [(.f .ite [(.f (.ext 56) [(.v 0), (.v 1), (.v 3)]), (.k .nil), (.f .take [(.f (.get 3) [(.v 3)]), (.f .imin [(.f .len [(.f (.get 3) [(.v 3)])]), (.k (.int 32767))])])])]), (.k (.int 4))])] [(.f .app [(.v 6), (.f (.ext 48) [(.f (.get 6) [(.v 0)]), (.f (.get 7) [(.v 0)]), (.k (.bool false)), (.v 1), (.v 2), (.v 5)])])] 0), (.f .ite [(.f .ite [(.f .eqI [(.f (.get 0) [(.v 0)]), (.k (.int 10))]), (.f .leI [(.k (.int 0)), (.f (.get 3) [(.v 0)])]), (.k (.bool false))]), (.f .ite [(.f (.ext 56) [(.v 0), (.v 1), (.v 3)]), (.f (.ext 45) [(.k (.int (-1))), (.k (.int 1))]), (.f .app [(.f (.ext 45) [(.k (.int 1)), (.k (.int 1))]), (.f (.ext 47) [(.f (.get 7) [(.v 0)]), (.v 1), (.v 2), (.v 3)])])]), (.f (.ext 48) [(.f (.get 0) [(.v 0)]), (.f (.get 7) [(.v 0)]), (.f (.ext 56) [(.v 0), (.v 1), (.v 3)]), (.v 1), (.v 2), (.v 3)])])])
def ob49 : List Ob := [(.when (.f .eqI [(.f (.get 0) [(.v 0)]), (.k (.int 11))]) true [(.all (.f .ite [(.f (.ext 56) [(.v 0), (.v 1), (.v 3)]), (.k .nil), (.f .take [(.f (.get 3) [(.v 3)]), (.f .imin [(.f .len [(.f (.get 3) [(.v 3)])]), (.k (.int 32767))])])]) [(.f (.ext 53) [(.v 2), (.f (.ext 56) [(.v 0), (.v 1), (.v 3)]), (.f .len [(.f .ite [(.f (.ext 56) [(.v 0), (.v 1), (.v 3)]), (.k .nil), (.f .take [(.f (.get 3) [(.v 3)]), (.f .imin [(.f .len [(.f (.get 3) [(.v 3)])]), (.k (.int 32767))])])])]), (.k (.int 4))])] [(.f .app [(.v 6), (.f (.ext 48) [(.f (.get 6) [(.v 0)]), (.f (.get 7) [(.v 0)]), (.k (.bool false)), (.v 1), (.v 2), (.v 5)])])] [(.room (.f .app [(.v 6), (.f (.ext 48) [(.f (.get 6) [(.v 0)]), (.f (.get 7) [(.v 0)]), (.k (.bool false)), (.v 1), (.v 2), (.v 5)])]) 1), (.pre 48 [(.f (.get 6) [(.v 0)]), (.f (.get 7) [(.v 0)]), (.k (.bool false)), (.v 1), (.v 2), (.v 5)])]), (.pre 53 [(.v 2), (.f (.ext 56) [(.v 0), (.v 1), (.v 3)]), (.f .len [(.f .ite [(.f (.ext 56) [(.v 0), (.v 1), (.v 3)]), (.k .nil), (.f .take [(.f (.get 3) [(.v 3)]), (.f .imin [(.f .len [(.f (.get 3) [(.v 3)])]), (.k (.int 32767))])])])]), (.k (.int 4))]), (.idx (.f .imin [(.f .len [(.f (.get 3) [(.v 3)])]), (.k (.int 32767))]) (.f (.get 3) [(.v 3)]) false)]), (.when (.f .eqI [(.f (.get 0) [(.v 0)]), (.k (.int 11))]) false [(.when (.f .ite [(.f .eqI [(.f (.get 0) [(.v 0)]), (.k (.int 10))]), (.f .leI [(.k (.int 0)), (.f (.get 3) [(.v 0)])]), (.k (.bool false))]) true [(.when (.f (.ext 56) [(.v 0), (.v 1), (.v 3)]) true [(.pre 45 [(.k (.int (-1))), (.k (.int 1))])]), (.when (.f (.ext 56) [(.v 0), (.v 1), (.v 3)]) false [(.room (.f .app [(.f (.ext 45) [(.k (.int 1)), (.k (.int 1))]), (.f (.ext 47) [(.f (.get 7) [(.v 0)]), (.v 1), (.v 2), (.v 3)])]) 1), (.pre 47 [(.f (.get 7) [(.v 0)]), (.v 1), (.v 2), (.v 3)]), (.pre 45 [(.k (.int 1)), (.k (.int 1))])])]), (.when (.f .ite [(.f .eqI [(.f (.get 0) [(.v 0)]), (.k (.int 10))]), (.f .leI [(.k (.int 0)), (.f (.get 3) [(.v 0)])]), (.k (.bool false))]) false [(.pre 48 [(.f (.get 0) [(.v 0)]), (.f (.get 7) [(.v 0)]), (.f (.ext 56) [(.v 0), (.v 1), (.v 3)]), (.v 1), (.v 2), (.v 3)])])]), (.pre 56 [(.v 0), (.v 1), (.v 3)])]
/-- pub-mailsack/spec.usual -/
def de50 : DE := (.f .ite [(.f .eqI [(.f (.get 0) [(.v 0)]), (.k (.int 0))]), (.f .eqI [(.f (.band .i64) [(.f (.get 0) [(.v 1)]), (.k (.int 1))]), (.f (.get 5) [(.v 0)])]), (.f .ite [(.f .eqI [(.f (.get 0) [(.v 0)]), (.k (.int 7))]), (.f .ite [(.fold 2 (.f (.get 1) [(.v 1)]) [(.k (.bool false))] [(.f .ite [(.v 4), (.k (.bool true)), (.f .ite [(.f .ltI [(.v 2), (.k (.int 16))]), (.f .neI [(.f (.get 0) [(.v 3)]), (.k (.int 0))]), (.k (.bool false))])])] 0), (.k (.bool false)), (.k (.bool true))]), (.f .ite [(.f .ite [(.f .eqI [(.f (.get 0) [(.v 0)]), (.k (.int 8))]), (.f .eqI [(.f (.get 0) [(.v 0)]), (.k (.int 8))]), (.f .eqI [(.f (.get 0) [(.v 0)]), (.k (.int 9))])]), (.f .ite [(.f .leI [(.k (.int 0)), (.f (.get 3) [(.v 0)])]), (.f (.get 2) [(.v 1)]), (.f .eqI [(.f .len [(.f (.get 1) [(.v 1)])]), (.k (.int 0))])]), (.f .ite [(.f .eqI [(.f (.get 0) [(.v 0)]), (.k (.int 11))]), (.f .eqI [(.f .len [(.f (.get 3) [(.v 1)])]), (.k (.int 0))]), (.f .ite [(.f .eqI [(.f (.get 0) [(.v 0)]), (.k (.int 10))]), (.f .ite [(.fold 2 (.f (.get 7) [(.v 0)]) [(.k (.bool false))] [(.f .ite [(.v 4), (.k (.bool true)), (.f .not [(.f (.ext 50) [(.v 3), (.f (.ext 40) [(.v 1), (.v 2)])])])])] 0), (.k (.bool false)), (.f .eqI [(.f .len [(.f (.ext 41) [(.f (.get 7) [(.v 0)]), (.f (.get 4) [(.v 1)])])]), (.k (.int 0))])]), (.f (.ext 52) [(.f (.ext 45) [(.f (.get 0) [(.v 1)]), (.f (.ext 55) [(.f (.get 0) [(.v 0)])])]), (.f (.ext 45) [(.f (.get 5) [(.v 0)]), (.f (.ext 55) [(.f (.get 0) [(.v 0)])])])])])])])])])
def ob50 : List Ob := [(.when (.f .eqI [(.f (.get 0) [(.v 0)]), (.k (.int 0))]) false [(.when (.f .eqI [(.f (.get 0) [(.v 0)]), (.k (.int 7))]) true [(.all (.f (.get 1) [(.v 1)]) [(.k (.bool false))] [(.f .ite [(.v 4), (.k (.bool true)), (.f .ite [(.f .ltI [(.v 2), (.k (.int 16))]), (.f .neI [(.f (.get 0) [(.v 3)]), (.k (.int 0))]), (.k (.bool false))])])] [(.when (.v 4) false [])])]), (.when (.f .eqI [(.f (.get 0) [(.v 0)]), (.k (.int 7))]) false [(.when (.f .ite [(.f .eqI [(.f (.get 0) [(.v 0)]), (.k (.int 8))]), (.f .eqI [(.f (.get 0) [(.v 0)]), (.k (.int 8))]), (.f .eqI [(.f (.get 0) [(.v 0)]), (.k (.int 9))])]) false [(.when (.f .eqI [(.f (.get 0) [(.v 0)]), (.k (.int 11))]) false [(.when (.f .eqI [(.f (.get 0) [(.v 0)]), (.k (.int 10))]) true [(.when (.fold 2 (.f (.get 7) [(.v 0)]) [(.k (.bool false))] [(.f .ite [(.v 4), (.k (.bool true)), (.f .not [(.f (.ext 50) [(.v 3), (.f (.ext 40) [(.v 1), (.v 2)])])])])] 0) false [(.pre 41 [(.f (.get 7) [(.v 0)]), (.f (.get 4) [(.v 1)])])]), (.all (.f (.get 7) [(.v 0)]) [(.k (.bool false))] [(.f .ite [(.v 4), (.k (.bool true)), (.f .not [(.f (.ext 50) [(.v 3), (.f (.ext 40) [(.v 1), (.v 2)])])])])] [(.when (.v 4) false [(.pre 50 [(.v 3), (.f (.ext 40) [(.v 1), (.v 2)])]), (.pre 40 [(.v 1), (.v 2)])])])]), (.when (.f .eqI [(.f (.get 0) [(.v 0)]), (.k (.int 10))]) false [(.pre 52 [(.f (.ext 45) [(.f (.get 0) [(.v 1)]), (.f (.ext 55) [(.f (.get 0) [(.v 0)])])]), (.f (.ext 45) [(.f (.get 5) [(.v 0)]), (.f (.ext 55) [(.f (.get 0) [(.v 0)])])])]), (.pre 45 [(.f (.get 5) [(.v 0)]), (.f (.ext 55) [(.f (.get 0) [(.v 0)])])]), (.pre 55 [(.f (.get 0) [(.v 0)])]), (.pre 45 [(.f (.get 0) [(.v 1)]), (.f (.ext 55) [(.f (.get 0) [(.v 0)])])]), (.pre 55 [(.f (.get 0) [(.v 0)])])])])])])])]
/-- pub-mailsack/spec.known -/
def de51 : DE := (.fold 1 (.v 0) [(.k (.int 0))] [(.f .ite [(.f .leI [(.k (.int 0)), (.f (.get 4) [(.v 2)])]), (.f .imax [(.v 3), (.f (.add .u32) [(.f (.wrap .u32) [(.f (.get 4) [(.v 2)])]), (.k (.int 1))])]), (.v 3)])] 0)
def ob51 : List Ob := [(.all (.v 0) [(.k (.int 0))] [(.f .ite [(.f .leI [(.k (.int 0)), (.f (.get 4) [(.v 2)])]), (.f .imax [(.v 3), (.f (.add .u32) [(.f (.wrap .u32) [(.f (.get 4) [(.v 2)])]), (.k (.int 1))])]), (.v 3)])] [])]
/-- pub-mailsack/spec.Same -/
def de52 : DE := (.f .ite [(.f .neI [(.f .len [(.v 0)]), (.f .len [(.v 1)])]), (.k (.bool false)), (.f .ite [(.fold 2 (.v 0) [(.k (.bool false))] [(.f .ite [(.v 4), (.k (.bool true)), (.f .neI [(.f (.get 0) [(.v 3)]), (.f (.get 0) [(.f .at [(.v 1), (.v 2)])])])])] 0), (.k (.bool false)), (.k (.bool true))])])
def ob52 : List Ob := [(.when (.f .neI [(.f .len [(.v 0)]), (.f .len [(.v 1)])]) false [(.all (.v 0) [(.k (.bool false))] [(.f .ite [(.v 4), (.k (.bool true)), (.f .neI [(.f (.get 0) [(.v 3)]), (.f (.get 0) [(.f .at [(.v 1), (.v 2)])])])])] [(.when (.v 4) false [(.idx (.v 2) (.v 1) true)])])])]
/-- pub-mailsack/spec.counted -/
def de53 : DE := (.f .ite [(.f .ite [(.v 0), (.v 1), (.k (.bool false))]), (.f .mkbytes [(.k (.int 0))]), (.f .ite [(.f .ite [(.v 0), (.k (.bool true)), (.k (.bool false))]), (.f (.ext 46) [(.f (.add .u64) [(.f (.wrap .u64) [(.v 2)]), (.k (.int 1))])]), (.f .ite [(.v 1), (.f (.ext 45) [(.k (.int (-1))), (.v 3)]), (.f (.ext 45) [(.v 2), (.v 3)])])])])
def ob53 : List Ob := [(.when (.f .ite [(.v 0), (.v 1), (.k (.bool false))]) false [(.when (.f .ite [(.v 0), (.k (.bool true)), (.k (.bool false))]) true [(.pre 46 [(.f (.add .u64) [(.f (.wrap .u64) [(.v 2)]), (.k (.int 1))])])]), (.when (.f .ite [(.v 0), (.k (.bool true)), (.k (.bool false))]) false [(.when (.v 1) true [(.pre 45 [(.k (.int (-1))), (.v 3)])]), (.when (.v 1) false [(.pre 45 [(.v 2), (.v 3)])])])])]
/-- pub-mailsack/laws.zzFits1 -/
def de54 : DE := (.f .ite [(.f .ltI [(.k (.int 2147483647)), (.f .len [(.f (.get 1) [(.v 0)])])]), (.k (.bool false)), (.f .ite [(.f .ltI [(.k (.int 2147483647)), (.f .len [(.f (.get 3) [(.v 0)])])]), (.k (.bool false)), (.f .ite [(.f .not [(.f .ite [(.f .ltI [(.k (.int 2147483647)), (.f .len [(.f (.get 4) [(.v 0)])])]), (.k (.bool false)), (.f .ite [(.fold 1 (.f (.get 4) [(.v 0)]) [(.k (.bool false))] [(.f .ite [(.v 3), (.k (.bool true)), (.f .not [(.f .ite [(.f .ltI [(.k (.int 2147483647)), (.f .len [(.f (.get 1) [(.v 2)])])]), (.k (.bool false)), (.k (.bool true))])])])] 0), (.k (.bool false)), (.k (.bool true))])])]), (.k (.bool false)), (.k (.bool true))])])])
def ob54 : List Ob := [(.when (.f .ltI [(.k (.int 2147483647)), (.f .len [(.f (.get 1) [(.v 0)])])]) false [(.when (.f .ltI [(.k (.int 2147483647)), (.f .len [(.f (.get 3) [(.v 0)])])]) false [(.when (.f .ltI [(.k (.int 2147483647)), (.f .len [(.f (.get 4) [(.v 0)])])]) false [(.all (.f (.get 4) [(.v 0)]) [(.k (.bool false))] [(.f .ite [(.v 3), (.k (.bool true)), (.f .not [(.f .ite [(.f .ltI [(.k (.int 2147483647)), (.f .len [(.f (.get 1) [(.v 2)])])]), (.k (.bool false)), (.k (.bool true))])])])] [(.when (.v 3) false [])])])])])]
/-- pub-mailsack/spec.width -/
def de55 : DE := (.f .ite [(.f .eqI [(.v 0), (.k (.int 1))]), (.k (.int 1)), (.f .ite [(.f .ite [(.f .eqI [(.v 0), (.k (.int 2))]), (.f .eqI [(.v 0), (.k (.int 2))]), (.f .eqI [(.v 0), (.k (.int 5))])]), (.k (.int 2)), (.f .ite [(.f .eqI [(.v 0), (.k (.int 3))]), (.k (.int 4)), (.k (.int 8))])])])
def ob55 : List Ob := []
/-- (pub-mailsack/spec.Field).null -/
def de56 : DE := (.f .ite [(.f (.get 2) [(.v 2)]), (.f .ite [(.f .leI [(.k (.int 0)), (.f (.get 3) [(.v 0)])]), (.f .leI [(.f (.get 3) [(.v 0)]), (.v 1)]), (.k (.bool false))]), (.k (.bool false))])
def ob56 : List Ob := []
/-- (pub-mailsack/spec.Field).has -/
def de57 : DE := (.f .ite [(.f .leI [(.f (.get 1) [(.v 0)]), (.v 1)]), (.f .ite [(.f .ltI [(.f (.get 2) [(.v 0)]), (.k (.int 0))]), (.k (.bool true)), (.f .leI [(.v 1), (.f (.get 2) [(.v 0)])])]), (.k (.bool false))])
def ob57 : List Ob := []
/-- pub-mailsack/laws.version -/
def de58 : DE := (.f .tmod [(.f (.wrap .i64) [(.v 0)]), (.f (.add .i64) [(.v 1), (.k (.int 1))])])
def ob58 : List Ob := [(.nz (.f (.add .i64) [(.v 1), (.k (.int 1))]))]
/-- pub-mailsack/spec.Write -/
def de59 : DE := (.f .ite [(.f .leI [(.k (.int 0)), (.f (.get 1) [(.v 0)])]), (.f (.ext 47) [(.f (.get 0) [(.v 0)]), (.v 1), (.f .leI [(.f (.get 1) [(.v 0)]), (.v 1)]), (.v 2)]), (.f (.ext 47) [(.f (.get 0) [(.v 0)]), (.v 1), (.k (.bool false)), (.v 2)])])
def ob59 : List Ob := [(.when (.f .leI [(.k (.int 0)), (.f (.get 1) [(.v 0)])]) true [(.pre 47 [(.f (.get 0) [(.v 0)]), (.v 1), (.f .leI [(.f (.get 1) [(.v 0)]), (.v 1)]), (.v 2)])]), (.when (.f .leI [(.k (.int 0)), (.f (.get 1) [(.v 0)])]) false [(.pre 47 [(.f (.get 0) [(.v 0)]), (.v 1), (.k (.bool false)), (.v 2)])])]
/-- pub-mailsack/spec.Kept -/
def de60 : DE := (.f .app [(.f (.ext 45) [(.v 1), (.k (.int 2))]), (.f (.ext 59) [(.v 0), (.v 1), (.v 2)])])
def ob60 : List Ob := [(.room (.f .app [(.f (.ext 45) [(.v 1), (.k (.int 2))]), (.f (.ext 59) [(.v 0), (.v 1), (.v 2)])]) 1), (.pre 59 [(.v 0), (.v 1), (.v 2)]), (.pre 45 [(.v 1), (.k (.int 2))])]

end Go.Mx

namespace Go.Mx
open Go Go.Dx

/-! ## Weights, premises -/
mutual
def wF : Fl → Nat
  | .mk k _ _ _ _ _ _ s => wFs s + 1 + (if k = 11 then 1 else 0)
def wFs : Option (List Fl) → Nat
  | none => 0
  | some l => wFl l + 1
def wFl : List Fl → Nat
  | [] => 0
  | f :: r => wF f + wFl r
end
mutual
/-- a schema that the functions take: few fields, small tags, no lists of lists -/
def wfF : Fl → Bool
  | .mk k _ _ _ g _ o s => decide (g ≤ 1000) && (decide (k ≠ 11) || decide (o ≠ 11)) && wfFs s
def wfFs : Option (List Fl) → Bool
  | none => true
  | some l => decide (l.length ≤ 1000) && wfFl l
def wfFl : List Fl → Bool
  | [] => true
  | f :: r => wfF f && wfFl r
end
mutual
def wT : T → Nat
  | .mk _ _ _ l _ => wTo l + 1
def wTo : Option (List T) → Nat
  | none => 0
  | some l => wTl l
def wTl : List T → Nat
  | [] => 0
  | t :: r => wT t + wTl r
end
mutual
/-- lists that are not long -/
def smT : T → Bool
  | .mk _ _ _ l u => smTo l && decide ((u.getD []).length ≤ 40000)
def smTo : Option (List T) → Bool
  | none => true
  | some l => decide (l.length ≤ 40000) && smTl l
def smTl : List T → Bool
  | [] => true
  | t :: r => smT t && smTl r
end
theorem wF_mem : ∀ {l : List Fl} {f : Fl}, f ∈ l → wF f ≤ wFl l
  | g :: r, f, h => by
    simp only [wFl]
    rcases List.mem_cons.1 h with rfl | h
    · omega
    · have := wF_mem h; omega
theorem wF_sub (f : Fl) : wFs f.sub < wF f := by cases f; simp only [Fl.sub, wF]; omega
theorem wfF_sub {f : Fl} (h : wfF f = true) : wfFs f.sub = true := by
  cases f; simp only [wfF, Bool.and_eq_true] at h; exact h.2
theorem wfFl_mem : ∀ {l : List Fl}, wfFl l = true → ∀ f ∈ l, wfF f = true
  | [], _, f, h => by cases h
  | g :: r, hw, f, h => by
    simp only [wfFl, Bool.and_eq_true] at hw
    rcases List.mem_cons.1 h with rfl | h
    · exact hw.1
    · exact wfFl_mem hw.2 f h
theorem wT_mem : ∀ {l : List T} {t : T}, t ∈ l → wT t ≤ wTl l
  | g :: r, f, h => by
    simp only [wTl]
    rcases List.mem_cons.1 h with rfl | h
    · omega
    · have := wT_mem h; omega
theorem smTl_mem : ∀ {l : List T}, smTl l = true → ∀ f ∈ l, smT f = true
  | [], _, f, h => by cases h
  | g :: r, hw, f, h => by
    simp only [smTl, Bool.and_eq_true] at hw
    rcases List.mem_cons.1 h with rfl | h
    · exact hw.1
    · exact smTl_mem hw.2 f h

def lim : Nat := 1099511627776
/-- how much a call weighs -/
def meas : Nat → List D → Nat
  | 42, [f, _, _] => wF (toF f)
  | 43, [fs, _, _] => wFs (decF fs)
  | 44, [t] => wT (toT t)
  | 47, [fs, _, _, _] => 3 * wFs (decF fs)
  | 48, [_, fs, _, _, _, _] => 3 * wFs (decF fs) + 1
  | 49, [f, _, _, _] => 3 * wFs (toF f).sub + 2
  | 50, [f, _] => wF (toF f)
  | _, _ => 0
def recur (k : Nat) : Bool := k == 42 || k == 43 || k == 44 || k == 47 || k == 48 || k == 49 || k == 50
/-- what else a call asks -/
def side : Nat → List D → Prop
  | 1, [_, i] => 0 ≤ i.asInt
  | 40, [_, i] => 0 ≤ i.asInt
  | 12, [o, s] => s.len < 2147483648 ∧ o.asStr.length + s.len + 5 ≤ lim
  | 16, [o, s] => s.len < 2147483648 ∧ o.asStr.length + s.len + 5 ≤ lim
  | 14, [o, s] => s.deref.len < 2147483648 ∧ o.asStr.length + s.deref.len + 5 ≤ lim
  | 18, [o, s] => s.len < 2147483648 ∧ o.asStr.length + s.len + 5 ≤ lim
  | 20, [o, n] => 0 ≤ n.asInt ∧ n.asInt < 2147483648 ∧ o.asStr.length + 5 ≤ lim
  | 22, [o, n, _] => 0 ≤ n.asInt ∧ n.asInt < 2147483648 ∧ o.asStr.length + 5 ≤ lim
  | 41, [fs, _] => wfFs (decF fs) = true
  | 51, [fs] => wfFs (decF fs) = true
  | 42, [f, _, _] => wfF (toF f) = true
  | 43, [fs, _, _] => wfFs (decF fs) = true
  | 44, [t] => smT (toT t) = true
  | 45, [_, n] => 0 ≤ n.asInt ∧ n.asInt ≤ 8
  | 47, [fs, v, x, t] => wfFs (decF fs) = true ∧ (partS (decF fs) v.asInt x.asBool (toT t)).length ≤ lim
  | 48, [k, fs, b, v, x, t] => wfFs (decF fs) = true ∧ (valueB k.asInt b.asBool x.asBool (toT t) (partS (decF fs) v.asInt x.asBool (toT t))).length ≤ lim
  | 49, [f, v, x, t] => wfF (toF f) = true ∧ (field (toF f) v.asInt x.asBool (toT t)).length ≤ lim
  | 50, [f, _] => wfF (toF f) = true
  | 53, [_, _, n, s] => 0 ≤ n.asInt ∧ n.asInt ≤ 40000 ∧ (s.asInt = 2 ∨ s.asInt = 4)
  | 58, [n, m] => 0 ≤ n.asInt ∧ 0 ≤ m.asInt ∧ m.asInt ≤ 1000
  | 59, [.row [fs, fx], v, t] => wfFs (decF fs) = true ∧ (partS (decF fs) v.asInt (Flexible fx.asInt v.asInt) (toT t)).length ≤ lim
  | 60, [.row [fs, fx], v, t] => wfFs (decF fs) = true ∧ (partS (decF fs) v.asInt (Flexible fx.asInt v.asInt) (toT t)).length + 2 ≤ lim
  | 100, [v, t] => (0 ≤ v.asInt ∧ v.asInt ≤ 1) ∧ (X 100 [v, t]).len ≤ lim
  | 24, _ => True
  | 26, _ => True
  | 28, _ => True
  | 31, _ => True
  | 46, _ => True
  | 52, _ => True
  | 54, _ => True
  | 55, _ => True
  | 56, _ => True
  | 57, _ => True
  | k, ds => (X k ds).len ≤ lim
def Pre (n k : Nat) (ds : List D) : Prop := (recur k = true → meas k ds < n) ∧ side k ds

theorem meas_42 (f y1 y2 : D) : meas 42 [f, y1, y2] = (wF (toF f)) := rfl
theorem meas_43 (fs y1 y2 : D) : meas 43 [fs, y1, y2] = (wFs (decF fs)) := rfl
theorem meas_44 (t : D) : meas 44 [t] = (wT (toT t)) := rfl
theorem meas_47 (fs y1 y2 y3 : D) : meas 47 [fs, y1, y2, y3] = (3 * wFs (decF fs)) := rfl
theorem meas_48 (y1 fs y2 y3 y4 y5 : D) : meas 48 [y1, fs, y2, y3, y4, y5] = (3 * wFs (decF fs) + 1) := rfl
theorem meas_49 (f y1 y2 y3 : D) : meas 49 [f, y1, y2, y3] = (3 * wFs (toF f).sub + 2) := rfl
theorem meas_50 (f y1 : D) : meas 50 [f, y1] = (wF (toF f)) := rfl
theorem side_100 (v t : D) : side 100 [v, t] = ((0 ≤ v.asInt ∧ v.asInt ≤ 1) ∧ (X 100 [v, t]).len ≤ lim) := rfl
theorem side_1 (y1 i : D) : side 1 [y1, i] = (0 ≤ i.asInt) := rfl
theorem side_40 (y1 i : D) : side 40 [y1, i] = (0 ≤ i.asInt) := rfl
theorem side_12 (o s : D) : side 12 [o, s] = (s.len < 2147483648 ∧ o.asStr.length + s.len + 5 ≤ lim) := rfl
theorem side_16 (o s : D) : side 16 [o, s] = (s.len < 2147483648 ∧ o.asStr.length + s.len + 5 ≤ lim) := rfl
theorem side_14 (o s : D) : side 14 [o, s] = (s.deref.len < 2147483648 ∧ o.asStr.length + s.deref.len + 5 ≤ lim) := rfl
theorem side_18 (o s : D) : side 18 [o, s] = (s.len < 2147483648 ∧ o.asStr.length + s.len + 5 ≤ lim) := rfl
theorem side_20 (o n : D) : side 20 [o, n] = (0 ≤ n.asInt ∧ n.asInt < 2147483648 ∧ o.asStr.length + 5 ≤ lim) := rfl
theorem side_22 (o n y1 : D) : side 22 [o, n, y1] = (0 ≤ n.asInt ∧ n.asInt < 2147483648 ∧ o.asStr.length + 5 ≤ lim) := rfl
theorem side_41 (fs y1 : D) : side 41 [fs, y1] = (wfFs (decF fs) = true) := rfl
theorem side_51 (fs : D) : side 51 [fs] = (wfFs (decF fs) = true) := rfl
theorem side_42 (f y1 y2 : D) : side 42 [f, y1, y2] = (wfF (toF f) = true) := rfl
theorem side_43 (fs y1 y2 : D) : side 43 [fs, y1, y2] = (wfFs (decF fs) = true) := rfl
theorem side_44 (t : D) : side 44 [t] = (smT (toT t) = true) := rfl
theorem side_45 (y1 n : D) : side 45 [y1, n] = (0 ≤ n.asInt ∧ n.asInt ≤ 8) := rfl
theorem side_47 (fs v x t : D) : side 47 [fs, v, x, t] = (wfFs (decF fs) = true ∧ (partS (decF fs) v.asInt x.asBool (toT t)).length ≤ lim) := rfl
theorem side_48 (k fs b v x t : D) : side 48 [k, fs, b, v, x, t] = (wfFs (decF fs) = true ∧ (valueB k.asInt b.asBool x.asBool (toT t) (partS (decF fs) v.asInt x.asBool (toT t))).length ≤ lim) := rfl
theorem side_49 (f v x t : D) : side 49 [f, v, x, t] = (wfF (toF f) = true ∧ (field (toF f) v.asInt x.asBool (toT t)).length ≤ lim) := rfl
theorem side_50 (f y1 : D) : side 50 [f, y1] = (wfF (toF f) = true) := rfl
theorem side_53 (y1 y2 n s : D) : side 53 [y1, y2, n, s] = (0 ≤ n.asInt ∧ n.asInt ≤ 40000 ∧ (s.asInt = 2 ∨ s.asInt = 4)) := rfl
theorem side_58 (n m : D) : side 58 [n, m] = (0 ≤ n.asInt ∧ 0 ≤ m.asInt ∧ m.asInt ≤ 1000) := rfl
theorem side_59 (fs fx v t : D) : side 59 [.row [fs, fx], v, t] = (wfFs (decF fs) = true ∧ (partS (decF fs) v.asInt (Flexible fx.asInt v.asInt) (toT t)).length ≤ lim) := rfl
theorem side_60 (fs fx v t : D) : side 60 [.row [fs, fx], v, t] = (wfFs (decF fs) = true ∧ (partS (decF fs) v.asInt (Flexible fx.asInt v.asInt) (toT t)).length + 2 ≤ lim) := rfl

/-! ## The small functions -/
theorem zero_d : T.zero.d = .row [.int 0, .nil, .bool false, .nil, .nil] := by simp [T.zero, T.d, encB, encT, encU]
theorem at_encT (l : Option (List T)) (i : Nat) (h : i < (l.getD []).length) : (encT l).rows.getD i .nil = ((l.getD []).getD i T.zero).d := by
  rw [rows_encT]
  simp [List.getD_eq_getElem?_getD, h]
theorem ev40 (t : T) (i : Int) (hi : 0 ≤ i) (n : Nat) : obsHold X (Pre n) ob40 [t.d, .int i] ∧ de40.eval X [t.d, .int i] = X 40 [t.d, .int i] := by
  have e : (t.l.getD []) = t.L := rfl
  constructor
  · simp only [ob40, obsHold, Ob.holds, DE.eval, evals, Fn.eval, List.getD_cons_zero, List.getD_cons_succ, cells_T, D.asInt, D.asBool, len_encT, e, if_true]
    refine ⟨fun h => ⟨⟨hi, ?_⟩, trivial⟩, trivial⟩
    have := of_decide_eq_true h
    omega
  · simp only [de40, X_40, toT_d, DE.eval, evals, Fn.eval, List.getD_cons_zero, List.getD_cons_succ, cells_T, D.asInt, D.asBool, len_encT, at', e]
    by_cases h : i < (t.L.length : Int)
    · simp only [h, decide_true, if_true]
      exact at_encT t.l i.toNat (by show _ < t.L.length; omega)
    · simp only [h, decide_false, if_false, zero_d, Bool.false_eq_true]
theorem ev1 (t : T) (i : Int) (hi : 0 ≤ i) (n : Nat) : obsHold X (Pre n) ob1 [t.d, .int i] ∧ de1.eval X [t.d, .int i] = X 1 [t.d, .int i] := ev40 t i hi n
theorem ev56 (f : Fl) (v : Int) (t : T) : de56.eval X [f.d, .int v, t.d] = X 56 [f.d, .int v, t.d] := by
  simp only [de56, X_56, toT_d, toF_d, DE.eval, evals, Fn.eval, List.getD_cons_zero, List.getD_cons_succ, cells_T, cells_F, D.asInt, D.asBool, Mx.null]
  cases t.null <;> by_cases h : 0 ≤ f.null <;> by_cases h2 : f.null ≤ v <;> simp [h, h2]
theorem ev57 (f : Fl) (v : Int) : de57.eval X [f.d, .int v] = X 57 [f.d, .int v] := by
  simp only [de57, X_57, toF_d, DE.eval, evals, Fn.eval, List.getD_cons_zero, List.getD_cons_succ, cells_F, D.asInt, D.asBool, has]
  by_cases h : f.frm ≤ v <;> by_cases h2 : f.to < 0 <;> by_cases h3 : v ≤ f.to <;> simp [h, h2, h3]
theorem ev55 (k : Int) : de55.eval X [.int k] = X 55 [.int k] := by
  simp only [de55, X_55, DE.eval, evals, Fn.eval, List.getD_cons_zero, D.asInt, D.asBool, width]
  by_cases h1 : k = 1 <;> by_cases h2 : k = 2 <;> by_cases h5 : k = 5 <;> by_cases h3 : k = 3 <;> simp [h1, h2, h5, h3]
end Go.Mx

namespace Go.Mx
open Go Go.Dx

/-! ## Loops, evaluated -/
section
variable {X : Nat → List D → D} {P : Nat → List D → Prop} {δ : List D} {lv : Nat} {go : DE} {is bs : List DE}

theorem iota_rows (st : Nat → List D) (step : Nat → D → List D → List D) : ∀ k, (∀ i, i < k → step i (.int (i : Nat)) (st i) = st (i + 1)) → foldRows step 0 (iotaD k) (st 0) = st k
  | 0, _ => rfl
  | k + 1, h => by
    rw [iotaD_succ, foldRows_snoc, iotaD_len, Nat.zero_add, iota_rows st step k (fun i hi => h i (by omega))]
    exact h k (by omega)

structure Runs (X : Nat → List D → D) (δ : List D) (lv : Nat) (go : DE) (is bs : List DE) (N : Nat) (st : Nat → List D) : Prop where
  lv : δ.take lv = δ
  h0 : evals X is δ = st 0
  hs : ∀ k : Nat, k < N → evals X bs (δ ++ (.int k :: .int k :: st k)) = st (k + 1)
  hg : ∀ k : Nat, k < N → (go.eval X (δ ++ (.int k :: .int k :: st k))).asBool = true
  hN : (go.eval X (δ ++ (.int N :: .int N :: st N))).asBool = false

theorem Runs.rows {N : Nat} {st : Nat → List D} (h : Runs X δ lv go is bs N st) {k : Nat} (hk : k ≤ N) : foldRows (fun i r acc => evals X bs (δ ++ (.int i :: r :: acc))) 0 (iotaD k) (evals X is δ) = st k := by
  rw [h.h0]
  exact iota_rows st _ k (fun i hi => h.hs i (by omega))
theorem Runs.wh {N : Nat} {st : Nat → List D} (h : Runs X δ lv go is bs N st) : (DE.wh lv go is bs).eval X δ = .int (N : Nat) := by
  simp only [DE.eval, h.lv]
  congr 1
  congr 1
  refine leastN_eq ?_ (fun m hm => ?_)
  · rw [h.rows (Nat.le_refl _)]; exact h.hN
  · rw [h.rows (by omega), h.hg m hm]; simp
theorem Runs.fold {N : Nat} {st : Nat → List D} (h : Runs X δ lv go is bs N st) (j : Nat) : (DE.fold lv (.f .iota [.wh lv go is bs]) is bs j).eval X δ = (st N).getD j .nil := by
  have e : ((DE.f .iota [.wh lv go is bs]).eval X δ).rows = iotaD N := by
    show (Fn.eval X .iota (evals X [.wh lv go is bs] δ)).rows = _
    rw [evals_one, h.wh]
    simp [Fn.eval, D.rows, D.asInt, iotaD]
  show (foldRows (fun i r acc => evals X bs (δ.take lv ++ (.int i :: r :: acc))) 0 ((DE.f .iota [.wh lv go is bs]).eval X δ).rows (evals X is δ)).getD j .nil = _
  rw [e, h.lv, h.rows (Nat.le_refl _)]
theorem Runs.term {N : Nat} {st : Nat → List D} (h : Runs X δ lv go is bs N st) : (Ob.term lv go is bs).holds X P δ := by
  simp only [Ob.holds, h.lv]
  exact ⟨N, by rw [h.rows (Nat.le_refl _)]; exact h.hN⟩
theorem Runs.all {N : Nat} {st : Nat → List D} (h : Runs X δ lv go is bs N st) {os : List Ob} (ho : ∀ k : Nat, k ≤ N → obsHold X P os (δ ++ (.int k :: .int k :: st k))) : (Ob.all (.f .iotaS [.wh lv go is bs]) is bs os).holds X P δ := by
  have e : ((DE.f .iotaS [.wh lv go is bs]).eval X δ).rows = iotaD (N + 1) := by
    show (Fn.eval X .iotaS (evals X [.wh lv go is bs] δ)).rows = _
    rw [evals_one, h.wh]
    simp [Fn.eval, D.rows, D.asInt, iotaD]
  simp only [Ob.holds]
  rw [e]
  intro k hk
  rw [iotaD_len] at hk
  rw [iotaD_get _ _ (by omega), iotaD_take _ _ (by omega), h.rows (by omega)]
  exact ho k (by omega)

/-- rounds over rows -/
structure Folds {A S : Type} (X : Nat → List D → D) (δ : List D) (lv : Nat) (src : DE) (is bs : List DE) (ea : A → D) (es : S → List D) (f : Nat → A → S → S) (l : List A) (s0 : S) : Prop where
  lv : δ.take lv = δ
  src : (src.eval X δ).rows = l.map ea
  h0 : evals X is δ = es s0
  hs : ∀ (i : Nat) (a : A) (s : S), l[i]? = some a → s = foldI f 0 (l.take i) s0 → evals X bs (δ ++ (.int i :: ea a :: es s)) = es (f i a s)

theorem foldI_snoc {A S : Type} (f : Nat → A → S → S) : ∀ (l : List A) (i : Nat) (a : A) (s : S), foldI f i (l ++ [a]) s = f (i + l.length) a (foldI f i l s)
  | [], i, a, s => rfl
  | x :: l, i, a, s => by
    simp only [List.cons_append, foldI, List.length_cons]
    rw [foldI_snoc f l (i + 1)]
    congr 1; omega
variable {A S : Type} {src : DE} {ea : A → D} {es : S → List D} {f : Nat → A → S → S} {l : List A} {s0 : S}
theorem take_snoc {α : Type} {l : List α} {k : Nat} {a : α} (h : l[k]? = some a) : l.take (k + 1) = l.take k ++ [a] := by
  rw [List.take_add_one, h]; rfl
theorem Folds.rows (h : Folds X δ lv src is bs ea es f l s0) : ∀ {k : Nat}, k ≤ l.length → foldRows (fun i r acc => evals X bs (δ ++ (.int i :: r :: acc))) 0 ((l.map ea).take k) (evals X is δ) = es (foldI f 0 (l.take k) s0)
  | 0, _ => by simp [foldRows, foldI, h.h0]
  | k + 1, hk => by
    have hk' : l[k]? = some l[k] := List.getElem?_eq_getElem (by omega)
    have hm : (l.map ea)[k]? = some (ea l[k]) := by rw [List.getElem?_map, hk']; rfl
    rw [take_snoc hm, foldRows_snoc, h.rows (k := k) (by omega), take_snoc hk', foldI_snoc]
    have e : 0 + ((l.map ea).take k).length = k := by simp; omega
    have e2 : 0 + (l.take k).length = k := by simp; omega
    rw [e, e2]
    exact h.hs k _ _ hk' rfl
theorem Folds.fold (h : Folds X δ lv src is bs ea es f l s0) (j : Nat) : (DE.fold lv src is bs j).eval X δ = (es (foldI f 0 l s0)).getD j .nil := by
  have := h.rows (k := l.length) (Nat.le_refl _)
  rw [List.take_of_length_le (by simp), List.take_of_length_le (Nat.le_refl _)] at this
  simp only [DE.eval, h.lv, h.src, this]
theorem Folds.all (h : Folds X δ lv src is bs ea es f l s0) {os : List Ob} (ho : ∀ (k : Nat) (a : A), l[k]? = some a → obsHold X P os (δ ++ (.int k :: ea a :: es (foldI f 0 (l.take k) s0)))) : (Ob.all src is bs os).holds X P δ := by
  simp only [Ob.holds]
  rw [h.src]
  intro k hk
  have hk2 : k < l.length := by simpa using hk
  have hk' : l[k]? = some l[k] := List.getElem?_eq_getElem hk2
  have hm : (l.map ea).getD k .nil = ea l[k] := by simp [List.getD_eq_getElem?_getD, hk']
  rw [hm, h.rows (by omega)]
  exact ho k _ hk'

end
end Go.Mx

namespace Go.Mx
open Go Go.Dx

theorem wrap64 {x : Int} (h1 : -9223372036854775808 ≤ x) (h2 : x ≤ 9223372036854775807) : IntKind.i64.wrap x = x := by
  rw [IntKind.wrap_i64]; omega

theorem ev45 (n s : Int) (k : Nat) (h0 : 0 ≤ s) (h8 : s ≤ 8) : obsHold X (Pre k) ob45 [.int n, .int s] ∧ de45.eval X [.int n, .int s] = X 45 [.int n, .int s] := by
  obtain ⟨m, rfl⟩ := Int.eq_ofNat_of_zero_le h0
  have hm : m ≤ 8 := by omega
  let st : Nat → List D := fun k => [.int ((m : Int) - 1 - k), encN (((List.range m).reverse.take k).map (byteAt n))]
  have hlen : (List.range m).reverse.length = m := by simp
  have hrun : Runs X [.int n, .int (m : Nat)] 2 (.f .leI [(.k (.int 0)), (.v 4)]) [(.f (.sub .i64) [(.v 1), (.k (.int 1))]), (.k .nil)] [(.f (.sub .i64) [(.v 4), (.k (.int 1))]), (.f .app [(.v 5), (.f .mkbytes [(.f (.wrap .u8) [(.f (.shr .i64) [(.v 0), (.f (.mul .i64) [(.k (.int 8)), (.v 4)])])])])])] m st := by
    refine ⟨rfl, ?_, fun k hk => ?_, fun k hk => ?_, ?_⟩
    · simp only [evals, DE.eval, Fn.eval, D.asInt, List.getD_cons_succ, List.getD_cons_zero, st]
      rw [wrap64 (by omega) (by omega)]
      simp [encN]
    · simp only [evals, DE.eval, Fn.eval, D.asInt, List.cons_append, List.nil_append, List.getD_cons_succ, List.getD_cons_zero, st, List.map_cons, List.map_nil]
      rw [wrap64 (by omega) (by omega), wrap64 (x := 8 * _) (by omega) (by omega)]
      have hk' : (List.range m).reverse[k]? = some (m - 1 - k) := by
        rw [List.getElem?_reverse (by simpa using hk)]
        simp only [List.length_range, List.getElem?_range (show m - 1 - k < m by omega)]
      have hb : UInt8.ofNat (IntKind.u8.wrap (shrI n (8 * ((m : Int) - 1 - k)) .i64)).toNat = byteAt n (m - 1 - k) := by
        simp only [byteAt, shrI, IntKind.bits]
        congr 5
        omega
      rw [take_snoc hk', List.map_append, hb, appd_encN _ _ (.inr ⟨_, .inl rfl⟩)]
      simp only [D.asStr, List.map_cons, List.map_nil, List.cons.injEq, D.int.injEq, and_true]
      omega
    · simp only [DE.eval, evals, Fn.eval, D.asInt, D.asBool, List.cons_append, List.nil_append, List.getD_cons_succ, List.getD_cons_zero, st]
      exact decide_eq_true (by omega)
    · simp only [DE.eval, evals, Fn.eval, D.asInt, D.asBool, List.cons_append, List.nil_append, List.getD_cons_succ, List.getD_cons_zero, st]
      exact decide_eq_false (by omega)
  have hfin : (st m).getD 1 .nil = encN (Fixed n m) := by
    simp only [st, List.getD_cons_succ, List.getD_cons_zero, Fixed]
    rw [List.take_of_length_le (by simp)]
  refine ⟨⟨hrun.term, hrun.all (fun q hq => ?_), trivial⟩, ?_⟩
  · have hl : ((List.range m).reverse.take q).length ≤ 8 := by rw [List.length_take]; omega
    simp only [obsHold, mergeObl, Ob.holds, evals, DE.eval, Fn.eval, D.asInt, D.asBool, List.cons_append, List.nil_append, List.getD_cons_succ, List.getD_cons_zero, st, List.map_cons, List.map_nil]
    refine ⟨fun hc => ⟨?_, ?_, trivial⟩, trivial⟩
    · rw [appd_encN _ _ (.inr ⟨_, .inl rfl⟩), len_encN]
      simp only [D.asStr, List.length_append, List.length_map, List.length_cons, List.length_nil]
      exact ⟨by simp only [LIM]; omega, by simp only [maxLen]; omega⟩
    · have := of_decide_eq_true hc
      rw [wrap64 (by omega) (by omega)]
      omega
  · rw [X_45]
    simp only [D.asInt, Int.toNat_natCast]
    rw [← hfin]
    exact hrun.fold 1
end Go.Mx

namespace Go.Mx
open Go Go.Dx

theorem wrapu64 {x : Int} (h1 : 0 ≤ x) (h2 : x < 18446744073709551616) : IntKind.u64.wrap x = x := by
  rw [IntKind.wrap_u64]; omega
theorem wrapu8 {x : Int} (h1 : 0 ≤ x) (h2 : x < 256) : IntKind.u8.wrap x = x := by
  rw [IntKind.wrap_u8]; omega

def uvN (n : Nat) : Nat := if 127 < n then uvN (n / 128) + 1 else 0
  termination_by n
  decreasing_by omega
def uvP (n k : Nat) : List UInt8 := (List.range k).map fun i => UInt8.ofNat (n / 128 ^ i % 128 + 128)
theorem uvP_succ (n k : Nat) : uvP n (k + 1) = uvP n k ++ [UInt8.ofNat (n / 128 ^ k % 128 + 128)] := by simp [uvP, List.range_succ]
theorem uvP_cons (n k : Nat) : uvP n (k + 1) = UInt8.ofNat (n % 128 + 128) :: uvP (n / 128) k := by
  simp only [uvP, List.range_succ_eq_map, List.map_cons, List.map_map, Nat.pow_zero, Nat.div_one]
  congr 1
  apply List.map_congr_left
  intro i _
  simp only [Function.comp]
  rw [Nat.pow_succ', Nat.div_div_eq_div_mul]
theorem uv_eq : ∀ n : Nat, Uvarint n = uvP n (uvN n) ++ [UInt8.ofNat (n / 128 ^ uvN n)] := by
  intro n
  induction n using Nat.strongRecOn with
  | ind n ih =>
    rw [Uvarint, uvN]
    split
    · rw [ih (n / 128) (by omega), uvP_cons]
      simp only [List.cons_append]
      congr 3
      rw [Nat.pow_succ', Nat.div_div_eq_div_mul]
    · simp [uvP]
theorem uvN_go : ∀ (n k : Nat), k < uvN n → 127 < n / 128 ^ k := by
  intro n
  induction n using Nat.strongRecOn with
  | ind n ih =>
    intro k hk
    rw [uvN] at hk
    split at hk
    · rename_i h
      cases k with
      | zero => simpa using h
      | succ k =>
        have := ih (n / 128) (by omega) k (by omega)
        rw [Nat.pow_succ', ← Nat.div_div_eq_div_mul]; exact this
    · omega
theorem uvN_stop : ∀ n : Nat, ¬ 127 < n / 128 ^ uvN n := by
  intro n
  induction n using Nat.strongRecOn with
  | ind n ih =>
    rw [uvN]
    split
    · have := ih (n / 128) (by omega)
      rw [Nat.pow_succ', ← Nat.div_div_eq_div_mul]; exact this
    · simp; omega
theorem uvN_le : ∀ (b n : Nat), n < 128 ^ b → uvN n ≤ b - 1
  | 0, n, h => by
    have : n = 0 := by simpa using h
    subst this; rw [uvN]; simp
  | b + 1, n, h => by
    rw [uvN]
    split
    · rename_i h1
      have h2 : n / 128 < 128 ^ b := by rw [Nat.div_lt_iff_lt_mul (by omega), ← Nat.pow_succ]; exact h
      have := uvN_le b (n / 128) h2
      have hb : b ≠ 0 := fun e => by subst e; simp at h; omega
      omega
    · omega
theorem band127 (n : Nat) (h : n < 18446744073709551616) : IntKind.u64.wrap ((BitVec.ofInt IntKind.u64.bits (n : Int) &&& BitVec.ofInt IntKind.u64.bits 127).toNat : Nat) = ((n % 128 : Nat) : Int) := by
  have e : (BitVec.ofInt IntKind.u64.bits (n : Int) &&& BitVec.ofInt IntKind.u64.bits 127).toNat = n % 128 := by
    rw [BitVec.toNat_and]
    have e1 : (BitVec.ofInt IntKind.u64.bits (n : Int)).toNat = n := by simp [IntKind.bits, BitVec.toNat_ofInt]; omega
    have e2 : (BitVec.ofInt IntKind.u64.bits 127).toNat = 2 ^ 7 - 1 := rfl
    rw [e1, e2, Nat.and_two_pow_sub_one_eq_mod]
  rw [e, wrapu64 (by omega) (by omega)]
theorem bor128 (n : Nat) (h : n < 128) : IntKind.u8.wrap ((BitVec.ofInt IntKind.u8.bits (n : Int) ||| BitVec.ofInt IntKind.u8.bits 128).toNat : Nat) = ((n + 128 : Nat) : Int) := by
  have : ∀ n : Fin 128, IntKind.u8.wrap ((BitVec.ofInt IntKind.u8.bits (n.1 : Int) ||| BitVec.ofInt IntKind.u8.bits 128).toNat : Nat) = ((n.1 + 128 : Nat) : Int) := by decide
  exact this ⟨n, h⟩
theorem shr7 (n : Nat) : shrI (n : Int) 7 .u64 = ((n / 128 : Nat) : Int) := by
  simp only [shrI, IntKind.bits]
  show (n : Int).fdiv (2 ^ 7) = _
  rw [Int.fdiv_eq_ediv_of_nonneg _ (by decide)]
  rfl

theorem uv_run (n : Nat) (h : n < 18446744073709551616) : Runs X [.int (n : Nat)] 1 (.f .ltI [(.k (.int 127)), (.v 4)]) [(.k .nil), (.v 0)] [(.f .app [(.v 3), (.f .mkbytes [(.f (.bor .u8) [(.f (.wrap .u8) [(.f (.band .u64) [(.v 4), (.k (.int 127))])]), (.k (.int 128))])])]), (.f (.shr .u64) [(.v 4), (.k (.int 7))])] (uvN n) (fun k => [encN (uvP n k), .int ((n / 128 ^ k : Nat) : Int)]) := by
  have hlt : ∀ k, n / 128 ^ k < 18446744073709551616 := fun k => Nat.lt_of_le_of_lt (Nat.div_le_self _ _) h
  refine ⟨rfl, by simp [evals, DE.eval, uvP, encN], fun k hk => ?_, fun k hk => ?_, ?_⟩
  · simp only [evals, DE.eval, Fn.eval, D.asInt, List.cons_append, List.nil_append, List.getD_cons_succ, List.getD_cons_zero, List.map_cons, List.map_nil]
    rw [band127 _ (hlt k), wrapu8 (x := ((n / 128 ^ k % 128 : Nat) : Int)) (by omega) (by omega), bor128 _ (by omega), shr7, appd_encN _ _ (.inr ⟨_, .inl rfl⟩), uvP_succ]
    simp only [D.asStr, Int.toNat_natCast]
    rw [Nat.pow_succ, Nat.div_div_eq_div_mul]
  · simp only [DE.eval, evals, Fn.eval, D.asInt, D.asBool, List.cons_append, List.nil_append, List.getD_cons_succ, List.getD_cons_zero]
    have := uvN_go n k hk
    exact decide_eq_true (by omega)
  · simp only [DE.eval, evals, Fn.eval, D.asInt, D.asBool, List.cons_append, List.nil_append, List.getD_cons_succ, List.getD_cons_zero]
    have := uvN_stop n
    exact decide_eq_false (by omega)

theorem ev46 (n : Int) (h0 : 0 ≤ n) (h1 : n < 18446744073709551616) (k : Nat) : obsHold X (Pre k) ob46 [.int n] ∧ de46.eval X [.int n] = X 46 [.int n] := by
  obtain ⟨m, rfl⟩ := Int.eq_ofNat_of_zero_le h0
  have hm : m < 18446744073709551616 := by omega
  have hrun := uv_run m hm
  have hN : uvN m ≤ 9 := by
    have := uvN_le 10 m (Nat.lt_of_lt_of_le hm (by decide))
    omega
  have hP : ∀ k, k ≤ uvN m → (uvP m k).length ≤ 9 := fun k hk => by simp [uvP]; omega
  have hfin := uvN_stop m
  have main : de46.eval X [.int (m : Nat)] = encN (Uvarint m) := by
    simp only [de46, DE.eval.eq_3, evals]
    rw [hrun.fold 0, hrun.fold 1]
    simp only [List.getD_cons_succ, List.getD_cons_zero, Fn.eval, D.asInt, List.map_cons, List.map_nil]
    rw [wrapu8 (x := ((m / 128 ^ uvN m : Nat) : Int)) (by generalize m / 128 ^ uvN m = q at *; omega) (by generalize m / 128 ^ uvN m = q at *; omega), appd_encN _ _ (.inr ⟨_, .inl rfl⟩), uv_eq]
    simp only [D.asStr, Int.toNat_natCast]
  refine ⟨⟨?_, hrun.term, hrun.all (fun q hq => ?_), trivial⟩, ?_⟩
  · have e : (DE.eval X de46 [.int (m : Nat)]).len ≤ 10 := by
      rw [main, len_encN, uv_eq]
      have := hP (uvN m) (Nat.le_refl _)
      simp; omega
    refine ⟨?_, ?_⟩
    · show (DE.eval X de46 [.int (m : Nat)]).len * 1 ≤ LIM
      simp only [LIM]; omega
    · show (DE.eval X de46 [.int (m : Nat)]).len ≤ maxLen
      simp only [maxLen]; omega
  · simp only [obsHold, Ob.holds, evals, DE.eval, Fn.eval, D.asInt, D.asBool, List.cons_append, List.nil_append, List.getD_cons_succ, List.getD_cons_zero, List.map_cons, List.map_nil]
    refine ⟨fun hc => ⟨?_, trivial⟩, trivial⟩
    rw [appd_encN _ _ (.inr ⟨_, .inl rfl⟩), len_encN]
    have := hP q hq
    simp only [D.asStr, List.length_append, List.length_cons, List.length_nil]
    exact ⟨by simp only [LIM]; omega, by simp only [maxLen]; omega⟩
  · rw [main, X_46]; rfl
end Go.Mx

namespace Go.Mx
open Go Go.Dx

theorem ev53 (x b : Bool) (n s : Int) (k : Nat) (h0 : 0 ≤ n) (h1 : n ≤ 40000) (hs : s = 2 ∨ s = 4) : obsHold X (Pre k) ob53 [.bool x, .bool b, .int n, .int s] ∧ de53.eval X [.bool x, .bool b, .int n, .int s] = X 53 [.bool x, .bool b, .int n, .int s] := by
  have e : IntKind.u64.wrap (IntKind.u64.wrap n + 1) = n + 1 := by rw [wrapu64 (x := n) h0 (by omega), wrapu64 (by omega) (by omega)]
  have hp : ∀ m : Int, Pre k 45 [.int m, .int s] := fun m => ⟨fun h => by simp [recur] at h, by rw [side_45]; simp only [D.asInt]; omega⟩
  constructor
  · simp only [ob53, obsHold, Ob.holds, DE.eval, evals, Fn.eval, List.getD_cons_zero, List.getD_cons_succ, D.asInt, D.asBool, e]
    refine ⟨fun _ => ⟨fun _ => ⟨⟨fun h => by simp [recur] at h, trivial⟩, trivial⟩, fun _ => ⟨fun _ => ⟨hp _, trivial⟩, fun _ => ⟨hp _, trivial⟩, trivial⟩, trivial⟩, trivial⟩
  · simp only [de53, X_53, X_46, X_45, DE.eval, evals, Fn.eval, List.getD_cons_zero, List.getD_cons_succ, D.asInt, D.asBool, e, counted, List.map_cons, List.map_nil]
    have e2 : (n + 1).toNat = n.toNat + 1 := by omega
    have e3 : ((n.toNat : Nat) : Int) = n := by omega
    cases x <;> cases b <;> simp [encN, e2, e3]

theorem known_le : ∀ (l : List Fl) (a : Nat), wfFl l = true → a ≤ 1001 → l.foldl (fun n f => if 0 ≤ f.tag then max n (f.tag.toNat + 1) else n) a ≤ 1001
  | [], a, _, h => h
  | f :: r, a, hw, h => by
    simp only [wfFl, Bool.and_eq_true] at hw
    refine known_le r _ hw.2 ?_
    have : f.tag ≤ 1000 := by
      have := hw.1
      cases f; simp only [wfF, Bool.and_eq_true, decide_eq_true_eq] at this
      exact this.1.1
    show (if 0 ≤ f.tag then max a (f.tag.toNat + 1) else a) ≤ 1001
    by_cases h0 : 0 ≤ f.tag
    · rw [if_pos h0]; omega
    · rw [if_neg h0]; exact h
theorem ev51 (fs : Option (List Fl)) (hw : wfFs fs = true) (k : Nat) : obsHold X (Pre k) ob51 [encF fs] ∧ de51.eval X [encF fs] = X 51 [encF fs] := by
  have hw' : wfFl (fs.getD []) = true := by
    cases fs with
    | none => rfl
    | some l => simp only [wfFs, Bool.and_eq_true] at hw; exact hw.2
  have hfold : Folds X [encF fs] 1 (.v 0) [(.k (.int 0))] [(.f .ite [(.f .leI [(.k (.int 0)), (.f (.get 4) [(.v 2)])]), (.f .imax [(.v 3), (.f (.add .u32) [(.f (.wrap .u32) [(.f (.get 4) [(.v 2)])]), (.k (.int 1))])]), (.v 3)])] Fl.d (fun n : Nat => [.int (n : Int)]) (fun _ f n => if 0 ≤ f.tag then max n (f.tag.toNat + 1) else n) (fs.getD []) 0 := by
    refine ⟨rfl, by simp [DE.eval, rows_encF], rfl, fun i f n hf _ => ?_⟩
    have hm : f ∈ fs.getD [] := List.mem_of_getElem? hf
    have ht : f.tag ≤ 1000 := by
      have := wfFl_mem hw' f hm
      cases f; simp only [wfF, Bool.and_eq_true, decide_eq_true_eq] at this
      exact this.1.1
    simp only [evs_cons, evs_nil, ev_v, ev_k, ev_f, List.cons_append, List.nil_append, List.getD_cons_succ, List.getD_cons_zero, fe_get, cells_F, fe_leI, fe_wrap, fe_add, fe_imax, fe_ite]
    by_cases h : 0 ≤ f.tag
    · simp only [h, decide_true, if_true]
      rw [IntKind.wrap_u32, IntKind.wrap_u32]
      congr 2
      omega
    · simp only [h, decide_false, if_false, Bool.false_eq_true]
  refine ⟨⟨hfold.all (fun _ _ _ => trivial), trivial⟩, ?_⟩
  rw [X_51, decF_enc]
  show (DE.fold _ _ _ _ _).eval X _ = _
  rw [hfold.fold 0]
  simp only [foldI_const, List.getD_cons_zero, known]
theorem known_small {fs : Option (List Fl)} (hw : wfFs fs = true) : known (fs.getD []) ≤ 1001 := by
  cases fs with
  | none => simp [known]
  | some l => simp only [wfFs, Bool.and_eq_true] at hw; exact known_le l 0 hw.2 (by omega)

theorem ev58 (n m : Int) (k : Nat) (h0 : 0 ≤ n) (h1 : n < 256) (h2 : 0 ≤ m) (h3 : m ≤ 1000) : obsHold X (Pre k) ob58 [.int n, .int m] ∧ de58.eval X [.int n, .int m] = X 58 [.int n, .int m] := by
  constructor
  · simp only [ob58, obsHold, Ob.holds, DE.eval, evals, Fn.eval, List.getD_cons_zero, List.getD_cons_succ, D.asInt]
    rw [wrap64 (by omega) (by omega)]
    exact ⟨by omega, trivial⟩
  · simp only [de58, X_58, DE.eval, evals, Fn.eval, List.getD_cons_zero, List.getD_cons_succ, D.asInt]
    rw [wrap64 (x := n) (by omega) (by omega), wrap64 (by omega) (by omega), Int.tmod_eq_emod_of_nonneg h0]

end Go.Mx

namespace Go.Mx
open Go Go.Dx

def neqI (y : List UInt8) (i : Nat) (x : UInt8) (s : Bool) : Bool := if s then true else ((x.toNat : Int) != ((y.getD i 0).toNat : Int))
theorem neqI_fold (y : List UInt8) : ∀ (l : List UInt8) (i : Nat) (s : Bool), i + l.length ≤ y.length → foldI (neqI y) i l s = (s || !(l == (y.drop i).take l.length))
  | [], i, s, _ => by simp [foldI]
  | x :: l, i, s, h => by
    simp only [List.length_cons] at h
    simp only [foldI]
    rw [neqI_fold y l (i + 1) _ (by omega)]
    have hi : i < y.length := by omega
    have e : (y.drop i).take (x :: l).length = y[i] :: (y.drop (i + 1)).take l.length := by
      rw [List.drop_eq_getElem_cons hi]; rfl
    rw [e]
    have e2 : y.getD i 0 = y[i] := by simp [List.getD_eq_getElem?_getD, hi]
    simp only [neqI, e2]
    cases s
    · by_cases hx : x = y[i]
      · subst hx
        have h1 : ((y[i].toNat : Int) != (y[i].toNat : Int)) = false := by simp
        simp [h1]
      · have h1 : ((x.toNat : Int) != (y[i].toNat : Int)) = true := by
          simp only [bne_iff_ne, ne_eq]
          intro h2
          exact hx (UInt8.toNat_inj.1 (by omega))
        simp [h1, hx]
    · simp
theorem ev52 (a b : Option (List UInt8)) (k : Nat) : obsHold X (Pre k) ob52 [encB a, encB b] ∧ de52.eval X [encB a, encB b] = X 52 [encB a, encB b] := by
  have hfold : (a.getD []).length = (b.getD []).length → Folds X [encB a, encB b] 2 (.v 0) [(.k (.bool false))] [(.f .ite [(.v 4), (.k (.bool true)), (.f .neI [(.f (.get 0) [(.v 3)]), (.f (.get 0) [(.f .at [(.v 1), (.v 2)])])])])] (fun x : UInt8 => .int (x.toNat : Int)) (fun s : Bool => [.bool s]) (neqI (b.getD [])) (a.getD []) false := fun hl => by
    refine ⟨rfl, by simp [ev_v, rows_encB], rfl, fun i x s hx _ => ?_⟩
    have hi : i < (b.getD []).length := by rw [← hl]; exact (List.getElem?_eq_some_iff.1 hx).1
    have e : (encB b).rows.getD i .nil = .int (((b.getD []).getD i 0).toNat : Int) := by
      rw [rows_encB]; simp [List.getD_eq_getElem?_getD, hi]
    simp only [evs_cons, evs_nil, ev_v, ev_k, ev_f, List.cons_append, List.nil_append, List.getD_cons_succ, List.getD_cons_zero, fe_at, Int.toNat_natCast, e, fe_get, D.cells, fe_neI, fe_ite, neqI]
    cases s <;> rfl
  constructor
  · refine ⟨fun hc => ⟨?_, trivial⟩, trivial⟩
    have hl : (a.getD []).length = (b.getD []).length := by
      simp only [ev_f, evs_cons, evs_nil, ev_v, List.getD_cons_zero, List.getD_cons_succ, fe_len, fe_neI, bool_b, len_encB] at hc
      simp only [bne_eq_false_iff_eq] at hc
      omega
    refine (hfold hl).all (fun i x hx => ⟨fun _ => ⟨?_, trivial⟩, trivial⟩)
    have hi : i < (b.getD []).length := by rw [← hl]; exact (List.getElem?_eq_some_iff.1 hx).1
    simp only [Ob.holds, ev_v, List.cons_append, List.nil_append, List.getD_cons_succ, List.getD_cons_zero, if_true, int_i, len_encB, Int.toNat_natCast]
    exact ⟨by omega, hi⟩
  · rw [X_52, asStr_encB, asStr_encB]
    simp only [de52, ev_f, evs_cons, evs_nil, ev_v, ev_k, List.getD_cons_zero, List.getD_cons_succ, fe_len, fe_neI, len_encB, fe_ite]
    by_cases hl : (a.getD []).length = (b.getD []).length
    · rw [(hfold hl).fold 0]
      rw [neqI_fold _ _ _ _ (by omega)]
      have h1 : (((a.getD []).length : Int) != ((b.getD []).length : Int)) = false := by simp [hl]
      simp only [h1, List.getD_cons_zero, fe_ite, Bool.false_or, List.drop_zero, Bool.false_eq_true, if_false]
      rw [hl, List.take_length]
      cases (a.getD [] == b.getD []) <;> rfl
    · have h1 : (((a.getD []).length : Int) != ((b.getD []).length : Int)) = true := by
        simp only [bne_iff_ne, ne_eq]; omega
      simp only [h1, if_true]
      congr 1
      symm
      simp only [beq_eq_false_iff_ne, ne_eq]
      intro h; exact hl (by rw [h])

theorem anyI (p : Tg → Bool) : ∀ (l : List Tg) (i : Nat) (s : Bool), foldI (fun _ x s => if s then true else !p x) i l s = (s || !(l.all p))
  | [], i, s => by simp [foldI]
  | x :: l, i, s => by
    simp only [foldI]
    rw [anyI p l (i + 1)]
    cases s <;> cases h : p x <;> simp [h]
theorem ev54 (t : T) (k : Nat) : obsHold X (Pre k) ob54 [t.d] ∧ de54.eval X [t.d] = X 54 [t.d] := by
  have hfold : Folds X [t.d] 1 (.f (.get 4) [(.v 0)]) [(.k (.bool false))] [(.f .ite [(.v 3), (.k (.bool true)), (.f .not [(.f .ite [(.f .ltI [(.k (.int 2147483647)), (.f .len [(.f (.get 1) [(.v 2)])])]), (.k (.bool false)), (.k (.bool true))])])])] Tg.d (fun s : Bool => [.bool s]) (fun _ x s => if s then true else !(decide ((x.val.getD []).length ≤ 2147483647))) t.U false := by
    refine ⟨rfl, ?_, rfl, fun i x s hx _ => ?_⟩
    · simp only [ev_f, evs_cons, evs_nil, ev_v, List.getD_cons_zero, List.getD_cons_succ, fe_get, cells_T, rows_encU]; rfl
    · simp only [evs_cons, evs_nil, ev_v, ev_k, ev_f, List.cons_append, List.nil_append, List.getD_cons_succ, List.getD_cons_zero, fe_get, cells_Tg, fe_len, len_encB, fe_ltI, fe_ite]
      by_cases h : (x.val.getD []).length ≤ 2147483647
      · have h2 : ¬ ((2147483647 : Int) < ((x.val.getD []).length : Int)) := by omega
        simp only [h, h2, decide_false, decide_true, Bool.false_eq_true, if_false, fe_not]
        cases s <;> rfl
      · have h2 : ((2147483647 : Int) < ((x.val.getD []).length : Int)) := by omega
        simp only [h, h2, decide_false, decide_true, if_true, fe_not]
        cases s <;> rfl
  constructor
  · exact ⟨fun _ => ⟨fun _ => ⟨fun _ => ⟨hfold.all (fun _ _ _ => ⟨fun _ => trivial, trivial⟩), trivial⟩, trivial⟩, trivial⟩, trivial⟩
  · rw [X_54, toT_d]
    simp only [de54, ev_f, evs_cons, evs_nil, ev_v, ev_k, List.getD_cons_zero, List.getD_cons_succ, fe_get, cells_T, fe_len, len_encB, len_encT, len_encU, fe_ltI, fe_ite]
    rw [hfold.fold 0, anyI]
    have e1 : (t.s.getD []) = t.S := rfl
    have e2 : (t.l.getD []) = t.L := rfl
    have e3 : (t.u.getD []) = t.U := rfl
    simp only [e1, e2, e3, List.getD_cons_zero, fe_ite, Bool.false_or, fitsTo]
    have c : ∀ n : Nat, decide ((2147483647 : Int) < (n : Int)) = !decide (n ≤ 2147483647) := fun n => by
      by_cases h : n ≤ 2147483647
      · have : ¬ ((2147483647 : Int) < (n : Int)) := by omega
        simp [h, this]
      · have : ((2147483647 : Int) < (n : Int)) := by omega
        simp [h, this]
    rw [c, c, c]
    cases decide (t.S.length ≤ 2147483647) <;> cases decide (t.L.length ≤ 2147483647) <;> cases decide (t.U.length ≤ 2147483647) <;> cases (t.U.all fun x => decide ((x.val.getD []).length ≤ 2147483647)) <;> rfl
end Go.Mx

namespace Go.Mx
open Go Go.Dx

def mapI {A B : Type} (g : Nat → A → B) : Nat → List A → List B
  | _, [] => []
  | i, a :: r => g i a :: mapI g (i + 1) r
theorem foldI_app {A B : Type} (g : Nat → A → B) : ∀ (l : List A) (i : Nat) (s : List B), foldI (fun i a s => s ++ [g i a]) i l s = s ++ mapI g i l
  | [], i, s => by simp [foldI, mapI]
  | a :: l, i, s => by simp only [foldI, mapI]; rw [foldI_app g l (i + 1)]; simp
theorem mapI_const {A B : Type} (g : A → B) : ∀ (l : List A) (i : Nat), mapI (fun _ a => g a) i l = l.map g
  | [], _ => rfl
  | a :: l, i => by simp [mapI, mapI_const g l (i + 1)]
theorem mapI_len {A B : Type} (g : Nat → A → B) : ∀ (l : List A) (i : Nat), (mapI g i l).length = l.length
  | [], _ => rfl
  | a :: l, i => by simp [mapI, mapI_len g l (i + 1)]
theorem appd_T (a : List T) (x : T) : (encT (nz a)).appd (.list [x.d]) = encT (nz (a ++ [x])) := by
  cases a with
  | nil => simp [nz, encT, D.appd, tds]
  | cons y a => simp [nz, encT, D.appd, tds_map]
theorem appd_U (a : List Tg) (x : Tg) : (encU (nz a)).appd (.list [x.d]) = encU (nz (a ++ [x])) := by
  cases a with
  | nil => simp [nz, encU, D.appd]
  | cons y a => simp [nz, encU, D.appd]
theorem room_le {l b : Nat} (h : l ≤ 50000) (hb : b ≤ 4096) : l * b ≤ LIM ∧ l ≤ maxLen := by
  have : l * b ≤ 50000 * 4096 := Nat.mul_le_mul h hb
  exact ⟨by simp only [LIM]; omega, by simp only [maxLen]; omega⟩
theorem nz_getD {α : Type} (l : List α) : (nz l).getD [] = l := by cases l <;> rfl
theorem smT_l {t : T} (h : smT t = true) : t.L.length ≤ 40000 ∧ t.U.length ≤ 40000 ∧ ∀ x ∈ t.L, smT x = true := by
  cases t with
  | mk n s b l u =>
    simp only [smT, Bool.and_eq_true, decide_eq_true_eq] at h
    refine ⟨?_, h.2, ?_⟩
    · cases l with
      | none => simp [T.L, T.l]
      | some l => simp only [smTo, Bool.and_eq_true, decide_eq_true_eq] at h; exact h.1.1
    · cases l with
      | none => intro x hx; simp [T.L, T.l] at hx
      | some l => simp only [smTo, Bool.and_eq_true, decide_eq_true_eq] at h; exact smTl_mem h.1.2
theorem wT_L {t x : T} (h : x ∈ t.L) : wT x < wT t := by
  cases t with
  | mk n s b l u =>
    cases l with
    | none => simp [T.L, T.l] at h
    | some l =>
      have := wT_mem (l := l) (t := x) h
      simp only [wT, wTo]; omega
theorem given_d (t : T) : (given t).d = .row [.int t.n, encB t.s, .bool t.null, encT (nz (t.L.map given)), encU (nz t.U)] := by
  cases t with
  | mk n s b l u =>
    simp only [given, T.d, T.n, T.s, T.null, T.U, T.u, T.L, T.l]
    cases l with
    | none => simp [givenO, nz]
    | some l => simp [givenO, givenL_map]

theorem ev44 (t : T) (n : Nat) (h : Pre (n + 1) 44 [t.d]) : obsHold X (Pre n) ob44 [t.d] ∧ de44.eval X [t.d] = X 44 [t.d] := by
  obtain ⟨hm, hs⟩ := h
  have hm := hm rfl
  rw [meas_44, toT_d] at hm
  rw [side_44, toT_d] at hs
  obtain ⟨s1, s2, s3⟩ := smT_l hs
  have f1 : Folds X [t.d] 1 (.f (.get 3) [(.v 0)]) [(.k .nil)] [(.f .app [(.v 3), (.f .mklist [(.f (.ext 44) [(.v 2)])])])] T.d (fun a : List T => [encT (nz a)]) (fun _ x a => a ++ [given x]) t.L [] := by
    refine ⟨rfl, ?_, rfl, fun i x a hx _ => ?_⟩
    · simp only [ev_f, evs_cons, evs_nil, ev_v, List.getD_cons_zero, List.getD_cons_succ, fe_get, cells_T, rows_encT]; rfl
    · simp only [evs_cons, evs_nil, ev_v, ev_k, ev_f, List.cons_append, List.nil_append, List.getD_cons_succ, List.getD_cons_zero, fe_ext, X_44, toT_d, fe_mklist, fe_app, appd_T]
  have f2 : Folds X [t.d] 1 (.f (.get 4) [(.v 0)]) [(.k .nil)] [(.f .app [(.v 3), (.f .mklist [(.f .mkrow [(.f (.get 0) [(.v 2)]), (.f (.get 1) [(.v 2)])])])])] Tg.d (fun a : List Tg => [encU (nz a)]) (fun _ x a => a ++ [x]) t.U [] := by
    refine ⟨rfl, ?_, rfl, fun i x a hx _ => ?_⟩
    · simp only [ev_f, evs_cons, evs_nil, ev_v, List.getD_cons_zero, List.getD_cons_succ, fe_get, cells_T, rows_encU]; rfl
    · simp only [evs_cons, evs_nil, ev_v, ev_k, ev_f, List.cons_append, List.nil_append, List.getD_cons_succ, List.getD_cons_zero, fe_get, cells_Tg, fe_mkrow, fe_mklist, fe_app]
      rw [← appd_U]; rfl
  constructor
  · refine ⟨f2.all (fun k x hx => ?_), f1.all (fun k x hx => ?_), trivial⟩
    · have hk := (List.getElem?_eq_some_iff.1 hx).1
      simp only [obsHold, Ob.holds, evs_cons, evs_nil, ev_v, ev_k, ev_f, List.cons_append, List.nil_append, List.getD_cons_succ, List.getD_cons_zero, fe_get, cells_Tg, fe_mkrow, fe_mklist, fe_app]
      rw [foldI_app (fun _ x => x), mapI_const]
      have e : ((encU (nz ([] ++ List.map (fun x => x) (List.take k t.U)))).appd (D.list [D.row [D.int x.key, encB x.val]])).len ≤ 50000 := by
        show ((encU (nz ([] ++ List.map (fun x => x) (List.take k t.U)))).appd (D.list [x.d])).len ≤ 50000
        rw [appd_U, len_encU, nz_getD]
        simp; omega
      exact ⟨room_le e (by omega), trivial⟩
    · have hk := (List.getElem?_eq_some_iff.1 hx).1
      have hxm : x ∈ t.L := List.mem_of_getElem? hx
      simp only [obsHold, Ob.holds, evs_cons, evs_nil, ev_v, ev_k, ev_f, List.cons_append, List.nil_append, List.getD_cons_succ, List.getD_cons_zero, fe_ext, X_44, toT_d, fe_mklist, fe_app]
      rw [foldI_app (fun _ x => given x), mapI_const]
      have e : ((encT (nz ([] ++ List.map given (List.take k t.L)))).appd (D.list [(given x).d])).len ≤ 50000 := by
        rw [appd_T, len_encT, nz_getD]
        simp; omega
      refine ⟨room_le e (by omega), ⟨fun _ => ?_, ?_⟩, trivial⟩
      · rw [meas_44, toT_d]
        have := wT_L hxm
        omega
      · rw [side_44, toT_d]; exact s3 x hxm
  · rw [X_44, toT_d, given_d]
    simp only [de44, ev_f, evs_cons, evs_nil, ev_v, List.getD_cons_zero, List.getD_cons_succ, fe_get, cells_T, fe_mkrow]
    rw [f1.fold 0, f2.fold 0, foldI_app (fun _ x => given x), foldI_app (fun _ x => x), mapI_const, mapI_const]
    simp
end Go.Mx

namespace Go.Mx
open Go Go.Dx

theorem insTag_len (x : Tg) : ∀ l : List Tg, (insTag x l).length ≤ l.length + 1
  | [] => by simp [insTag]
  | t :: r => by
    simp only [insTag]
    have := insTag_len x r
    split
    · simp; omega
    · split <;> simp
theorem unknown_fold_len (p : Tg → Bool) : ∀ (l : List Tg) (a : List Tg), (l.foldl (fun out t => if p t then out else insTag t out) a).length ≤ a.length + l.length
  | [], a => by simp
  | t :: r, a => by
    simp only [List.foldl]
    have := unknown_fold_len p r (if p t then a else insTag t a)
    have h2 := insTag_len t a
    cases hp : p t <;> simp only [hp, if_true, Bool.false_eq_true, if_false, List.length_cons] at this ⊢ <;> omega
theorem unknown_len (fs : List Fl) (u : Option (List Tg)) : (unknown fs u).length ≤ 32767 := by
  unfold unknown
  have := unknown_fold_len (fun t => decide (t.key < (known fs : Int))) ((u.getD []).take Most) []
  simp only [decide_eq_true_eq, List.length_nil, Nat.zero_add, List.length_take, Most] at this ⊢
  omega
def cut (x : Tg) : Tg := ⟨x.key, whole x.val⟩
theorem FitS_eq (fs : Option (List Fl)) (v : Int) (t : T) : FitS fs v t = .mk 0 none false (nz (mapI (fun i f => fitted f v (at' t i)) 0 (fs.getD []))) (nz ((unknown (fs.getD []) t.u).map cut)) := by
  have h : ∀ (l : List Fl) (i : Nat), fitL l i v t = mapI (fun i f => fitted f v (at' t i)) i l := fun l => by
    induction l with
    | nil => intro i; rfl
    | cons f l ih => intro i; simp [fitL, mapI, ih]
  cases fs with
  | none => rfl
  | some l => simp only [FitS, h]; rfl
theorem min_take {α : Type} (l : List α) : l.take (min (l.length : Int) 32767).toNat = l.take 32767 := by
  by_cases h : l.length ≤ 32767
  · rw [List.take_of_length_le h, List.take_of_length_le (by omega)]
  · congr 1; omega
theorem takeB (s : Option (List UInt8)) : (encB s).takeD (min ((s.getD []).length : Int) 32767).toNat = encB (whole s) := by
  rw [takeD_encB]
  cases s with
  | none => rfl
  | some s =>
    simp only [whole, Option.map_some, Option.getD_some]
    rw [min_take s]; rfl
theorem takeT (s : Option (List T)) : (encT s).takeD (min ((s.getD []).length : Int) 32767).toNat = encT (things s) := by
  rw [takeD_encT]
  cases s with
  | none => rfl
  | some s =>
    simp only [things, Option.map_some, Option.getD_some]
    rw [min_take s]; rfl
theorem wfFs_l {fs : Option (List Fl)} (h : wfFs fs = true) : (fs.getD []).length ≤ 1000 ∧ ∀ f ∈ fs.getD [], wfF f = true := by
  cases fs with
  | none => simp
  | some l => simp only [wfFs, Bool.and_eq_true, decide_eq_true_eq] at h; exact ⟨h.1, wfFl_mem h.2⟩
theorem wFs_mem {fs : Option (List Fl)} {f : Fl} (h : f ∈ fs.getD []) : wF f < wFs fs := by
  cases fs with
  | none => simp at h
  | some l => have := wF_mem (l := l) h; simp only [wFs]; omega
theorem pre_of {n k : Nat} {ds : List D} (h1 : recur k = true → meas k ds < n) (h2 : side k ds) : Pre n k ds := ⟨h1, h2⟩

theorem ev43 (fs : Option (List Fl)) (v : Int) (t : T) (n : Nat) (h : Pre (n + 1) 43 [encF fs, .int v, t.d]) : obsHold X (Pre n) ob43 [encF fs, .int v, t.d] ∧ de43.eval X [encF fs, .int v, t.d] = X 43 [encF fs, .int v, t.d] := by
  obtain ⟨hm, hs⟩ := h
  have hm := hm rfl
  rw [meas_43, decF_enc] at hm
  rw [side_43, decF_enc] at hs
  obtain ⟨s1, s2⟩ := wfFs_l hs
  have f1 : Folds X [encF fs, .int v, t.d] 3 (.v 0) [(.k .nil)] [(.f .app [(.v 5), (.f .mklist [(.f (.ext 42) [(.v 4), (.v 1), (.f (.ext 40) [(.v 2), (.v 3)])])])])] Fl.d (fun a : List T => [encT (nz a)]) (fun i f a => a ++ [fitted f v (at' t i)]) (fs.getD []) [] := by
    refine ⟨rfl, ?_, rfl, fun i x a hx _ => ?_⟩
    · simp only [ev_v, List.getD_cons_zero, rows_encF]
    · simp only [evs_cons, evs_nil, ev_v, ev_k, ev_f, List.cons_append, List.nil_append, List.getD_cons_succ, List.getD_cons_zero, fe_ext, X_42, X_40, toT_d, toF_d, int_i, fe_mklist, fe_app, appd_T]
  have f2 : Folds X [encF fs, .int v, t.d] 3 (.f (.ext 41) [(.v 0), (.f (.get 4) [(.v 2)])]) [(.k .nil)] [(.f .app [(.v 5), (.f .mklist [(.f .mkrow [(.f (.get 0) [(.v 4)]), (.f .take [(.f (.get 1) [(.v 4)]), (.f .imin [(.f .len [(.f (.get 1) [(.v 4)])]), (.k (.int 32767))])])])])])] Tg.d (fun a : List Tg => [encU (nz a)]) (fun _ x a => a ++ [cut x]) (unknown (fs.getD []) t.u) [] := by
    refine ⟨rfl, ?_, rfl, fun i x a hx _ => ?_⟩
    · simp only [ev_f, evs_cons, evs_nil, ev_v, List.getD_cons_zero, List.getD_cons_succ, fe_get, cells_T, fe_ext, X_41, decF_enc, decU_enc, rows_encU, nz_getD]
    · simp only [evs_cons, evs_nil, ev_v, ev_k, ev_f, List.cons_append, List.nil_append, List.getD_cons_succ, List.getD_cons_zero, fe_get, cells_Tg, fe_len, len_encB, fe_imin, fe_take, takeB, fe_mkrow, fe_mklist, fe_app]
      rw [← appd_U]; rfl
  constructor
  · refine ⟨f2.all (fun k x hx => ?_), ⟨fun e => by simp [recur] at e, ?_⟩, f1.all (fun k x hx => ?_), trivial⟩
    · have hk := (List.getElem?_eq_some_iff.1 hx).1
      have hul := unknown_len (fs.getD []) t.u
      simp only [obsHold, Ob.holds, evs_cons, evs_nil, ev_v, ev_k, ev_f, List.cons_append, List.nil_append, List.getD_cons_succ, List.getD_cons_zero, fe_get, cells_Tg, fe_len, len_encB, fe_imin, fe_take, takeB, fe_mkrow, fe_mklist, fe_app, int_i]
      rw [foldI_app (fun _ x => cut x), mapI_const]
      refine ⟨?_, ⟨by omega, ?_⟩, trivial⟩
      · have e : ((encU (nz ([] ++ List.map (fun x => cut x) (List.take k (unknown (fs.getD []) t.u))))).appd (D.list [(cut x).d])).len ≤ 50000 := by
          rw [appd_U, len_encU, nz_getD]
          simp; omega
        exact room_le e (by omega)
      · simp only [Bool.false_eq_true, if_false]; omega
    · simp only [evs_cons, evs_nil, ev_v, ev_f, List.getD_cons_succ, List.getD_cons_zero]
      rw [side_41, decF_enc]; exact hs
    · have hk := (List.getElem?_eq_some_iff.1 hx).1
      have hxm : x ∈ fs.getD [] := List.mem_of_getElem? hx
      simp only [obsHold, Ob.holds, evs_cons, evs_nil, ev_v, ev_k, ev_f, List.cons_append, List.nil_append, List.getD_cons_succ, List.getD_cons_zero, fe_ext, X_42, X_40, toT_d, toF_d, int_i, fe_mklist, fe_app]
      rw [foldI_app (fun i f => fitted f v (at' t i))]
      refine ⟨?_, ⟨fun _ => ?_, ?_⟩, ⟨fun e => by simp [recur] at e, ?_⟩, trivial⟩
      · have e : ((encT (nz ([] ++ mapI (fun i f => fitted f v (at' t i)) 0 (List.take k (fs.getD []))))).appd (D.list [(fitted x v (at' t k)).d])).len ≤ 50000 := by
          rw [appd_T, len_encT, nz_getD]
          simp [mapI_len]; omega
        exact room_le e (by omega)
      · rw [meas_42, toF_d]
        have := wFs_mem hxm
        omega
      · rw [side_42, toF_d]; exact s2 x hxm
      · rw [side_40]; simp only [int_i]; omega
  · rw [X_43, toT_d, decF_enc, int_i, FitS_eq, T.d]
    simp only [de43, ev_f, evs_cons, evs_nil, ev_k, fe_mkrow]
    rw [f1.fold 0, f2.fold 0, foldI_app (fun i f => fitted f v (at' t i)), foldI_app (fun _ x => cut x), mapI_const]
    simp [encB]
end Go.Mx

namespace Go.Mx
open Go Go.Dx

theorem fitted_eq (f : Fl) (v : Int) (t : T) : fitted f v t = if f.kind = 11 then .mk 0 none (Mx.null f v t || (decide (0 ≤ f.tag) && t.L.length == 0)) (nz ((t.L.take Most).map fun x => fittedB f.of false x (FitS f.sub v x))) none else fittedB f.kind (Mx.null f v t) t (FitS f.sub v t) := by
  cases f; simp only [fitted, Fl.kind, Fl.tag, Fl.of, Fl.sub]; rfl
theorem fitted_one (f : Fl) (v : Int) (t : T) (h : f.of ≠ 11) : fitted (one f) v t = fittedB f.of false t (FitS f.sub v t) := by
  rw [fitted_eq]
  have e : (one f).kind = f.of := rfl
  have e2 : Mx.null (one f) v t = false := by simp [Mx.null, one, Fl.null]
  rw [e, if_neg h, e2]; rfl
theorem one_d (f : Fl) : (one f).d = .row [.int f.of, .int f.frm, .int f.to, .int (-1), .int (-1), .int f.dflt, .int f.of, encF f.sub] := by
  cases f; simp [one, Fl.d, Fl.of, Fl.frm, Fl.to, Fl.dflt, Fl.sub]
theorem wfF_of {f : Fl} (h : wfF f = true) (hk : f.kind = 11) : f.of ≠ 11 := by
  cases f
  simp only [wfF, Bool.and_eq_true, Bool.or_eq_true, decide_eq_true_eq, Fl.kind, Fl.of] at h hk ⊢
  rcases h.1.2 with h | h
  · exact absurd hk h
  · exact h
theorem wF_eq (f : Fl) : wF f = wFs f.sub + 1 + (if f.kind = 11 then 1 else 0) := by cases f; rfl
theorem wfF_one {f : Fl} (h : wfF f = true) (hk : f.kind = 11) : wfF (one f) = true := by
  have ho := wfF_of h hk
  have hs := wfF_sub h
  cases f
  simp only [Fl.of, Fl.sub] at ho hs
  simp only [one, wfF, Bool.and_eq_true, Bool.or_eq_true, decide_eq_true_eq, Fl.of, Fl.sub]
  exact ⟨⟨by omega, .inl ho⟩, hs⟩
theorem kind_tests (k : Int) : (if (k == 8) = true then (k == 8) else (k == 9)) = decide (k = 8 ∨ k = 9) := by
  by_cases h8 : k = 8 <;> by_cases h9 : k = 9 <;> simp [h8, h9]
theorem beq_dec (a b : Int) : (a == b) = decide (a = b) := by
  by_cases h : a = b <;> simp [h]

theorem ev42 (f : Fl) (v : Int) (t : T) (n : Nat) (h : Pre (n + 1) 42 [f.d, .int v, t.d]) : obsHold X (Pre n) ob42 [f.d, .int v, t.d] ∧ de42.eval X [f.d, .int v, t.d] = X 42 [f.d, .int v, t.d] := by
  obtain ⟨hm, hs⟩ := h
  have hm := hm rfl
  rw [meas_42, toF_d] at hm
  rw [side_42, toF_d] at hs
  have hfold : f.kind = 11 → Folds X [f.d, .int v, t.d] 3 (.f .take [(.f (.get 3) [(.v 2)]), (.f .imin [(.f .len [(.f (.get 3) [(.v 2)])]), (.k (.int 32767))])]) [(.k .nil)] [(.f .app [(.v 5), (.f .mklist [(.f (.ext 42) [(.f .mkrow [(.f (.get 6) [(.v 0)]), (.f (.get 1) [(.v 0)]), (.f (.get 2) [(.v 0)]), (.k (.int (-1))), (.k (.int (-1))), (.f (.get 5) [(.v 0)]), (.f (.get 6) [(.v 0)]), (.f (.get 7) [(.v 0)])]), (.v 1), (.v 4)])])])] T.d (fun a : List T => [encT (nz a)]) (fun _ x a => a ++ [fittedB f.of false x (FitS f.sub v x)]) (t.L.take Most) [] := fun hk => by
    refine ⟨rfl, ?_, rfl, fun i x a hx _ => ?_⟩
    · simp only [ev_f, ev_k, evs_cons, evs_nil, ev_v, List.getD_cons_zero, List.getD_cons_succ, fe_get, cells_T, fe_len, len_encT, fe_imin, fe_take, takeT, rows_encT, things]
      cases t with | mk n s b l u => cases l <;> rfl
    · simp only [evs_cons, evs_nil, ev_v, ev_k, ev_f, List.cons_append, List.nil_append, List.getD_cons_succ, List.getD_cons_zero, fe_get, cells_F, fe_mkrow, ← one_d, fe_ext, X_42, toT_d, toF_d, int_i, fe_mklist, fe_app, appd_T]
      rw [fitted_one f v x (wfF_of hs hk)]
  constructor
  · refine ⟨fun _ => ⟨?_, trivial⟩, fun _ => ⟨fun _ => ⟨⟨fun _ => ?_, ?_⟩, trivial⟩, fun _ => ⟨fun hc => ⟨?_, ?_, trivial⟩, trivial⟩, trivial⟩, ⟨fun e => by simp [recur] at e, trivial⟩, trivial⟩
    · simp only [Ob.holds, evs_cons, evs_nil, ev_v, ev_k, ev_f, List.getD_cons_succ, List.getD_cons_zero, fe_get, cells_T, fe_len, len_encB, fe_imin, int_i, Bool.false_eq_true, if_false]
      omega
    · simp only [evs_cons, evs_nil, ev_v, ev_f, List.getD_cons_succ, List.getD_cons_zero, fe_get, cells_F]
      rw [meas_43, decF_enc]
      have := wF_sub f
      omega
    · simp only [evs_cons, evs_nil, ev_v, ev_f, List.getD_cons_succ, List.getD_cons_zero, fe_get, cells_F]
      rw [side_43, decF_enc]; exact wfF_sub hs
    · have hk : f.kind = 11 := by
        simp only [evs_cons, evs_nil, ev_v, ev_k, ev_f, List.getD_cons_zero, fe_get, cells_F, fe_eqI, bool_b] at hc
        simpa using hc
      refine (hfold hk).all (fun k x hx => ?_)
      have hlt := (List.getElem?_eq_some_iff.1 hx).1
      rw [List.length_take] at hlt
      simp only [Most] at hlt
      simp only [obsHold, Ob.holds, evs_cons, evs_nil, ev_v, ev_k, ev_f, List.cons_append, List.nil_append, List.getD_cons_succ, List.getD_cons_zero, fe_get, cells_F, fe_mkrow, ← one_d, fe_ext, X_42, toT_d, toF_d, int_i, fe_mklist, fe_app]
      rw [foldI_app (fun _ x => fittedB f.of false x (FitS f.sub v x)), mapI_const]
      refine ⟨?_, ⟨fun _ => ?_, ?_⟩, trivial⟩
      · have e : ((encT (nz ([] ++ List.map (fun x => fittedB f.of false x (FitS f.sub v x)) (List.take k (t.L.take Most))))).appd (D.list [(fitted (one f) v x).d])).len ≤ 50000 := by
          rw [appd_T, len_encT, nz_getD]
          simp [Most]; omega
        exact room_le e (by omega)
      · rw [meas_42, toF_d]
        have e1 := wF_eq (one f)
        have e2 := wF_eq f
        have ho := wfF_of hs hk
        have e3 : (one f).kind = f.of := rfl
        have e4 : (one f).sub = f.sub := rfl
        rw [e3, if_neg ho, e4] at e1
        rw [if_pos hk] at e2
        omega
      · rw [side_42, toF_d]; exact wfF_one hs hk
    · simp only [Ob.holds, evs_cons, evs_nil, ev_v, ev_k, ev_f, List.getD_cons_succ, List.getD_cons_zero, fe_get, cells_T, fe_len, len_encT, fe_imin, int_i, Bool.false_eq_true, if_false]
      omega
  · rw [X_42, toT_d, toF_d, int_i, fitted_eq]
    simp only [de42, ev_f, evs_cons, evs_nil, ev_v, ev_k, List.getD_cons_zero, List.getD_cons_succ, fe_get, cells_F, cells_T, fe_eqI, fe_ite, fe_ext, X_43, X_56, toT_d, toF_d, decF_enc, int_i, fe_len, len_encB, len_encT, fe_imin, fe_take, takeB, fe_mkrow, fe_leI]
    have ei : (if (f.kind == 8) = true then D.bool (f.kind == 8) else D.bool (f.kind == 9)) = D.bool (decide (f.kind = 8 ∨ f.kind = 9)) := by
      rw [← kind_tests]; split <;> rfl
    rw [ei, fe_ite]
    simp only [beq_dec, decide_eq_true_eq]
    by_cases h89 : f.kind = 8 ∨ f.kind = 9
    · have h11 : f.kind ≠ 11 := by omega
      rw [if_pos h89, if_neg h11, fittedB, if_pos h89]
      simp [T.d, encT, encU]
    · rw [if_neg h89]
      by_cases h10 : f.kind = 10
      · have h11 : f.kind ≠ 11 := by omega
        rw [if_pos h10, if_neg h11, fittedB, if_neg h89, if_pos h10]
        rw [T.d]
      · rw [if_neg h10]
        by_cases h11 : f.kind = 11
        · rw [if_pos h11, if_pos h11, (hfold h11).fold 0, foldI_app (fun _ x => fittedB f.of false x (FitS f.sub v x)), mapI_const, T.d]
          have e2 : decide (((t.l.getD []).length : Int) = 0) = (t.L.length == 0) := by
            show decide ((t.L.length : Int) = 0) = _
            by_cases h : t.L.length = 0 <;> simp [h]
          rw [e2]
          by_cases h0 : 0 ≤ f.tag <;> cases Mx.null f v t <;> simp [h0, encB, encU, -List.map_take]
        · rw [if_neg h11, if_neg h11, fittedB, if_neg h89, if_neg h10, T.d]
          simp [encT, encU]
end Go.Mx

namespace Go.Mx
open Go Go.Dx

def posT (x : Tg) : List Tg → Nat
  | [] => 0
  | t :: r => if t.key < x.key then posT x r + 1 else 0
theorem posT_le (x : Tg) : ∀ l, posT x l ≤ l.length
  | [] => Nat.le_refl _
  | t :: r => by
    simp only [posT]
    have := posT_le x r
    split <;> simp <;> omega
theorem posT_go (x z : Tg) : ∀ (l : List Tg) (k : Nat), k < posT x l → (l.getD k z).key < x.key
  | [], k, h => by simp [posT] at h
  | t :: r, k, h => by
    simp only [posT] at h
    split at h
    · rename_i ht
      cases k with
      | zero => simpa using ht
      | succ k => simpa using posT_go x z r k (by omega)
    · omega
theorem posT_stop (x z : Tg) : ∀ (l : List Tg), posT x l < l.length → ¬ (l.getD (posT x l) z).key < x.key
  | [], h => by simp [posT] at h
  | t :: r, h => by
    simp only [posT] at h ⊢
    split
    · rename_i ht
      rw [if_pos ht] at h
      simp only [List.length_cons] at h
      simpa using posT_stop x z r (by omega)
    · rename_i ht
      simpa using ht
theorem insTag_eq (x z : Tg) : ∀ l : List Tg, insTag x l = if posT x l < l.length ∧ (l.getD (posT x l) z).key = x.key then l else l.take (posT x l) ++ x :: l.drop (posT x l)
  | [] => by simp [insTag, posT]
  | t :: r => by
    by_cases h : t.key < x.key
    · have e : posT x (t :: r) = posT x r + 1 := by rw [posT, if_pos h]
      have e2 : insTag x (t :: r) = t :: insTag x r := by rw [insTag, if_pos h]
      rw [e, e2, insTag_eq x z r]
      by_cases h2 : posT x r < r.length ∧ (r.getD (posT x r) z).key = x.key
      · rw [if_pos h2, if_pos (by simpa using h2)]
      · rw [if_neg h2, if_neg (by simpa using h2)]
        simp
    · have e : posT x (t :: r) = 0 := by rw [posT, if_neg h]
      have e2 : insTag x (t :: r) = if t.key = x.key then t :: r else x :: t :: r := by rw [insTag, if_neg h]
      rw [e, e2]
      by_cases h2 : t.key = x.key
      · rw [if_pos h2, if_pos (by simp [h2])]
      · rw [if_neg h2, if_neg (by simp [h2])]
        simp

/-- the list while a place is made -/
def opened (z : Tg) (l : List Tg) (j : Nat) : List Tg := l.take (l.length - j) ++ (if j = 0 then z else l.getD (l.length - j) z) :: l.drop (l.length - j)
theorem opened_zero (z : Tg) (l : List Tg) : opened z l 0 = l ++ [z] := by simp [opened]
theorem opened_len (z : Tg) (l : List Tg) (j : Nat) (h : j ≤ l.length) : (opened z l j).length = l.length + 1 := by
  simp [opened]; omega
theorem opened_get (z : Tg) (l : List Tg) (j : Nat) (h : j < l.length) : (opened z l j)[l.length - j - 1]? = some (l.getD (l.length - j - 1) z) := by
  rw [opened, List.getElem?_append_left (by simp; omega), List.getElem?_take_of_lt (by omega), List.getElem?_eq_getElem (by omega), List.getD_eq_getElem?_getD, List.getElem?_eq_getElem (by omega)]
  rfl
theorem set_mid {α : Type} (a : List α) (x y : α) (b : List α) (n : Nat) (h : n = a.length) : (a ++ x :: b).set n y = a ++ y :: b := by
  subst h
  rw [List.set_append_right _ _ (Nat.le_refl _)]; simp
theorem opened_set (z : Tg) (l : List Tg) (j : Nat) (h : j ≤ l.length) (y : Tg) : (opened z l j).set (l.length - j) y = l.take (l.length - j) ++ y :: l.drop (l.length - j) := by
  rw [opened, set_mid _ _ _ _ _ (by simp)]
theorem opened_succ (z : Tg) (l : List Tg) (j : Nat) (h : j < l.length) : (opened z l j).set (l.length - j) (l.getD (l.length - j - 1) z) = opened z l (j + 1) := by
  rw [opened_set z l j (by omega), opened, if_neg (by omega)]
  have e : l.length - (j + 1) = l.length - j - 1 := by omega
  rw [e]
  have e1 : l.take (l.length - j) = l.take (l.length - j - 1) ++ [l.getD (l.length - j - 1) z] := by
    have h2 : l[l.length - j - 1]? = some (l.getD (l.length - j - 1) z) := by
      rw [List.getD_eq_getElem?_getD, List.getElem?_eq_getElem (by omega)]; rfl
    have := take_snoc h2
    rw [← this]
    congr 1; omega
  have e2 : l.drop (l.length - j - 1) = l.getD (l.length - j - 1) z :: l.drop (l.length - j) := by
    rw [List.drop_eq_getElem_cons (by omega)]
    congr 1
    · rw [List.getD_eq_getElem?_getD, List.getElem?_eq_getElem (by omega)]; rfl
    · congr 1; omega
  rw [e1, e2]; simp
theorem nz_enc {l : List Tg} (h : 0 < l.length) : encU (nz l) = .list (l.map Tg.d) := by
  cases l with
  | nil => simp at h
  | cons a l => rfl
theorem setAt_U (l : List Tg) (n : Nat) (x : Tg) (h : 0 < l.length) : (encU (nz l)).setAtD n x.d = encU (nz (l.set n x)) := by
  rw [nz_enc h, nz_enc (by simpa using h), List.map_set]; rfl
theorem at_U (l : List Tg) (n : Nat) (z x : Tg) (h : l[n]? = some x) : (encU (nz l)).rows.getD n .nil = x.d := by
  rw [rows_encU, nz_getD, List.getD_eq_getElem?_getD, List.getElem?_map, h]; rfl

def go1 : DE := .f .ite [.f .ltI [.v 7, .f .len [.v 4]], .f .ltI [.f (.get 0) [.f .at [.v 4, .v 7]], .f (.get 0) [.v 3]], .k (.bool false)]
def is1 : List DE := [.k (.int 0)]
def bs1 : List DE := [.f (.add .i64) [.v 7, .k (.int 1)]]
def iE : DE := .fold 5 (.f .iota [.wh 5 go1 is1 bs1]) is1 bs1 0
def apE : DE := .f .app [.v 4, .f .mklist [.f .mkrow [.k (.int 0), .k .nil]]]
def go2 : DE := .f .ltI [iE, .v 7]
def is2 : List DE := [.f (.sub .i64) [.f .len [apE], .k (.int 1)], apE]
def bs2 : List DE := [.f (.sub .i64) [.v 7, .k (.int 1)], .f .setAt [.v 8, .v 7, .f .at [.v 8, .f (.sub .i64) [.v 7, .k (.int 1)]]]]
def src41 : DE := .f .take [.v 1, .f .imin [.f .len [.v 1], .k (.int 32767)]]
def cl41 : DE := .f .ltI [.f (.get 0) [.v 3], .f (.ext 51) [.v 0]]
def same41 : DE := .f .eqI [.f (.get 0) [.f .at [.v 4, iE]], .f (.get 0) [.v 3]]
def c41 : DE := .f .ite [cl41, .k (.bool true), .f .ite [.f .ltI [iE, .f .len [.v 4]], same41, .k (.bool false)]]
def li41 (j : Nat) : DE := .fold 5 (.f .iota [.wh 5 go2 is2 bs2]) is2 bs2 j
def bs41 : List DE := [.f .ite [c41, .v 4, .f .setAt [li41 1, iE, .v 3]]]
theorem de41_eq : de41 = .fold 2 src41 [.k .nil] bs41 0 := rfl
def os41 : List Ob := [.when c41 false [.idx iE (li41 1) true, .idx iE (li41 1) true, .term 5 go2 is2 bs2, .all (.f .iotaS [.wh 5 go2 is2 bs2]) is2 bs2 [.when go2 true [.idx (.v 7) (.v 8) true, .idx (.v 7) (.v 8) true, .idx (.f (.sub .i64) [.v 7, .k (.int 1)]) (.v 8) true, .idx (.f (.sub .i64) [.v 7, .k (.int 1)]) (.v 8) true]], .room apE 32],
  .when cl41 false [.when (.f .ltI [iE, .f .len [.v 4]]) true [.idx iE (.v 4) true, .idx iE (.v 4) true]],
  .term 5 go1 is1 bs1, .all (.f .iotaS [.wh 5 go1 is1 bs1]) is1 bs1 [.when (.f .ltI [.v 7, .f .len [.v 4]]) true [.idx (.v 7) (.v 4) true, .idx (.v 7) (.v 4) true]]]
theorem ob41_eq : ob41 = [.all src41 [.k .nil] bs41 os41, .idx (.f .imin [.f .len [.v 1], .k (.int 32767)]) (.v 1) false, .pre 51 [.v 0]] := rfl

theorem wrapi {x : Int} (h1 : -100000 ≤ x) (h2 : x ≤ 100000) : IntKind.i64.wrap x = x := by
  rw [IntKind.wrap_i64]; omega

section
variable {fs u : D} {i : Nat} {x : Tg} {out : List Tg}
def env41 (fs u : D) (i : Nat) (x : Tg) (out : List Tg) : List D := [fs, u, .int i, x.d, encU (nz out)]

theorem run1 (h : out.length ≤ 50000) : Runs X (env41 fs u i x out) 5 go1 is1 bs1 (posT x out) (fun k => [.int k]) := by
  have hle := posT_le x out
  refine ⟨rfl, rfl, fun k hk => ?_, fun k hk => ?_, ?_⟩
  · simp only [env41, bs1, evs_cons, evs_nil, ev_v, ev_k, ev_f, List.cons_append, List.nil_append, List.getD_cons_succ, List.getD_cons_zero, fe_add]
    rw [wrapi (by omega) (by omega)]; rfl
  · have := posT_go x x out k hk
    have hk' : out[k]? = some (out.getD k x) := by rw [List.getD_eq_getElem?_getD, List.getElem?_eq_getElem (by omega)]; rfl
    simp only [env41, go1, evs_cons, evs_nil, ev_v, ev_k, ev_f, List.cons_append, List.nil_append, List.getD_cons_succ, List.getD_cons_zero, fe_len, len_encU, nz_getD, fe_ltI, fe_at, Int.toNat_natCast, at_U out k x _ hk', fe_get, cells_Tg, fe_ite]
    rw [decide_eq_true (by omega), decide_eq_true this]; rfl
  · simp only [env41, go1, evs_cons, evs_nil, ev_v, ev_k, ev_f, List.cons_append, List.nil_append, List.getD_cons_succ, List.getD_cons_zero, fe_len, len_encU, nz_getD, fe_ltI, fe_at, Int.toNat_natCast, fe_get]
    by_cases h2 : posT x out < out.length
    · have hk' : out[posT x out]? = some (out.getD (posT x out) x) := by rw [List.getD_eq_getElem?_getD, List.getElem?_eq_getElem (by omega)]; rfl
      simp only [at_U out _ x _ hk', cells_Tg, List.getD_cons_zero, fe_ltI, fe_ite]
      rw [decide_eq_false (posT_stop x x out h2)]; split <;> rfl
    · rw [decide_eq_false (by omega)]; rfl
theorem iE_eval (h : out.length ≤ 50000) : iE.eval X (env41 fs u i x out) = .int (posT x out : Nat) := by
  rw [iE, (run1 h).fold 0]; rfl
theorem iE_evalA (h : out.length ≤ 50000) (r : List D) : iE.eval X (env41 fs u i x out ++ r) = .int (posT x out : Nat) := by
  rw [← iE_eval (fs := fs) (u := u) (i := i) h]
  exact shut_eval (n := 5) (by simp [env41]) (by rfl)
theorem ap_eval : apE.eval X (env41 fs u i x out) = encU (nz (out ++ [⟨0, none⟩])) := by
  have e : D.row [.int 0, .nil] = Tg.d ⟨0, none⟩ := rfl
  simp only [env41, apE, evs_cons, evs_nil, ev_v, ev_k, ev_f, List.getD_cons_succ, List.getD_cons_zero, fe_mkrow, fe_mklist, fe_app]
  rw [e, appd_U]
theorem run2 (h : out.length ≤ 50000) : Runs X (env41 fs u i x out) 5 go2 is2 bs2 (out.length - posT x out) (fun k => [.int ((out.length - k : Nat) : Int), encU (nz (opened ⟨0, none⟩ out k))]) := by
  have hle := posT_le x out
  refine ⟨rfl, ?_, fun k hk => ?_, fun k hk => ?_, ?_⟩
  · simp only [is2, evs_cons, evs_nil, ev_f, ap_eval, ev_k, fe_len, len_encU, nz_getD, fe_sub, opened_zero]
    rw [wrapi (by simp [List.length_append]) (by simp [List.length_append]; omega)]
    simp
  · have e1 : ((out.length - k : Nat) : Int) - 1 = ((out.length - k - 1 : Nat) : Int) := by omega
    have hl := opened_len ⟨0, none⟩ out k (by omega)
    simp only [env41, bs2, evs_cons, evs_nil, ev_v, ev_k, ev_f, List.cons_append, List.nil_append, List.getD_cons_succ, List.getD_cons_zero, fe_sub]
    rw [wrapi (by omega) (by omega), e1]
    simp only [fe_at, Int.toNat_natCast, at_U _ _ x _ (opened_get ⟨0, none⟩ out k (by omega))]
    have e2 : ∀ a (b c : D), Fn.eval X .setAt [a, b, c] = a.setAtD b.asInt.toNat c := fun _ _ _ => rfl
    rw [e2, int_i, Int.toNat_natCast, setAt_U _ _ _ (by omega), opened_succ _ _ _ (by omega)]
    congr 2
  · simp only [go2, evs_cons, evs_nil, ev_f, iE_evalA h]
    simp only [env41, ev_v, List.cons_append, List.nil_append, List.getD_cons_succ, List.getD_cons_zero, fe_ltI, bool_b]
    exact decide_eq_true (by omega)
  · simp only [go2, evs_cons, evs_nil, ev_f, iE_evalA h]
    simp only [env41, ev_v, List.cons_append, List.nil_append, List.getD_cons_succ, List.getD_cons_zero, fe_ltI, bool_b]
    exact decide_eq_false (by omega)
theorem li_eval (h : out.length ≤ 50000) : (li41 1).eval X (env41 fs u i x out) = encU (nz (opened ⟨0, none⟩ out (out.length - posT x out))) := by
  rw [li41, (run2 h).fold 1]; rfl
end

theorem foldI_unk (p : Tg → Prop) [DecidablePred p] : ∀ (l : List Tg) (i : Nat) (s : List Tg), foldI (fun _ t out => if p t then out else insTag t out) i l s = l.foldl (fun out t => if p t then out else insTag t out) s
  | [], _, _ => rfl
  | a :: l, i, s => by simp only [foldI, List.foldl]; exact foldI_unk p l (i + 1) _

theorem ev41 (fs : Option (List Fl)) (u : Option (List Tg)) (n : Nat) (hw : wfFs fs = true) : obsHold X (Pre n) ob41 [encF fs, encU u] ∧ de41.eval X [encF fs, encU u] = X 41 [encF fs, encU u] := by
  have hcl : ∀ (i : Nat) (x : Tg) (out : List Tg), cl41.eval X (env41 (encF fs) (encU u) i x out) = .bool (decide (x.key < (known (fs.getD []) : Int))) := fun i x out => by
    simp only [env41, cl41, evs_cons, evs_nil, ev_v, ev_f, List.getD_cons_succ, List.getD_cons_zero, fe_get, cells_Tg, fe_ext, X_51, decF_enc, fe_ltI]
  have hlt : ∀ (i : Nat) (x : Tg) (out : List Tg), out.length ≤ 50000 → (DE.f .ltI [iE, .f .len [.v 4]]).eval X (env41 (encF fs) (encU u) i x out) = .bool (decide (posT x out < out.length)) := fun i x out h => by
    simp only [evs_cons, evs_nil, ev_f, iE_eval h]
    simp only [env41, ev_v, List.getD_cons_succ, List.getD_cons_zero, fe_len, len_encU, nz_getD, fe_ltI, Int.ofNat_lt]
  have hc : ∀ (i : Nat) (x : Tg) (out : List Tg), out.length ≤ 50000 → c41.eval X (env41 (encF fs) (encU u) i x out) = .bool (decide (x.key < (known (fs.getD []) : Int) ∨ (posT x out < out.length ∧ (out.getD (posT x out) x).key = x.key))) := fun i x out h => by
    rw [c41, ev_f]
    simp only [evs_cons, evs_nil, hcl, ev_k, fe_ite]
    rw [ev_f]
    simp only [evs_cons, evs_nil, hlt i x out h, ev_k, fe_ite]
    by_cases h1 : x.key < (known (fs.getD []) : Int)
    · simp [h1]
    · by_cases h2 : posT x out < out.length
      · have hk' : out[posT x out]? = some (out.getD (posT x out) x) := by rw [List.getD_eq_getElem?_getD, List.getElem?_eq_getElem (by omega)]; rfl
        have e : same41.eval X (env41 (encF fs) (encU u) i x out) = .bool ((out.getD (posT x out) x).key == x.key) := by
          simp only [same41, evs_cons, evs_nil, ev_f, iE_eval h]
          simp only [env41, ev_v, List.getD_cons_succ, List.getD_cons_zero, fe_at, Int.toNat_natCast, at_U out _ x _ hk', fe_get, cells_Tg, fe_eqI]
        simp only [h1, h2, e, decide_true, decide_false, if_true, Bool.false_eq_true, if_false, false_or, true_and]
        exact congrArg D.bool (beq_dec _ _)
      · simp [h1, h2]
  have hfold : Folds X [encF fs, encU u] 2 src41 [.k .nil] bs41 Tg.d (fun a : List Tg => [encU (nz a)]) (fun _ x a => if x.key < (known (fs.getD []) : Int) then a else insTag x a) ((u.getD []).take Most) [] := by
    refine ⟨rfl, ?_, rfl, fun i x a hx ha => ?_⟩
    · simp only [src41, ev_f, ev_k, evs_cons, evs_nil, ev_v, List.getD_cons_zero, List.getD_cons_succ, fe_len, len_encU, fe_imin, fe_take, takeD_encU, rows_encU]
      cases u with
      | none => rfl
      | some l =>
        simp only [Option.map_some, Option.getD_some]
        have e : l.take (min (l.length : Int) 32767).toNat = l.take 32767 := by
          by_cases h : l.length ≤ 32767
          · rw [List.take_of_length_le (by omega), List.take_of_length_le (by omega)]
          · congr 1; omega
        rw [e]; rfl
    · have hal : a.length ≤ 50000 := by
        rw [ha, foldI_unk (fun x => x.key < (known (fs.getD []) : Int))]
        have := unknown_fold_len (fun t => decide (t.key < (known (fs.getD []) : Int))) (((u.getD []).take Most).take i) []
        simp only [decide_eq_true_eq] at this
        refine Nat.le_trans this ?_
        simp [Most]; omega
      show evals X bs41 (env41 (encF fs) (encU u) i x a) = _
      have hp := posT_le x a
      simp only [bs41, evs_cons, evs_nil]
      rw [ev_f]
      simp only [evs_cons, evs_nil]
      rw [hc i x a hal, fe_ite, ev_f]
      simp only [evs_cons, evs_nil]
      rw [li_eval hal, iE_eval hal]
      have e2 : ∀ a (b c : D), Fn.eval X .setAt [a, b, c] = a.setAtD b.asInt.toNat c := fun _ _ _ => rfl
      have e3 : (DE.v 3).eval X (env41 (encF fs) (encU u) i x a) = x.d := rfl
      have e4 : (DE.v 4).eval X (env41 (encF fs) (encU u) i x a) = encU (nz a) := rfl
      have hl := opened_len ⟨0, none⟩ a (a.length - posT x a) (by omega)
      rw [e2, e3, e4, int_i, Int.toNat_natCast, setAt_U _ _ _ (by omega), insTag_eq x x]
      have hs := opened_set ⟨0, none⟩ a (a.length - posT x a) (by omega) x
      have e5 : a.length - (a.length - posT x a) = posT x a := by omega
      rw [e5] at hs
      rw [hs]
      by_cases h1 : x.key < (known (fs.getD []) : Int)
      · simp [h1]
      · by_cases h2 : posT x a < a.length ∧ (a.getD (posT x a) x).key = x.key
        · rw [if_pos (decide_eq_true (.inr h2)), if_neg h1, if_pos h2]
        · rw [if_neg (by simp only [h1, h2, false_or, decide_false]; exact Bool.false_ne_true), if_neg h1, if_neg h2]
  constructor
  · rw [ob41_eq]
    refine ⟨hfold.all (fun k x hx => ?_), ?_, ⟨fun e => by simp [recur] at e, ?_⟩, trivial⟩
    · generalize ha : foldI (fun _ x a => if x.key < (known (fs.getD []) : Int) then a else insTag x a) 0 (((u.getD []).take Most).take k) [] = a
      have hal : a.length ≤ 40000 := by
        rw [← ha, foldI_unk (fun x => x.key < (known (fs.getD []) : Int))]
        have := unknown_fold_len (fun t => decide (t.key < (known (fs.getD []) : Int))) (((u.getD []).take Most).take k) []
        simp only [decide_eq_true_eq] at this
        refine Nat.le_trans this ?_
        simp [Most]; omega
      have hal' : a.length ≤ 50000 := by omega
      have hp := posT_le x a
      have hl := opened_len ⟨0, none⟩ a (a.length - posT x a) (by omega)
      show obsHold X (Pre n) os41 (env41 (encF fs) (encU u) k x a)
      have hrun1 := run1 (fs := encF fs) (u := encU u) (i := k) (x := x) hal'
      have hrun2 := run2 (fs := encF fs) (u := encU u) (i := k) (x := x) hal'
      have hidx : (Ob.idx iE (li41 1) true).holds X (Pre n) (env41 (encF fs) (encU u) k x a) := by
        simp only [Ob.holds]
        rw [li_eval hal', iE_eval hal', len_encU, nz_getD]
        simp only [int_i, if_true, Int.toNat_natCast]
        omega
      refine ⟨fun _ => ⟨hidx, hidx, hrun2.term, hrun2.all (fun j hj => ⟨fun hg => ?_, trivial⟩), ?_, trivial⟩, ⟨fun _ => ⟨fun hg => ?_, trivial⟩, hrun1.term, hrun1.all (fun j hj => ⟨fun hg => ?_, trivial⟩), trivial⟩⟩
      · have hl2 := opened_len ⟨0, none⟩ a j (by omega)
        rw [go2, ev_f] at hg
        simp only [evs_cons, evs_nil, iE_evalA hal'] at hg
        simp only [env41, ev_v, List.cons_append, List.nil_append, List.getD_cons_succ, List.getD_cons_zero, fe_ltI, bool_b, decide_eq_true_eq] at hg
        have e1 : ((a.length - j : Nat) : Int) - 1 = ((a.length - j - 1 : Nat) : Int) := by omega
        simp only [obsHold, Ob.holds, env41, evs_cons, evs_nil, ev_v, ev_k, ev_f, List.cons_append, List.nil_append, List.getD_cons_succ, List.getD_cons_zero, int_i, fe_sub, if_true, len_encU, nz_getD, Int.toNat_natCast]
        rw [wrapi (by omega) (by omega), e1]
        simp only [Int.toNat_natCast, and_true, and_self]
        omega
      · simp only [Ob.holds]
        rw [ap_eval, len_encU, nz_getD]
        exact room_le (by simp; omega) (by omega)
      · rw [hlt k x a hal', bool_b, decide_eq_true_eq] at hg
        have : (Ob.idx iE (.v 4) true).holds X (Pre n) (env41 (encF fs) (encU u) k x a) := by
          simp only [Ob.holds]
          rw [iE_eval hal']
          simp only [env41, ev_v, List.getD_cons_succ, List.getD_cons_zero, len_encU, nz_getD, int_i, if_true, Int.toNat_natCast]
          omega
        exact ⟨this, this, trivial⟩
      · simp only [env41, evs_cons, evs_nil, ev_v, ev_f, List.cons_append, List.nil_append, List.getD_cons_succ, List.getD_cons_zero, fe_len, len_encU, nz_getD, fe_ltI, bool_b, decide_eq_true_eq] at hg
        simp only [obsHold, Ob.holds, env41, ev_v, List.cons_append, List.nil_append, List.getD_cons_succ, List.getD_cons_zero, int_i, if_true, len_encU, nz_getD, Int.toNat_natCast, and_true, and_self]
        omega
    · simp only [Ob.holds, evs_cons, evs_nil, ev_v, ev_k, ev_f, List.getD_cons_succ, List.getD_cons_zero, fe_len, len_encU, fe_imin, int_i, Bool.false_eq_true, if_false]
      omega
    · simp only [evs_cons, evs_nil, ev_v, List.getD_cons_zero]
      rw [side_51, decF_enc]; exact hw
  · rw [X_41, decF_enc, decU_enc, de41_eq, hfold.fold 0]
    rw [foldI_unk (fun x => x.key < (known (fs.getD []) : Int))]
    rfl
end Go.Mx

namespace Go.Mx
open Go Go.Dx

theorem room1 {l : Nat} (h : l ≤ lim) : l * 1 ≤ LIM ∧ l ≤ maxLen := by
  simp only [lim] at h
  exact ⟨by simp only [LIM]; omega, by simp only [maxLen]; omega⟩
theorem band1 (n : Int) : IntKind.i64.wrap ((BitVec.ofInt IntKind.i64.bits n &&& BitVec.ofInt IntKind.i64.bits 1).toNat : Nat) = n % 2 := by
  have e : (BitVec.ofInt IntKind.i64.bits n &&& BitVec.ofInt IntKind.i64.bits 1).toNat = (n % 2).toNat := by
    rw [BitVec.toNat_and]
    have e1 : (BitVec.ofInt IntKind.i64.bits n).toNat = (n % 18446744073709551616).toNat := by simp [IntKind.bits, BitVec.toNat_ofInt]
    have e2 : (BitVec.ofInt IntKind.i64.bits 1).toNat = 2 ^ 1 - 1 := rfl
    rw [e1, e2, Nat.and_two_pow_sub_one_eq_mod]
    omega
  rw [e, wrapi (by omega) (by omega)]
  omega
theorem fe_band (a b : Int) (k : IntKind) : Fn.eval X (.band k) [.int a, .int b] = .int (k.wrap (BitVec.ofInt k.bits a &&& BitVec.ofInt k.bits b).toNat) := rfl
theorem fe_mkbytes1 (a : Int) : Fn.eval X .mkbytes [.int a] = .bytes [UInt8.ofNat a.toNat] := rfl
theorem fe_zeros (a : Int) : Fn.eval X .zeros [.int a] = .bytes (List.replicate a.toNat 0) := rfl
theorem fe_copy (a b : D) : Fn.eval X .copy [a, b] = a.copyD b := rfl
theorem encN_cons (a : UInt8) (l : List UInt8) : encN (a :: l) = .bytes (a :: l) := rfl
theorem encN_ne {l : List UInt8} (h : 0 < l.length) : encN l = .bytes l := by cases l with | nil => simp at h | cons => rfl
theorem sixteen_len (s : List UInt8) : (sixteen s).length = 16 := by simp [sixteen]; omega
theorem width_le (k : Int) : 0 ≤ width k ∧ width k ≤ 8 := by
  simp only [width]
  split
  · omega
  · split
    · omega
    · split <;> omega
theorem whole_le (s : Option (List UInt8)) : ((whole s).getD []).length ≤ 32767 := by
  cases s <;> simp [whole, Most]; omega
theorem things_le (s : Option (List T)) : ((things s).getD []).length ≤ 32767 := by
  cases s <;> simp [things, Most]; omega
theorem whole_getD (s : Option (List UInt8)) : (whole s).getD [] = (s.getD []).take Most := by
  cases s <;> simp [whole]
theorem things_getD (s : Option (List T)) : (things s).getD [] = (s.getD []).take Most := by
  cases s <;> simp [things]

/-- what a text or octets say, or nothing -/
theorem text_d (b : Bool) (t : T) : (if b then D.nil else encB (whole t.s)) = encB (if b then none else whole t.s) := by cases b <;> rfl
theorem text_s (b : Bool) (t : T) : (if b then none else whole t.s : Option (List UInt8)).getD [] = if b then [] else t.S.take Most := by
  cases b
  · simp only [Bool.false_eq_true, if_false]; exact whole_getD _
  · rfl
theorem text_e (b x : Bool) (t : T) (s : Int) : (encN (counted x b (if b then [] else t.S.take Most).length s.toNat)).appd (encB (if b then none else whole t.s)) = encN (counted x b (if b then [] else t.S.take Most).length s.toNat ++ (if b then [] else t.S.take Most)) := by
  rw [appd_encN]
  · rw [asStr_encB, text_s]
  · cases (if b then none else whole t.s : Option (List UInt8)) with
    | none => exact .inl rfl
    | some s => exact .inr ⟨s, .inl rfl⟩
theorem text_l (b : Bool) (t : T) : (if b then [] else t.S.take Most).length ≤ 32767 := by
  cases b <;> simp [Most]; omega

theorem ev48 (k : Int) (fs : Option (List Fl)) (b : Bool) (v : Int) (x : Bool) (t : T) (n : Nat) (h : Pre (n + 1) 48 [.int k, encF fs, .bool b, .int v, .bool x, t.d]) : obsHold X (Pre n) ob48 [.int k, encF fs, .bool b, .int v, .bool x, t.d] ∧ de48.eval X [.int k, encF fs, .bool b, .int v, .bool x, t.d] = X 48 [.int k, encF fs, .bool b, .int v, .bool x, t.d] := by
  obtain ⟨hm, hs⟩ := h
  have hm := hm rfl
  rw [meas_48, decF_enc] at hm
  rw [side_48, decF_enc, int_i, int_i, bool_b, bool_b, toT_d] at hs
  obtain ⟨hs, hl⟩ := hs
  have htl := text_l b t
  have e16 : ∀ k : Nat, [Int.toNat (k : Int)] = [k] := fun _ => rfl
  constructor
  · refine ⟨fun c0 => ⟨fun _ => ⟨?_, trivial⟩, fun c7 => ⟨fun c8 => ⟨?_, ⟨?_, ?_⟩, ?_, trivial⟩, fun c8 => ⟨fun c9 => ⟨?_, ⟨?_, ?_⟩, ?_, trivial⟩, fun c9 => ⟨fun c10 => ⟨⟨fun _ => ?_, ?_⟩, trivial⟩, fun c10 => ⟨⟨?_, ?_⟩, ⟨?_, ?_⟩, trivial⟩, trivial⟩, trivial⟩, trivial⟩, trivial⟩, trivial⟩
    · simp only [Ob.holds, ev_k, int_i]
      exact ⟨by omega, by simp only [LIM]; omega, by simp only [maxLen]; omega⟩
    · simp only [Ob.holds, ev_f, evs_cons, evs_nil, ev_v, ev_k, List.getD_cons_zero, List.getD_cons_succ, fe_get, cells_T, fe_len, len_encB, fe_imin, fe_take, takeB, fe_ite, text_d, fe_ext, X_53, bool_b, int_i, fe_app, Int.toNat_natCast, text_s, text_e, len_encN] at c0 c7 c8 ⊢
      simp only [fe_eqI, bool_b, beq_dec, decide_eq_true_eq, decide_eq_false_iff_not] at c0 c7 c8
      rw [valueB, if_neg c0, if_neg c7, if_pos c8] at hl
      exact room1 hl
    · exact fun e => by simp [recur] at e
    · simp only [ev_f, evs_cons, evs_nil, ev_v, ev_k, List.getD_cons_zero, List.getD_cons_succ, fe_get, cells_T, fe_len, len_encB, fe_imin, fe_take, takeB, fe_ite, text_d, text_s]
      rw [side_53]; simp only [int_i]; exact ⟨by omega, by omega, .inl trivial⟩
    · simp only [Ob.holds, ev_f, evs_cons, evs_nil, ev_v, ev_k, List.getD_cons_zero, List.getD_cons_succ, fe_get, cells_T, fe_len, len_encB, fe_imin, int_i, Bool.false_eq_true, if_false]
      omega
    · simp only [Ob.holds, ev_f, evs_cons, evs_nil, ev_v, ev_k, List.getD_cons_zero, List.getD_cons_succ, fe_get, cells_T, fe_len, len_encB, fe_imin, fe_take, takeB, fe_ite, text_d, fe_ext, X_53, bool_b, int_i, fe_app, Int.toNat_natCast, text_s, text_e, len_encN] at c0 c7 c8 c9 ⊢
      simp only [fe_eqI, bool_b, beq_dec, decide_eq_true_eq, decide_eq_false_iff_not] at c0 c7 c8 c9
      rw [valueB, if_neg c0, if_neg c7, if_neg c8, if_pos c9] at hl
      exact room1 hl
    · exact fun e => by simp [recur] at e
    · simp only [ev_f, evs_cons, evs_nil, ev_v, ev_k, List.getD_cons_zero, List.getD_cons_succ, fe_get, cells_T, fe_len, len_encB, fe_imin, fe_take, takeB, fe_ite, text_d, text_s]
      rw [side_53]; simp only [int_i]; exact ⟨by omega, by omega, .inr trivial⟩
    · simp only [Ob.holds, ev_f, evs_cons, evs_nil, ev_v, ev_k, List.getD_cons_zero, List.getD_cons_succ, fe_get, cells_T, fe_len, len_encB, fe_imin, int_i, Bool.false_eq_true, if_false]
      omega
    · simp only [evs_cons, evs_nil, ev_v, List.getD_cons_zero, List.getD_cons_succ]
      rw [meas_47, decF_enc]; omega
    · simp only [ev_f, evs_cons, evs_nil, ev_v, ev_k, List.getD_cons_zero, List.getD_cons_succ, fe_eqI, bool_b, beq_dec, decide_eq_true_eq, decide_eq_false_iff_not] at c0 c7 c8 c9 c10 ⊢
      rw [side_47, decF_enc, int_i, bool_b, toT_d]
      rw [valueB, if_neg c0, if_neg c7, if_neg c8, if_neg c9, if_pos c10] at hl
      exact ⟨hs, hl⟩
    · exact fun e => by simp [recur] at e
    · simp only [ev_f, evs_cons, evs_nil, ev_v, List.getD_cons_zero, List.getD_cons_succ, fe_get, cells_T, fe_ext, X_55, int_i]
      rw [side_45]; simp only [int_i]; exact width_le k
    · exact fun e => by simp [recur] at e
    · trivial
  · rw [X_48, decF_enc, toT_d]
    simp only [int_i, bool_b]
    simp only [de48, ev_f, evs_cons, evs_nil, ev_v, ev_k, List.getD_cons_zero, List.getD_cons_succ, fe_get, cells_T, fe_eqI, fe_ite, fe_band, band1, fe_wrap, fe_mkbytes1, fe_zeros, fe_copy, fe_len, len_encB, fe_imin, fe_take, takeB, text_d, fe_ext, X_53, X_47, X_45, X_55, bool_b, int_i, fe_app, Int.toNat_natCast, text_s, text_e, decF_enc, toT_d, beq_dec, decide_eq_true_eq]
    by_cases c0 : k = 0
    · rw [if_pos c0, valueB, if_pos c0, wrapu8 (by omega) (by omega)]; rfl
    · rw [if_neg c0, valueB, if_neg c0]
      by_cases c7 : k = 7
      · rw [if_pos c7, if_pos c7, encN_ne (by rw [sixteen_len]; omega)]
        show D.bytes (((encB t.s).asStr).take _ ++ List.drop (encB t.s).asStr.length _) = _
        rw [asStr_encB]
        show D.bytes (t.S.take (List.replicate 16 (0 : UInt8)).length ++ List.drop t.S.length (List.replicate 16 0)) = _
        rw [List.length_replicate, List.drop_replicate]; rfl
      · rw [if_neg c7, if_neg c7]
        by_cases c8 : k = 8
        · rw [if_pos c8, if_pos c8]; rfl
        · rw [if_neg c8, if_neg c8]
          by_cases c9 : k = 9
          · rw [if_pos c9, if_pos c9]; rfl
          · rw [if_neg c9, if_neg c9]
            by_cases c10 : k = 10
            · rw [if_pos c10, if_pos c10]
            · rw [if_neg c10, if_neg c10]
end Go.Mx
