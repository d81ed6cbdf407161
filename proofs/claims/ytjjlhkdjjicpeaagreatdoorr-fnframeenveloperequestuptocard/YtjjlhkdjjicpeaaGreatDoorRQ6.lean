/- Part of a verified symbolic run of the program's code (no condition of its own). -/
import Derived.Test.YtjjlhkdjjicpeaaGreatDoorRQ5
import Derived.Shelf.Bin.BEUint64
import Derived.Shelf.Bin.BEUint32
set_option linter.unusedVariables false
set_option linter.unusedSimpArgs false
namespace Go.Mx
open Go Go.Dx
def deK2:Nat->DE
 | 61=>deR61
 | 62=>deR62
 | 63=>deR63
 | 64=>deR64
 | 65=>deR65
 | 66=>deR66
 | 67=>deR67
 | 69=>deR69
 | 70=>deR70
 | 71=>deR71
 | 72=>deR72
 | 73=>deR73
 | 74=>deR74
 | 75=>deR75
 | 76=>deR76
 | 77=>deR77
 | 78=>deR78
 | 79=>deR79
 | 80=>deR80
 | 81=>deR81
 | 82=>deR82
 | _=>.k .nil
def obK2:Nat->List Ob
 | 61=>obR61
 | 62=>obR62
 | 63=>obR63
 | 64=>obR64
 | 65=>obR65
 | 66=>obR66
 | 67=>obR67
 | 69=>obR69
 | 70=>obR70
 | 71=>obR71
 | 72=>obR72
 | 73=>obR73
 | 74=>obR74
 | 75=>obR75
 | 76=>obR76
 | 77=>obR77
 | 78=>obR78
 | 79=>obR79
 | 80=>obR80
 | 81=>obR81
 | 82=>obR82
 | _=>[]
def sig2:Nat->List K
 | 71=>[.byts,.int .i64]
 | _=>[.byts]
def rank2:Nat->Nat
 | 65=>1
 | 66=>2
 | 67=>1
 | 69=>1
 | 72=>1
 | 73=>1
 | 74=>1
 | 75=>1
 | 76=>2
 | 77=>1
 | 78=>2
 | 79=>1
 | 80=>2
 | 81=>1
 | 82=>1
 | _=>0
def known2?:Nat->Bool
 | 61=>true
 | 62=>true
 | 63=>true
 | 64=>true
 | 65=>true
 | 66=>true
 | 67=>true
 | 69=>true
 | 70=>true
 | 71=>true
 | 72=>true
 | 73=>true
 | 74=>true
 | 75=>true
 | 76=>true
 | 77=>true
 | 78=>true
 | 79=>true
 | 80=>true
 | 81=>true
 | 82=>true
 | _=>false
theorem evB61 (ds:List D) (hk:KsOk (sig2 61) ds) (h:side 61 ds):obsHold X side (obK2 61) ds/\(deK2 61).eval X ds=X 61 ds/\(X 61 ds).cells.getD 2 .nil = .bool false:=by
 have e:=evR61 ds hk h
 refine ⟨e.1,e.2,?_⟩
 obtain ⟨s,rfl⟩:=ks1 hk
 rfl
theorem evB62 (ds:List D) (hk:KsOk (sig2 62) ds) (h:side 62 ds):obsHold X side (obK2 62) ds/\(deK2 62).eval X ds=X 62 ds/\(X 62 ds).cells.getD 2 .nil = .bool false:=by
 have e:=evR62 ds hk h
 refine ⟨e.1,e.2,?_⟩
 obtain ⟨s,rfl⟩:=ks1 hk
 rfl
theorem evB63 (ds:List D) (hk:KsOk (sig2 63) ds) (h:side 63 ds):obsHold X side (obK2 63) ds/\(deK2 63).eval X ds=X 63 ds/\(X 63 ds).cells.getD 2 .nil = .bool false:=by
 have e:=evR63 ds hk h
 refine ⟨e.1,e.2,?_⟩
 obtain ⟨s,rfl⟩:=ks1 hk
 rfl
theorem evB64 (ds:List D) (hk:KsOk (sig2 64) ds) (h:side 64 ds):obsHold X side (obK2 64) ds/\(deK2 64).eval X ds=X 64 ds/\(X 64 ds).cells.getD 2 .nil = .bool false:=by
 have e:=evR64 ds hk h
 refine ⟨e.1,e.2,?_⟩
 obtain ⟨s,rfl⟩:=ks1 hk
 rfl
theorem evB65 (ds:List D) (hk:KsOk (sig2 65) ds) (h:side 65 ds):obsHold X side (obK2 65) ds/\(deK2 65).eval X ds=X 65 ds/\(X 65 ds).cells.getD 2 .nil = .bool false:=by
 have e:=evR65 ds hk h
 refine ⟨e.1,e.2,?_⟩
 obtain ⟨s,rfl⟩:=ks1 hk
 rfl
theorem evB66 (ds:List D) (hk:KsOk (sig2 66) ds) (h:side 66 ds):obsHold X side (obK2 66) ds/\(deK2 66).eval X ds=X 66 ds/\(X 66 ds).cells.getD 2 .nil = .bool false:=by
 have e:=evR66 ds hk h
 refine ⟨e.1,e.2,?_⟩
 obtain ⟨s,rfl⟩:=ks1 hk
 rfl
theorem evB67 (ds:List D) (hk:KsOk (sig2 67) ds) (h:side 67 ds):obsHold X side (obK2 67) ds/\(deK2 67).eval X ds=X 67 ds/\(X 67 ds).cells.getD 2 .nil = .bool false:=by
 have e:=evR67 ds hk h
 refine ⟨e.1,e.2,?_⟩
 obtain ⟨s,rfl⟩:=ks1 hk
 rfl
theorem evB69 (ds:List D) (hk:KsOk (sig2 69) ds) (h:side 69 ds):obsHold X side (obK2 69) ds/\(deK2 69).eval X ds=X 69 ds/\(X 69 ds).cells.getD 2 .nil = .bool false:=by
 have e:=evR69 ds hk h
 refine ⟨e.1,e.2,?_⟩
 obtain ⟨s,rfl⟩:=ks1 hk
 rfl
theorem evB70 (ds:List D) (hk:KsOk (sig2 70) ds) (h:side 70 ds):obsHold X side (obK2 70) ds/\(deK2 70).eval X ds=X 70 ds/\(X 70 ds).cells.getD 2 .nil = .bool false:=by
 have e:=evR70 ds hk h
 refine ⟨e.1,e.2,?_⟩
 obtain ⟨s,rfl⟩:=ks1 hk
 rfl
theorem evB71 (ds:List D) (hk:KsOk (sig2 71) ds) (h:side 71 ds):obsHold X side (obK2 71) ds/\(deK2 71).eval X ds=X 71 ds/\(X 71 ds).cells.getD 2 .nil = .bool false:=by
 have e:=evR71 ds hk h
 refine ⟨e.1,e.2,?_⟩
 obtain @⟨⟩ | @⟨_,d1,_,_,_,hk⟩:=hk
 obtain @⟨⟩ | @⟨_,d2,_,_,_,hk⟩:=hk
 cases hk
 rfl
theorem evB72 (ds:List D) (hk:KsOk (sig2 72) ds) (h:side 72 ds):obsHold X side (obK2 72) ds/\(deK2 72).eval X ds=X 72 ds/\(X 72 ds).cells.getD 2 .nil = .bool false:=by
 have e:=evR72 ds hk h
 refine ⟨e.1,e.2,?_⟩
 obtain ⟨s,rfl⟩:=ks1 hk
 rfl
theorem evB73 (ds:List D) (hk:KsOk (sig2 73) ds) (h:side 73 ds):obsHold X side (obK2 73) ds/\(deK2 73).eval X ds=X 73 ds/\(X 73 ds).cells.getD 2 .nil = .bool false:=by
 have e:=evR73 ds hk h
 refine ⟨e.1,e.2,?_⟩
 obtain ⟨s,rfl⟩:=ks1 hk
 rfl
theorem evB74 (ds:List D) (hk:KsOk (sig2 74) ds) (h:side 74 ds):obsHold X side (obK2 74) ds/\(deK2 74).eval X ds=X 74 ds/\(X 74 ds).cells.getD 2 .nil = .bool false:=by
 have e:=evR74 ds hk h
 refine ⟨e.1,e.2,?_⟩
 obtain ⟨s,rfl⟩:=ks1 hk
 rfl
theorem evB75 (ds:List D) (hk:KsOk (sig2 75) ds) (h:side 75 ds):obsHold X side (obK2 75) ds/\(deK2 75).eval X ds=X 75 ds/\(X 75 ds).cells.getD 2 .nil = .bool false:=by
 have e:=evR75 ds hk h
 refine ⟨e.1,e.2,?_⟩
 obtain ⟨s,rfl⟩:=ks1 hk
 rfl
theorem evB76 (ds:List D) (hk:KsOk (sig2 76) ds) (h:side 76 ds):obsHold X side (obK2 76) ds/\(deK2 76).eval X ds=X 76 ds/\(X 76 ds).cells.getD 2 .nil = .bool false:=by
 have e:=evR76 ds hk h
 refine ⟨e.1,e.2,?_⟩
 obtain ⟨s,rfl⟩:=ks1 hk
 rfl
theorem evB77 (ds:List D) (hk:KsOk (sig2 77) ds) (h:side 77 ds):obsHold X side (obK2 77) ds/\(deK2 77).eval X ds=X 77 ds/\(X 77 ds).cells.getD 2 .nil = .bool false:=by
 have e:=evR77 ds hk h
 refine ⟨e.1,e.2,?_⟩
 obtain ⟨s,rfl⟩:=ks1 hk
 rfl
theorem evB78 (ds:List D) (hk:KsOk (sig2 78) ds) (h:side 78 ds):obsHold X side (obK2 78) ds/\(deK2 78).eval X ds=X 78 ds/\(X 78 ds).cells.getD 2 .nil = .bool false:=by
 have e:=evR78 ds hk h
 refine ⟨e.1,e.2,?_⟩
 obtain ⟨s,rfl⟩:=ks1 hk
 rfl
theorem evB79 (ds:List D) (hk:KsOk (sig2 79) ds) (h:side 79 ds):obsHold X side (obK2 79) ds/\(deK2 79).eval X ds=X 79 ds/\(X 79 ds).cells.getD 2 .nil = .bool false:=by
 have e:=evR79 ds hk h
 refine ⟨e.1,e.2,?_⟩
 obtain ⟨s,rfl⟩:=ks1 hk
 rfl
theorem evB80 (ds:List D) (hk:KsOk (sig2 80) ds) (h:side 80 ds):obsHold X side (obK2 80) ds/\(deK2 80).eval X ds=X 80 ds/\(X 80 ds).cells.getD 2 .nil = .bool false:=by
 have e:=evR80 ds hk h
 refine ⟨e.1,e.2,?_⟩
 obtain ⟨s,rfl⟩:=ks1 hk
 rfl
theorem evB81 (ds:List D) (hk:KsOk (sig2 81) ds) (h:side 81 ds):obsHold X side (obK2 81) ds/\(deK2 81).eval X ds=X 81 ds/\(X 81 ds).cells.getD 2 .nil = .bool false:=by
 have e:=evR81 ds hk h
 refine ⟨e.1,e.2,?_⟩
 obtain ⟨s,rfl⟩:=ks1 hk
 rfl
theorem evB82 (ds:List D) (hk:KsOk (sig2 82) ds) (h:side 82 ds):obsHold X side (obK2 82) ds/\(deK2 82).eval X ds=X 82 ds/\(X 82 ds).cells.getD 2 .nil = .bool false:=by
 have e:=evR82 ds hk h
 refine ⟨e.1,e.2,?_⟩
 obtain ⟨s,rfl⟩:=ks1 hk
 rfl
theorem evB (k:Nat) (hk:known2? k=true) (ds:List D) (hks:KsOk (sig2 k) ds) (h:side k ds):obsHold X side (obK2 k) ds/\(deK2 k).eval X ds=X k ds/\(X k ds).cells.getD 2 .nil = .bool false:=by
 unfold known2? at hk
 split at hk
 ·exact evB61 ds hks h
 ·exact evB62 ds hks h
 ·exact evB63 ds hks h
 ·exact evB64 ds hks h
 ·exact evB65 ds hks h
 ·exact evB66 ds hks h
 ·exact evB67 ds hks h
 ·exact evB69 ds hks h
 ·exact evB70 ds hks h
 ·exact evB71 ds hks h
 ·exact evB72 ds hks h
 ·exact evB73 ds hks h
 ·exact evB74 ds hks h
 ·exact evB75 ds hks h
 ·exact evB76 ds hks h
 ·exact evB77 ds hks h
 ·exact evB78 ds hks h
 ·exact evB79 ds hks h
 ·exact evB80 ds hks h
 ·exact evB81 ds hks h
 ·exact evB82 ds hks h
 ·cases hk
def ctrs2 (base tab:List (Nat × Ctr)) (r:Nat) (f:FuncId):Option Ctr :=
 match lk f tab with
 | some c=>if rank2 c.fn < r then some c else none
 | none=>lk f base
def runOk2 (P:Program) (base tab:List (Nat × Ctr)) (f:FuncId) (c:Ctr):Bool :=
 match P.funcs[f]? with
 | some fn =>
  match runF ⟨P,ctrs2 base tab (rank2 c.fn),fun _ _ _=>none⟩ 100000 8 c fn with
  | some (d,os)=>d.beq (deK2 c.fn)&&obbeqs os (obK2 c.fn)
  | none=>false
 | none=>false
def ctrOk2? (P:Program) (base tab:List (Nat × Ctr)) (f:FuncId) (c:Ctr):Bool :=
 known2? c.fn&&areA P (sig2 c.fn) c.args&&c.pre&&runOk2 P base tab f c
theorem one_ok2 {P:Program} {base tab:List (Nat × Ctr)} (hnm:NamesOk P) (hord:P.follows .mixedOrders=true) {f:FuncId} {c:Ctr} (h:ctrOk2? P base tab f c=true)
  (hc:∀ g d,ctrs2 base tab (rank2 c.fn) g=some d->CtrOk P X side g d):CtrOk P X side f c:=by
 simp only [ctrOk2?,Bool.and_eq_true] at h
 obtain ⟨⟨⟨hk,hsig⟩,hpre⟩,hrun⟩:=h
 unfold runOk2 at hrun
 split at hrun
 rotate_left
 ·cases hrun
 rename_i fn hf
 split at hrun
 rotate_left
 ·cases hrun
 rename_i d os hr
 simp only [Bool.and_eq_true] at hrun
 have e1:=DE.beq_eq hrun.1
 have e2:=zPB hrun.2
 subst e1;subst e2
 exact zIC (C:=⟨P,ctrs2 base tab (rank2 c.fn),fun _ _ _=>none⟩) hnm hord hc hf hr (fun ok w vs ds hA hp=>by
  obtain ⟨q1,q2,q3⟩:=evB c.fn hk ds (yTD hsig hA) (hp hpre)
  exact ⟨q1,q2,fun _ _=>q3⟩)
def hand2 (k:Nat):Bool:=k==86 || k==87
theorem all_ok2 {P:Program} {base tab:List (Nat × Ctr)} (hnm:NamesOk P) (hord:P.follows .mixedOrders=true) (hb:∀ f c,lk f base=some c->CtrOk P X side f c)
  (hh:∀ f c,lk f tab=some c->hand2 c.fn=true->CtrOk P X side f c) (hchk:∀ f c,lk f tab=some c->hand2 c.fn=false->ctrOk2? P base tab f c=true):∀ f c,lk f tab=some c->CtrOk P X side f c:=by
 have key:∀ r f c,lk f tab=some c->rank2 c.fn=r->CtrOk P X side f c:=by
  intro r
  induction r using Nat.strongRecOn with
  | ind r ih =>
   intro f c hl hr
   cases h86:hand2 c.fn with
   | true=>exact hh f c hl h86
   | false =>
    refine one_ok2 hnm hord (hchk f c hl h86) (fun g d hg=>?_)
    unfold ctrs2 at hg
    split at hg
    ·rename_i c' hc'
     split at hg
     ·rename_i hlt
      cases hg
      exact ih _ (by omega) g _ hc' rfl
     ·cases hg
    ·exact hb g d hg
 exact fun f c h=>key _ f c h rfl
end Go.Mx
namespace Go.Mx
open Go Go.Dx
def deK3:Nat->DE
 | 16=>de16
 | 18=>de18
 | 309=>de309
 | _=>.k .nil
def obK3:Nat->List Ob
 | 16=>ob16
 | 18=>ob18
 | 309=>ob309
 | _=>[]
def sig3:Nat->List K
 | 16=>[.byts,.byts]
 | 18=>[.byts,.byts]
 | 309=>[.int .i64,.int .i64,.int .i32,.bool,.byts,.bool,.byts]
 | _=>[]
def rank3:Nat->Nat
 | 18=>1
 | _=>0
def known3?:Nat->Bool
 | 16=>true
 | 18=>true
 | 309=>true
 | _=>false
theorem evC (k:Nat) (hk:known3? k=true) (hr:recur3 k=false):∀ (ds:List D),KsOk (sig3 k) ds->side k ds->obsHold X side (obK3 k) ds/\(deK3 k).eval X ds=X k ds:=by
 unfold known3? at hk
 split at hk
 ·intro ds hk h
  obtain @⟨⟩ | @⟨_,d1,_,_,k1,hk⟩:=hk
  obtain @⟨⟩ | @⟨_,d2,_,_,k2,hk⟩:=hk
  cases hk
  obtain ⟨x1,rfl⟩:=k1
  obtain ⟨x2,rfl⟩:=k2
  exact ev16 x1 x2 h
 ·intro ds hk h
  obtain @⟨⟩ | @⟨_,d1,_,_,k1,hk⟩:=hk
  obtain @⟨⟩ | @⟨_,d2,_,_,k2,hk⟩:=hk
  cases hk
  obtain ⟨x1,rfl⟩:=k1
  obtain ⟨x2,rfl⟩:=k2
  exact ev18 x1 x2 h
 ·intro ds hk h
  obtain @⟨⟩ | @⟨_,d1,_,_,k1,hk⟩:=hk
  obtain @⟨⟩ | @⟨_,d2,_,_,k2,hk⟩:=hk
  obtain @⟨⟩ | @⟨_,d3,_,_,k3,hk⟩:=hk
  obtain @⟨⟩ | @⟨_,d4,_,_,k4,hk⟩:=hk
  obtain @⟨⟩ | @⟨_,d5,_,_,k5,hk⟩:=hk
  obtain @⟨⟩ | @⟨_,d6,_,_,k6,hk⟩:=hk
  obtain @⟨⟩ | @⟨_,d7,_,_,k7,hk⟩:=hk
  cases hk
  obtain ⟨x1,rfl,_⟩:=k1
  obtain ⟨x2,rfl,_⟩:=k2
  obtain ⟨x3,rfl,_⟩:=k3
  obtain ⟨x4,rfl⟩:=k4
  obtain ⟨x5,rfl⟩:=k5
  obtain ⟨x6,rfl⟩:=k6
  obtain ⟨x7,rfl⟩:=k7
  exact ev309 x1 x2 x3 x4 x5 x6 x7 h
 ·cases hk
theorem evCR (k:Nat) (hk:known3? k=true) (hr:recur3 k=true) (n:Nat):∀ (ds:List D),KsOk (sig3 k) ds->Pre3 (n + 1) k ds->obsHold X (Pre3 n) (obK3 k) ds/\(deK3 k).eval X ds=X k ds:=by
 unfold known3? at hk
 split at hk
 ·simp [recur3] at hr
 ·simp [recur3] at hr
 ·simp [recur3] at hr
 ·cases hk
def ctrs3 (base tab:List (Nat × Ctr)) (r:Nat) (f:FuncId):Option Ctr :=
 match lk f tab with
 | some c=>if rank3 c.fn < r || (r==5&&recur3 c.fn) then some c else none
 | none=>lk f base
def hn3 (k:Nat):List (Nat × Nat × Nat × Hint):=if k==301 then [(0,999999,0,([],0)),(45,0,1,([],0))] else [(120,0,5,([(.slot 2,.bool)],1)),(120,2,5,([],1))]
def runOk3 (P:Program) (base tab:List (Nat × Ctr)) (f:FuncId) (c:Ctr):Bool :=
 match P.funcs[f]? with
 | some fn =>
  match runF ⟨P,ctrs3 base tab (rank3 c.fn),lookH (hn3 c.fn)⟩ 100000 8 c fn with
  | some (d,os)=>noRd c.res&&(d.beq (deK3 c.fn)&&obbeqs os (obK3 c.fn))
  | none=>false
 | none=>false
def ctrOk3? (P:Program) (base tab:List (Nat × Ctr)) (f:FuncId) (c:Ctr):Bool :=
 known3? c.fn&&areA P (sig3 c.fn) c.args&&c.pre&&runOk3 P base tab f c
theorem yUI {k:Nat} (hk:known3? k=true):rank3 k=5 ↔ recur3 k=true:=by
 unfold known3? at hk
 split at hk
 all_goals first|cases hk;done|decide
theorem zND {base tab:List (Nat × Ctr)} {r:Nat} {f:FuncId} {c:Ctr} (h:ctrs3 base tab r f=some c):(lk f tab=some c/\(rank3 c.fn < r ∨ (r=5/\recur3 c.fn=true))) ∨ (lk f tab=none/\lk f base=some c):=by
 unfold ctrs3 at h
 split at h
 ·rename_i c' hc
  split at h
  ·rename_i hb
   cases h
   simp only [Bool.or_eq_true,decide_eq_true_eq,Bool.and_eq_true,beq_iff_eq] at hb
   exact .inl ⟨hc,hb⟩
  ·cases h
 ·rename_i hn;exact .inr ⟨hn,h⟩
theorem zSG {P:Program} {A B:Nat->List D->Prop} {base tab:List (Nat × Ctr)} (hnm:NamesOk P) (hord:P.follows .mixedOrders=true) {f:FuncId} {c:Ctr} (hrun:runOk3 P base tab f c=true) (hsig:areA P (sig3 c.fn) c.args=true) (hpre:c.pre=true)
  (hc:∀ g d,ctrs3 base tab (rank3 c.fn) g=some d->CtrOk P X A g d) (hX:∀ ds,KsOk (sig3 c.fn) ds->B c.fn ds->obsHold X A (obK3 c.fn) ds/\(deK3 c.fn).eval X ds=X c.fn ds):CtrOk P X B f c:=by
 unfold runOk3 at hrun
 split at hrun
 rotate_left
 ·cases hrun
 rename_i fn hf
 split at hrun
 rotate_left
 ·cases hrun
 rename_i d os hr
 simp only [Bool.and_eq_true] at hrun
 have e1:=DE.beq_eq hrun.2.1
 have e2:=zPB hrun.2.2
 subst e1;subst e2
 exact zIC (C:=⟨P,ctrs3 base tab (rank3 c.fn),lookH (hn3 c.fn)⟩) hnm hord hc hf hr (fun ok w vs ds hA hp=>by
  obtain ⟨q1,q2⟩:=hX ds (yTD hsig hA) (hp hpre)
  exact ⟨q1,q2,qFC hrun.1 _⟩)
theorem all_ok3 {P:Program} {base tab:List (Nat × Ctr)} (hnm:NamesOk P) (hord:P.follows .mixedOrders=true) (hb:∀ f c,lk f base=some c->CtrOk P X side f c)
  (hchk:∀ f c,lk f tab=some c->ctrOk3? P base tab f c=true):∀ f c,lk f tab=some c->CtrOk P X side f c:=by
 have key:∀ r f c,lk f tab=some c->rank3 c.fn=r->CtrOk P X side f c:=by
  intro r
  induction r using Nat.strongRecOn with
  | ind r ih =>
   intro f c hl hr
   have h:=hchk f c hl
   unfold ctrOk3? at h
   simp only [Bool.and_eq_true] at h
   obtain ⟨⟨⟨hk,hsig⟩,hpre⟩,hrun⟩:=h
   cases hrec:recur3 c.fn with
   | false =>
    refine zSG hnm hord hrun hsig hpre (A:=side) (fun g d hg=>?_) (evC c.fn hk hrec)
    rcases zND hg with ⟨h1,h2⟩|⟨_,h1⟩
    ·rcases h2 with h2|⟨h2,_⟩
     ·exact ih _ (by omega) g d h1 rfl
     ·have:=(yUI hk).1 h2
      rw [hrec] at this;cases this
    ·exact hb g d h1
   | true =>
    have h5:r=5:=by rw [<- hr];exact (yUI hk).2 hrec
    have main:∀ n f c,lk f tab=some c->known3? c.fn=true->recur3 c.fn=true->areA P (sig3 c.fn) c.args=true->c.pre=true->runOk3 P base tab f c=true->CtrOk P X (Pre3 n) f c:=by
     intro n
     induction n with
     | zero =>
      intro f c hl hk hrec hsig hpre hrun
      refine zSG hnm hord hrun hsig hpre (A:=fun _ _=>False) (fun g d hg=>?_) (fun ds _ hB=>?_)
      ·rcases zND hg with ⟨h1,_⟩|⟨_,h1⟩
       ·have h:=hchk g d h1
        unfold ctrOk3? at h
        simp only [Bool.and_eq_true] at h
        obtain ⟨⟨⟨_,_⟩,hp⟩,hr⟩:=h
        unfold runOk3 at hr
        split at hr
        ·rename_i fn hf
         split at hr
         ·rename_i d' os hr'
          unfold runF at hr'
          split at hr'
          ·rename_i body q hb' _
           exact ⟨⟨fn,body,hf,hb'⟩,fun ok w vs ds _ _ _ h4=>(h4 hp).elim⟩
          ·cases hr'
         ·cases hr
        ·cases hr
       ·exact yXC (fun _ h=>h.elim) (hb g d h1)
      ·exact absurd (hB.1 hrec) (by omega)
     | succ n ihn =>
      intro f c hl hk hrec hsig hpre hrun
      refine zSG hnm hord hrun hsig hpre (A:=Pre3 n) (fun g d hg=>?_) (evCR c.fn hk hrec n)
      rcases zND hg with ⟨h1,h2⟩|⟨_,h1⟩
      ·have hr5:=(yUI hk).2 hrec
       by_cases hd:rank3 d.fn < 5
       ·exact yXC (fun _ h=>h.2) (ih (rank3 d.fn) (by omega) g d h1 rfl)
       ·have hdr:recur3 d.fn=true:=by
         rcases h2 with h2|h2
         ·omega
         ·exact h2.2
        have h:=hchk g d h1
        unfold ctrOk3? at h
        simp only [Bool.and_eq_true] at h
        obtain ⟨⟨⟨q1,q2⟩,q3⟩,q4⟩:=h
        exact ihn g d h1 q1 hdr q2 q3 q4
      ·exact yXC (fun _ h=>h.2) (hb g d h1)
    have hfin:=fun n=>main n f c hl hk hrec hsig hpre hrun
    refine ⟨(hfin 0).1,fun ok w vs ds h1 h2 h3 h4=>?_⟩
    exact (hfin (meas3 c.fn ds + 1)).2 ok w vs ds h1 h2 h3 (fun hp=>⟨fun _=>by omega,h4 hp⟩)
 exact fun f c h=>key _ f c h rfl
end Go.Mx
namespace Go.Mx
open Go Go.Dx
def z4:List UInt8:=[0,0,0,0]
section
variable {has:Bool} {id:List UInt8} {num v:Int} {src:Option (List UInt8)}
abbrev dFr (has:Bool) (id:List UInt8) (num v:Int) (src:Option (List UInt8)):List D:=[.row [.bool has,.str id],.int num,.int v,encB src]
theorem qVI (δ:List D):fr0.eval X δ = .bytes z4:=rfl
theorem ev_fr1 (key:Int) (δ:List D):(fr1 key).eval X δ = .bytes (z4++Fixed key 2):=by
 rw [fr1,ev_f,zAA,zAA,zBA,qVI,ev_k,zDA,X_4];rfl
theorem ev_fr2 (key v:Int) (δ:List D):(fr2 key v).eval X δ = .bytes (z4++Fixed key 2++Fixed v 2):=by
 rw [fr2,ev_f,zAA,zAA,zBA,ev_fr1,ev_k,zDA,X_4];rfl
theorem xXG (key w:Int):(fr3 key w).eval X (dFr has id num v src) = .bytes (z4++Fixed key 2++Fixed w 2++Fixed num 4):=by
 rw [fr3,ev_f,zAA,zAA,zBA,ev_fr2,zDA,X_6];rfl
theorem ev_fr4 (key w:Int) (b:Bool):(fr4 key w b).eval X (dFr has id num v src) = .bytes (z4++Fixed key 2++Fixed w 2++Fixed num 4++(if b then Fixed (id.length:Nat) 2++id else Fixed (-1) 2)):=by
 cases b with
 | true =>
  rw [fr4,ev_f,zAA,zAA,zBA,xXG,zDA]
  show X 11 [_,.str id]=_
  rw [X_11];rfl
 | false =>
  rw [fr4,ev_f,zAA,zAA,zBA,xXG,ev_k,zDA,X_13];rfl
theorem xCI (key w:Int) (x b:Bool):(fr5 key w x b).eval X (dFr has id num v src) = .bytes (z4++hdrB key w num b id x):=by
 unfold fr5 hdrB
 cases x with
 | true =>
  rw [if_pos rfl,ev_f,zAA,zAA,zBA,ev_fr4,yGA]
  have e:(DE.f .mkbytes [z0E]).eval X (dFr has id num v src) = .bytes [0]:=rfl
  rw [e]
  show D.bytes _=_
  simp only [List.append_assoc,if_true]
 | false =>
  rw [if_neg (by decide),ev_fr4]
  simp
theorem xJG {b:DE} {δ:List D} {B:List UInt8} (h:b.eval X δ = .bytes B):(frL b).eval X δ = .int (IntKind.u32.wrap (IntKind.i32.wrap ((B.length - 4:Nat):Int))):=by
 have e:(DE.f .len [.f .drop [b,.k (.int 4)]]).eval X δ = .int ((B.length - 4:Nat):Int):=by
  rw [ev_f,zAA,zBA,ev_f,zAA,zAA,zBA,h,ev_k,qOB,zSA]
  show D.int ((B.drop 4).length:Nat)=_
  rw [List.length_drop]
 rw [frL,ev_f,zAA,zBA,ev_f,zAA,zBA,e,zFA,zFA]
theorem frF_eval {b:DE} {δ:List D} {B:List UInt8} (h:b.eval X δ = .bytes B) (h4:4<=B.length):(frF b).eval X δ = .bytes (Fixed ((B.length - 4:Nat):Int) 4++B.drop 4):=by
 have hn:∀ n:Int,(frN b n).eval X δ = .int (IntKind.u8.wrap (shrI (IntKind.u32.wrap (IntKind.i32.wrap ((B.length - 4:Nat):Int))) n .u32)):=fun n=>by
  rw [frN,ev_f,zAA,zBA,ev_f,zAA,zAA,zBA,xJG h,ev_k,xCC,zFA]
 have h0:(DE.f (.wrap .u8) [frL b]).eval X δ = .int (IntKind.u8.wrap (IntKind.u32.wrap (IntKind.i32.wrap ((B.length - 4:Nat):Int)))):=by
  rw [ev_f,zAA,zBA,xJG h,zFA]
 have hm:(DE.f .mkbytes [frN b 24,frN b 16,frN b 8,.f (.wrap .u8) [frL b]]).eval X δ = .bytes (Fixed ((B.length - 4:Nat):Int) 4):=by
  rw [ev_f]
  simp only [zAA,zBA,hn,h0,xBA,List.map_cons,List.map_nil,zIA]
  rw [<- yCC,<- xUF,yGI,xXC]
  rw [xIB _ 1 8 .u32 (by decide),xIB _ 2 16 .u32 (by decide),xIB _ 3 24 .u32 (by decide)]
 rw [frF,ev_f,zAA,zAA,zBA,h,hm,zJI]
 show D.bytes ((Fixed _ 4).take B.length++B.drop (Fixed _ 4).length)=_
 rw [zJA,List.take_of_length_le (by rw [zJA];exact h4)]
end
theorem yIH (H s:List UInt8):appD (.bytes H) s = .bytes (H++s):=by
 cases s with
 | nil=>show D.bytes H=_;rw [List.append_nil]
 | cons a l=>rfl
theorem xDI (key v num:Int) (has:Bool) (id:List UInt8) (x:Bool):(hdrB key v num has id x).length<=11 + id.length:=by
 unfold hdrB
 simp only [List.length_append,zJA]
 split <;> split <;> simp only [List.length_append,zJA,List.length_singleton,List.length_nil] <;> omega
theorem frame_ev {M:Msg} (h:okB M=true) (key:Int) (has:Bool) (id:List UInt8) (num v:Int) (src:Option (List UInt8)) (hs:fSide M (.row [.bool has,.str id]) (.int num) (.int v) (encB src)) :
  obsHold X side (frO M key v) (dFr has id num v src)/\(frE M key v).eval X (dFr has id num v src)=fX M key (.row [.bool has,.str id]) (.int num) (.int v) (encB src):=by
 obtain ⟨⟨b0,s0,hbs,hid⟩,_,⟨h0,h1⟩,t,hw,hok,hsrc,hlen⟩:=hs
 obtain ⟨rfl,rfl⟩:has=b0/\id=s0:=by cases hbs;exact ⟨rfl,rfl⟩
 rw [zIA] at h0 h1 hok hsrc
 have hrk:=okB_rk h h0 h1
 simp only [okB,Bool.and_eq_true] at h
 have hm:okMsg M=true:=by have:=h.1.1;simp only [okAll,Bool.and_eq_true] at this;exact this.1.1.1.1
 have hx:=msgX hm v
 simp only [okMsg,Bool.and_eq_true] at hm
 obtain ⟨⟨hp,hsm⟩,_⟩:=hm
 have e2:frS.eval X (dFr has id num v src)=encN (src.getD []):=by
  rw [frS,ev_f,zAA,zAA,zBA,ev_k,ev_v,yGA]
  exact src_encB src
 have hsg:src.getD []=partS M.fs v (Flexible M.fx v) t:=by rw [<- hsrc,xQC]
 have hS:SrcIs frS (dFr has id num v src) (partS M.fs v (Flexible M.fx v) t++[]):=fun hne=>by
  rw [List.append_nil] at hne ⊢
  rw [e2,hsg]
  unfold encN
  cases hq:partS M.fs v (Flexible M.fx v) t with
  | nil=>exact absurd hq hne
  | cons a l=>rfl
 obtain ⟨r1,r2⟩:=rd_M hx M.fs (dFr has id num v src) frS t [] hp hsm hrk hw hok hS
 obtain ⟨b1,b2⟩:=xRD v (Flexible M.fx v) M.fs t hrk hp hok
 have r1':evals X (frC M v) (dFr has id num v src)=dS M.tg M.fs (backS v (Flexible M.fx v) M.fs t):=r1
 have hlim:lim=1099511627776:=rfl
 rw [xQC] at hlen
 have eB:∀ b:Bool,(frB M key v b).eval X (dFr has id num v src) = .bytes (z4++(hdrB key v num b id (Flexible M.fx v)++src.getD [])):=fun b=>by
  rw [frB,qLG hx M.fs 4 (dFr has id num v src) _ _ (backS v (Flexible M.fx v) M.fs t) _ hp (Nat.le_refl _) r1' (xCI key v (Flexible M.fx v) b) b2,b1,yIH,hsg,List.append_assoc]
 have l4:∀ b:Bool,4<=(z4++(hdrB key v num b id (Flexible M.fx v)++src.getD [])).length:=fun b=>by
  rw [List.length_append];exact Nat.le_add_right _ _
 have eF:∀ b:Bool,(frF (frB M key v b)).eval X (dFr has id num v src) = .bytes (frameB key v num b id (Flexible M.fx v) (src.getD [])):=fun b=>by
  rw [frF_eval (eB b) (l4 b)]
  have e1:(z4++(hdrB key v num b id (Flexible M.fx v)++src.getD [])).drop 4=hdrB key v num b id (Flexible M.fx v)++src.getD []:=rfl
  have e3:(z4++(hdrB key v num b id (Flexible M.fx v)++src.getD [])).length - 4=(hdrB key v num b id (Flexible M.fx v)++src.getD []).length:=by
   rw [List.length_append];exact Nat.add_sub_cancel_left _ _
  rw [e1,e3,frameB]
 have eW:∀ b:Bool,obsHold X side (frW M key v b) (dFr has id num v src):=fun b=>by
  have hI:(Ob.idx (.k (.int 4)) (frB M key v b) false).holds X side (dFr has id num v src):=by
   simp only [Ob.holds,ev_k,eB,zIA]
   exact ⟨by decide,l4 b⟩
  have hh:=xDI key v num b id (Flexible M.fx v)
  have hz:z4.length=4:=rfl
  refine qWA ⟨hI,hI,trivial⟩ (qWA ?_ (qWA ?_ (qJA ?_)))
  ·refine ySG hx M.fs 4 (dFr has id num v src) _ _ (backS v (Flexible M.fx v) M.fs t) _ hp rfl r1' (xCI key v (Flexible M.fx v) b) b2 ?_
   rw [b1,<- hsg]
   show (z4++hdrB key v num b id (Flexible M.fx v)).length + _ + 16<=lim
   rw [List.length_append];omega
  ·cases hfx:Flexible M.fx v with
   | false=>exact trivial
   | true =>
    refine qJA ?_
    simp only [Ob.holds]
    rw [xCI]
    have hh:=xDI key v num b id true
    simp only [D.len,List.length_append,hz,LIM,maxLen];omega
  ·cases b with
   | true =>
    simp only [frP,Ob.holds,zAA,zBA,xXG]
    show (X 11 [_,.str id]).len<=lim
    rw [X_11]
    simp only [app,D.asStr,D.len,List.length_append,zJA,hz];omega
   | false =>
    simp only [frP,Ob.holds,zAA,zBA,xXG,ev_k]
    show (X 13 [_,.nil]).len<=lim
    rw [X_13]
    simp only [app,D.asStr,D.len,D.isNil,if_true,List.length_append,zJA,hz];omega
 have hz:z4.length=4:=rfl
 constructor
 ·unfold frO
  refine qWA ⟨fun hc=>?_,fun hc=>?_,?_,?_,?_,?_,trivial⟩ (qWA r2 (qJA ?_))
  ·exact eW true
  ·exact eW false
  ·show (X 6 (evals X [fr2 key v,.v 1] _)).len<=lim
   simp only [zAA,zBA,ev_fr2]
   rw [X_6]
   simp only [app,D.asStr,D.len,List.length_append,zJA,hz];omega
  ·show (X 4 (evals X [fr1 key,.k (.int v)] _)).len<=lim
   simp only [zAA,zBA,ev_fr1,ev_k]
   rw [X_4]
   simp only [app,D.asStr,D.len,List.length_append,zJA,hz];omega
  ·show (X 4 (evals X [fr0,.k (.int key)] _)).len<=lim
   simp only [zAA,zBA,qVI,ev_k]
   rw [X_4]
   simp only [app,D.asStr,D.len,List.length_append,zJA,hz];omega
  ·simp only [Ob.holds,qVI,D.len,hz,LIM,maxLen];omega
  ·simp only [Ob.holds]
   rw [e2,yNA,Nat.mul_one]
   simp only [LIM,maxLen];omega
 ·have e0:(DE.f (.get 0) [.v 0]).eval X (dFr has id num v src) = .bool has:=rfl
  rw [frE,ev_f,zAA,zAA,zAA,zBA,e0,eF,eF,zXA,fX]
  show _=D.bytes (frameB key v num has id (Flexible M.fx v) (encB src).asStr)
  rw [xQC]
  cases has <;> rfl
theorem ksF {ds:List D} (hk:KsOk [.idt,.int .i32,.int .i64,.byts] ds):∃ (b:Bool) (s:List UInt8) (n v:Int) (a:Option (List UInt8)),ds=[.row [.bool b,.str s],.int n,.int v,encB a]:=by
 obtain @⟨⟩ | @⟨_,d1,_,_,k1,hk⟩:=hk
 obtain @⟨⟩ | @⟨_,d2,_,_,k2,hk⟩:=hk
 obtain @⟨⟩ | @⟨_,d3,_,_,k3,hk⟩:=hk
 obtain @⟨⟩ | @⟨_,d4,_,_,k4,hk⟩:=hk
 cases hk
 obtain ⟨b,s,rfl⟩:=k1
 obtain ⟨n,rfl,_⟩:=k2
 obtain ⟨v,rfl,_⟩:=k3
 obtain ⟨a,rfl⟩:=k4
 exact ⟨b,s,n,v,a,rfl⟩
theorem yWI {P:Program} (hnm:NamesOk P) (hord:P.follows .mixedOrders=true) {f:FuncId} {c:Ctr} {M:Msg} {key:Int} (hf:hasBody P f=true)
  (hpre:c.pre=true) (hnr:noRd c.res=true) (hsig:areA P [.idt,.int .i32,.int .i64,.byts] c.args=true) (hS:∀ i n v a,side c.fn [i,n,v,a]=fSide M i n v a) (hX:∀ i n v a,X c.fn [i,n,v,a]=fX M key i n v a) (hok:okB M=true)
  (hrun:∀ v,0<=v->v<=M.most -> ∃ C:Cfg,C.P=P/\(∀ f c,C.ctr f=some c->CtrOk P X side f c)/\runsTo P C f c [(2,v)] (frE M key v) (frO M key v)=true):CtrOk P X side f c:=by
 obtain ⟨fn,b,hf,hb⟩:=zFB hf
 refine ⟨⟨fn,b,hf,hb⟩,fun ok w vs ds hA hokb hRd hp=>?_⟩
 have hs:=hp hpre
 obtain ⟨hb,id,num,v,da,rfl⟩:=ksF (yTD hsig hA)
 have hs':=hs
 rw [hS] at hs'
 obtain ⟨C,hP,hall,hr⟩:=hrun v hs'.2.2.1.1 hs'.2.2.1.2
 subst hP
 obtain ⟨fn',hf',hr⟩:=yRF hr
 rw [hf] at hf';cases hf'
 obtain ⟨h1,h2⟩:=frame_ev hok key hb id num v da hs'
 refine callK hnm hord hall hf hr hA hokb (fun j k hjk=>?_) h1 (h2.trans (hX _ _ _ _).symm) (qFC hnr _)
 simp only [lk] at hjk
 split at hjk
 ·rename_i hj;cases hjk;rw [beq_iff_eq] at hj;subst hj;rfl
 ·cases hjk
def lenF:DE:=.f .len [.f (.get 1) [.v 1]]
def verF (M:Msg):DE:=.f (.ext 58) [.v 0,.k (.int M.most)]
def wrFm (M:Msg):DE:=.f (.ext 59) [specM M,verF M,.v 3]
def inF (M:Msg) (m:Nat):DE:=.f (.ext m) [.v 1,.v 2,verF M,wrFm M]
def reL (M:Msg) (key:Int):List DE:=[.k (.int key),verF M,.v 2,.f (.get 0) [.v 1],.f .toBytes [.f (.get 1) [.v 1]],.f .leI [.k (.int M.fx),verF M],wrFm M]
def reF (M:Msg) (key:Int):DE:=.f (.ext 309) (reL M key)
def longI:DE:=.f .not [.f .ite [.f .ltI [.k (.int 2147483647),lenF],.k (.bool false),.k (.bool true)]]
def longF:DE:=.f .ite [longI,.k (.bool true),.f .not [.f (.ext 54) [.v 3]]]
def longG:DE:=.f .ltI [.k (.int 32767),lenF]
def lawEF (M:Msg) (key:Int) (m:Nat):DE:=.f .ite [longF,.k (.bool true),.f .ite [longG,.k (.bool true),.f (.ext 52) [inF M m,reF M key]]]
def lawOF (M:Msg) (key:Int) (m:Nat):List Ob :=
 [.when longF false [.when longG false [.pre 52 [inF M m,reF M key],.pre 309 (reL M key),.pre m [.v 1,.v 2,verF M,wrFm M],.pre 59 [specM M,verF M,.v 3]],.pre 58 [.v 0,.k (.int M.most)]],
  .when longI false [.pre 54 [.v 3]]]
theorem law_okF {M:Msg} {key:Int} {m:Nat} (h:okB M=true) (hfx:0<=M.fx) (hX:∀ i n v a,X m [i,n,v,a]=fX M key i n v a) (hS:∀ i n v a,side m [i,n,v,a]=fSide M i n v a) (n:Int) (has:Bool) (id:List UInt8) (num:Int) (t:T)
  (hn0:0<=n) (hn1:n < 256) (hw:wfT t=true)
  (hl:fitsTo t=true -> ∀ v,0<=v->v<=M.most->(partS M.fs v (Flexible M.fx v) t).length + 50000<=lim) :
  obsHold X side (lawOF M key m) [.int n,.row [.bool has,.str id],.int num,t.d]/\(lawEF M key m).eval X [.int n,.row [.bool has,.str id],.int num,t.d] = .bool true:=by
 have hB:=h
 simp only [okB,Bool.and_eq_true] at h
 have hA:=h.1.1
 simp only [okAll,Bool.and_eq_true,decide_eq_true_eq] at hA
 obtain ⟨⟨⟨⟨hm,hwf⟩,hG⟩,hm0⟩,hm1⟩:=hA
 have hp:plainS M.fs=true:=by
  simp only [okMsg,Bool.and_eq_true] at hm;exact hm.1.1
 have hv0:0<=n % (M.most + 1):=Int.emod_nonneg _ (by omega)
 have hv1:n % (M.most + 1)<=M.most:=by have:=Int.emod_lt_of_pos n (b:=M.most + 1) (by omega);omega
 generalize hδ:[D.int n,.row [.bool has,.str id],.int num,t.d]=δ
 have d0:(DE.v 0).eval X δ = .int n:=by rw [<- hδ];rfl
 have d1:(DE.v 1).eval X δ = .row [.bool has,.str id]:=by rw [<- hδ];rfl
 have d2:(DE.v 2).eval X δ = .int num:=by rw [<- hδ];rfl
 have d3:(DE.v 3).eval X δ=t.d:=by rw [<- hδ];rfl
 have eV:(verF M).eval X δ = .int (n % (M.most + 1)):=by
  unfold verF
  rw [ev_f,zAA,zAA,zBA,d0,ev_k,zDA,X_58,zIA,zIA]
 generalize n % (M.most + 1)=v at hv0 hv1 eV
 have g0:(DE.f (.get 0) [.v 1]).eval X δ = .bool has:=by rw [ev_f,zAA,zBA,d1];rfl
 have g1:(DE.f (.get 1) [.v 1]).eval X δ = .str id:=by rw [ev_f,zAA,zBA,d1];rfl
 have eL:lenF.eval X δ = .int (id.length:Nat):=by rw [lenF,ev_f,zAA,zBA,g1,zSA];rfl
 have eLt:∀ k:Int,(DE.f .ltI [.k (.int k),lenF]).eval X δ = .bool (decide (k < (id.length:Nat))):=fun k=>by
  rw [ev_f,zAA,zAA,zBA,ev_k,eL,qLA]
 have e54:(DE.f .not [.f (.ext 54) [.v 3]]).eval X δ = .bool (!fitsTo t):=by
  rw [ev_f,zAA,zBA,ev_f,zAA,zBA,d3,zDA,X_54,xJA,qND]
 have eI0:longI.eval X δ = .bool (decide ((2147483647:Int) < (id.length:Nat))):=by
  unfold longI
  rw [ev_f,zAA,zBA,ev_f,zAA,zAA,zAA,zBA,eLt,ev_k,ev_k,zXA]
  cases decide ((2147483647:Int) < (id.length:Nat)) <;> rfl
 have eB:longF.eval X δ = .bool (decide ((2147483647:Int) < (id.length:Nat)) || !fitsTo t):=by
  unfold longF
  rw [ev_f,zAA,zAA,zAA,zBA,eI0,ev_k,e54,zXA]
  cases decide ((2147483647:Int) < (id.length:Nat)) <;> rfl
 have eC:longG.eval X δ = .bool (decide ((32767:Int) < (id.length:Nat))):=eLt 32767
 have eK:(specM M).eval X δ = .row [encF M.fs,.int M.fx]:=by
  rw [specM,ev_f]
  simp only [zAA,zBA,xIG,ev_k,qUB]
 have eW:(wrFm M).eval X δ=encN (partS M.fs v (Flexible M.fx v) t):=by
  rw [wrFm,ev_f]
  simp only [zAA,zBA,eK,eV,d3,zDA]
  rw [X_59,zKA,xJA,zIA,zIA]
 have eIn:(inF M m).eval X δ = .bytes (frameB key v num has id (Flexible M.fx v) (partS M.fs v (Flexible M.fx v) t)):=by
  rw [inF,ev_f]
  simp only [zAA,zBA,d1,d2,eV,eW,zDA]
  rw [hX,fX,zIA,zIA,yVA];rfl
 have hfl:decide (M.fx<=v)=Flexible M.fx v:=by simp [Flexible,hfx]
 have eRL:evals X (reL M key) δ=[.int key,.int v,.int num,.bool has,.bytes id,.bool (Flexible M.fx v),encN (partS M.fs v (Flexible M.fx v) t)]:=by
  rw [reL]
  simp only [zAA,zBA,ev_k,eV,d2,g0,eW,ev_f .toBytes,ev_f .leI,g1,zJC,hfl];rfl
 have eRe:(reF M key).eval X δ = .bytes (frameB key v num has id (Flexible M.fx v) (partS M.fs v (Flexible M.fx v) t)):=by
  rw [reF,ev_f,eRL,zDA,X_309,zIA,zIA,zIA,zNA,zNA,yVA];rfl
 constructor
 ·refine ⟨fun hc=>?_,fun _=>?_,trivial⟩
  ·rw [eB,zNA] at hc
   simp only [Bool.or_eq_false_iff,Bool.not_eq_false'] at hc
   have hlen:=hl hc.2 v hv0 hv1
   refine ⟨fun hc2=>?_,?_,trivial⟩
   ·rw [eC,zNA,decide_eq_false_iff_not] at hc2
    have hd:id.length<=32767:=by omega
    have hlim:lim=1099511627776:=rfl
    refine ⟨trivial,?_,?_,?_,trivial⟩
    ·simp only [Ob.holds]
     rw [eRL]
     show (D.bytes id).asStr.length + (encN _).asStr.length + 100<=lim
     rw [yVA]
     show id.length + _ + 100<=lim
     omega
    ·simp only [Ob.holds,zAA,zBA,d1,d2,eV,eW]
     rw [hS]
     refine ⟨⟨has,id,rfl,hd⟩,⟨num,rfl⟩,⟨hv0,hv1⟩,given (FitS M.fs v t),xCF _ (xNE M.fs v t hw),qEI _ _ (yXF M.fs v t hp hw),?_,?_⟩
     ·rw [zIA,yVA,partG M.fs v _ t hv0 hG]
     ·rw [yVA];omega
    ·simp only [Ob.holds,zAA,zBA,eK,eV,d3]
     rw [qRI,zKA,zIA,zIA,xJA]
     exact ⟨hwf,by omega⟩
   ·simp only [Ob.holds,zAA,zBA,d0,ev_k]
    rw [yFG]
    exact ⟨hn0,hm0,hm1⟩
  ·exact ⟨trivial,trivial⟩
 ·rw [lawEF,ev_f,zAA,zAA,zAA,zBA,eB,ev_k,zXA]
  cases hc:(decide ((2147483647:Int) < (id.length:Nat)) || !fitsTo t) with
  | true=>rfl
  | false =>
   rw [if_neg (by decide),ev_f,zAA,zAA,zAA,zBA,eC,ev_k,zXA]
   cases decide ((32767:Int) < (id.length:Nat)) with
   | true=>rfl
   | false =>
    rw [if_neg (by decide),ev_f,zAA,zAA,zBA,eIn,eRe,zDA,X_52]
    simp [D.asStr]
theorem yHH {P:Program} {C:Cfg} (hP:C.P=P) (hnm:NamesOk P) (hord:P.follows .mixedOrders=true) (hctr:∀ f c,C.ctr f=some c->CtrOk P X side f c) {f:Nat} {tu ti tn tt tb:Nat} {E:DE} {O:List Ob}
  (hrun:runsTo P C f ⟨[.val tu,.val ti,.val tn,.val tt],.val tb,200,false⟩ [] E O=true) (hu:isI P .u8 tu=true) (hi:isId P ti=true) (hni:isI P .i32 tn=true) (htree:isTree P tt=true)
  {ok:Nat->Prop} {w:World} {n num:Int} {iv tv:Value} {id d:D} (hn:(Lit.int .u8 n).wf=true) (hnum:(Lit.int .i32 num).wf=true) (hid:Rep P ok w ti iv id) (ht:Rep P ok w tt tv d) (hok:∀ b,ok b->b < w.heap.size)
  (hlaw:∀ (t:T) (has:Bool) (s:List UInt8),d=t.d->id = .row [.bool has,.str s]->wfT t=true->0<=n->n < 256->obsHold X side O [.int n,id,.int num,t.d]/\E.eval X [.int n,id,.int num,t.d] = .bool true) :
  Calls P f #[.int .u8 n,iv,.int .i32 num,tv] w fun e w'=>e = .returned (.bool true)/\Fr (fun _=>False) w w':=by
 subst hP
 obtain ⟨fn,hf,hr⟩:=yRF hrun
 have hA:ArgsOk C.P ok w [.val tu,.val ti,.val tn,.val tt] [.int .u8 n,iv,.int .i32 num,tv] [.int n,id,.int num,d]:=.cons (.val (.int (yGF hu) hn)) (.cons (.val hid) (.cons (.val (.int (yGF hni) hnum)) (.cons (.val ht) .nil)))
 obtain ⟨t,rfl⟩:=(xED ht).1 htree
 obtain ⟨has,s,hidd⟩:=rep_id hi hid
 have hw:=(xOI ht).1 htree t rfl
 obtain ⟨hn0,hn1⟩:=wf_u8 hn
 obtain ⟨h1,h2⟩:=hlaw t has s rfl hidd hw hn0 hn1
 have hW:∀ b,¬ Wr w [AK.val tu,.val ti,.val tn,.val tt] [.int .u8 n,iv,.int .i32 num,tv] b:=fun b h=>by simp [Wr,wrA] at h
 have:=callK (C:=C) (c:=⟨[.val tu,.val ti,.val tn,.val tt],.val tb,200,false⟩) hnm hord hctr hf hr hA (fun b hb=>⟨hok b hb,hW b⟩) (fun j k hj=>by simp [lk] at hj) h1 (by rw [h2];exact (X_200 _).symm) (qFC rfl _)
 refine Calls.mono this (fun e w' he=>?_)
 obtain ⟨v,rfl,hfr,hres⟩:=he
 have e1:Rep C.P (fun b=>ok b ∨ w.heap.size<=b) w' tb v (X 200 [.int n,id,.int num,t.d]):=hres (fun b=>ok b ∨ w.heap.size<=b) (fun _ h=>.inl h) (fun _ h _=>.inr h)
 rw [X_200] at e1
 refine ⟨?_,hfr.mono (fun b _ hb=>(hW b hb).elim)⟩
 cases e1;rfl
end Go.Mx
namespace Go.Mx
open Go Go.Dx
theorem qGE {M:Msg} (h:okB M=true) {t:T} {B:Nat} (hb:WT t<=B) (hc:cS M.fs * (1 + B) + 50000<=lim) (v:Int):(partS M.fs v (Flexible M.fx v) t).length + 50000<=lim:=by
 simp only [okB,okAll,okMsg,Bool.and_eq_true] at h
 have h1:=qZE M.fs v (Flexible M.fx v) t h.1.1.1.1.1.1.1.1
 have h2:cS M.fs * (1 + WT t)<=cS M.fs * (1 + B):=Nat.mul_le_mul_left _ (by omega)
 omega
end Go.Mx
namespace Go.Mx
open Go Go.Dx
def u8V (s:List UInt8):List Value:=s.map fun x=>Value.int .u8 (x.toNat:Int)
section
variable {P:Program} {ok:Nat->Prop} {w:World}
theorem rep_u8 {e:TypeId} {v:Value} {d:D} (he:P.underlying e=some (.int .u8)) (h:Rep P ok w e v d):∃ x:UInt8,v = .int .u8 (x.toNat:Int)/\d = .int (x.toNat:Int):=by
 obtain ⟨n,rfl,hn⟩:KOk (.int .u8) d:=qCA (by simp [isI,he]) h
 cases h with
 | int hu hw =>
  rw [he] at hu;cases hu
  have hb:0<=n/\n < 256:=by simp [Lit.wf,IntKind.min,IntKind.max,IntKind.signed,IntKind.bits] at hn;omega
  have:((UInt8.ofNat n.toNat).toNat:Int)=n:=by rw [UInt8.toNat_ofNat'];omega
  exact ⟨UInt8.ofNat n.toNat,by rw [this],by rw [this]⟩
theorem rep_u16 {t e:TypeId} {v:Value} {d:D} (ha:agg P t=true) (ht:tys P t=List.replicate 16 e) (he:P.underlying e=some (.int .u8)) (h:Rep P ok w t v d) :
  ∃ s:List UInt8,s.length=16/\v = .agg (u8V s).toArray/\d = .row (s.map fun x=>.int (x.toNat:Int)):=by
 obtain ⟨ds,rfl,_,_⟩:=xHC ha h
 cases h with
 | row hu hd hlen hlen' h1 hr =>
  rename_i dd vs
  rw [ht] at hlen hlen' hr
  have hl:vs.length=16:=by simpa using hlen
  have hl':ds.length=16:=by simpa using hlen'
  have hx:∀ j (h:j < 16),∃ x:UInt8,vs[j]? = some (.int .u8 (x.toNat:Int))/\ds[j]? = some (.int (x.toNat:Int)):=fun j hj=>by
   have h1:vs[j]? = some (vs[j]'(by omega)):=List.getElem?_eq_getElem (by omega)
   have h2:ds[j]? = some (ds[j]'(by omega)):=List.getElem?_eq_getElem (by omega)
   obtain ⟨x,e1,e2⟩:=rep_u8 he (hr j e _ _ (by rw [List.getElem?_replicate,if_pos hj]) h1 h2)
   exact ⟨x,by rw [h1,e1],by rw [h2,e2]⟩
  have hk:∀ x:UInt8,UInt8.ofNat (D.int (x.toNat:Int)).asInt.toNat=x:=fun x=>by simp [D.asInt]
  refine ⟨ds.map fun d=>UInt8.ofNat d.asInt.toNat,by simpa using hl',?_,?_⟩
  ·congr 1
   apply congrArg List.toArray
   apply List.ext_getElem?
   intro j
   by_cases hj:j < 16
   ·obtain ⟨x,e1,e2⟩:=hx j hj
    rw [e1,u8V,List.getElem?_map,List.getElem?_map,e2,Option.map_some,Option.map_some,hk]
   ·rw [List.getElem?_eq_none (by omega),List.getElem?_eq_none (by simp [u8V];omega)]
  ·congr 1
   apply List.ext_getElem?
   intro j
   by_cases hj:j < 16
   ·obtain ⟨x,e1,e2⟩:=hx j hj
    rw [List.getElem?_map,List.getElem?_map,e2,Option.map_some,Option.map_some,hk]
   ·rw [List.getElem?_eq_none (by omega),List.getElem?_eq_none (by simp;omega)]
theorem qRD (s:List UInt8):rowBytes (.row (s.map fun x=>.int (x.toNat:Int)))=s:=by
 simp only [rowBytes,D.cells,List.map_map]
 conv=>rhs;rw [<- List.map_id s]
 apply List.map_congr_left
 intro x _
 simp [D.asInt]
theorem qCH (w:World) (xs:List Value) (t:TypeId) (j:Nat) (u:Value) (h:xs[j]? = some u):(w.alloc (.cells xs.toArray t)).cell? ((⟨w.heap.size,0,none⟩:Addr).add j)=some u:=by
 have hadd:(⟨w.heap.size,0,none⟩:Addr).add j=⟨w.heap.size,0 + j,none⟩:=by unfold Addr.add;split <;> simp_all
 have hb:(w.alloc (.cells xs.toArray t)).heap[w.heap.size]? = some (.cells xs.toArray t (0,0)):=(MapKept.heap_alloc w _).1
 rw [hadd]
 unfold World.cell?
 simp only [hb,Nat.zero_add]
 simpa using h
theorem ySD {t:TypeId} {v:Value} {d:D} (h:OwnAt P ok w t v d):∃ sp sn sc,v = .slice sp sn sc:=by
 obtain ⟨e,i,n,xs,_,_,h3,_⟩:=h
 rcases h3.2 with ⟨rfl,_⟩|⟨g,cap,cur,rfl,_⟩
 ·exact ⟨_,_,_,rfl⟩
 ·exact ⟨_,_,_,rfl⟩
theorem zFI {t:TypeId} {v:Value} {d:D} (h:OwnAt P ok w t v d) (b:Nat) (hb:v.ownBlock=some b):b < w.heap.size:=by
 obtain ⟨e,i,n,xs,_,_,h3,_⟩:=h
 exact (h3.lt b hb).2
theorem zDI {t e:TypeId} {i:TypeInfo} (hu:P.underlying t=some (.slice e)) (he:P.underlying e=some (.int .u8)) (hi:P.info? e=some i) (h1:i.size=1) {v:Value} {d:D} (h:OwnAt P ok w t v d):∃ xs:List UInt8,d.asStr=xs/\w.ownsRow 0 e 1 v xs.length (u8V xs):=by
 obtain ⟨e',i',n,xs,hu',hi',h3,h4⟩:=h
 rw [hu] at hu';cases hu'
 rw [hi] at hi';cases hi'
 rw [h1] at h3
 cases h4 with
 | nil hv=>exact ⟨[],rfl,h3⟩
 | bytes hv he' hs=>exact ⟨_,rfl,h3⟩
 | list hv he'=>exact absurd he he'
theorem own_mk {t e:TypeId} {i:TypeInfo} (hu:P.underlying t=some (.slice e)) (he:P.underlying e=some (.int .u8)) (hi:P.info? e=some i) (h1:i.size=1) {v:Value} {s:List UInt8} (hn:v = .slice none 0 0->False) (h:w.ownsRow 0 e 1 v s.length (u8V s)):OwnAt P ok w t v (.bytes s):=by
 refine ⟨e,i,s.length,u8V s,hu,hi,by rw [h1];exact h,.bytes ?_ he h1⟩
 rcases h.2 with ⟨rfl,_⟩|⟨g,cap,cur,rfl,_⟩
 ·exact absurd rfl hn
 ·simp [Value.ownBlock]
end
end Go.Mx
namespace Go.Mx
open Go Go.Dx
theorem len8 {b:List UInt8} (h:8<=b.length):∃ b0 b1 b2 b3 b4 b5 b6 b7 r,b=b0::b1::b2::b3::b4::b5::b6::b7::r:=by
 match b,h with
 | b0::b1::b2::b3::b4::b5::b6::b7::r,_=>exact ⟨b0,b1,b2,b3,b4,b5,b6,b7,r,rfl⟩
theorem qCG {P:Program} {ok:Nat->Prop} {w:World} {t:TypeId} {v:Value} {d:D} (ha:agg P t=true) (ht:tys P t=[]) (h:Rep P ok w t v d):v = .agg #[]:=by
 obtain ⟨ds,rfl,_,_⟩:=xHC ha h
 cases h with
 | row hu hd hlen hlen' h1 hr =>
  rename_i dd vs
  rw [ht] at hlen
  have:vs=[]:=List.length_eq_zero_iff.1 hlen
  subst this
  rfl
theorem hand86 {P:Program} {ρ:Go.Shelf.Ren} (L:Go.Proofs.LaysBin.n42 P ρ) {f:FuncId} {te tb t64 e:TypeId} (hf:ρ.f 42=f) (hb:hasBody P f=true) (ha:agg P te=true) (ht:tys P te=[]) (hub:P.underlying tb=some (.slice e)) (he:P.underlying e=some (.int .u8)) (h64:P.underlying t64=some (.int .u64)) :
  CtrOk P X side f ⟨[.val te,.val tb],.val t64,86,true⟩:=by
 refine ⟨zFB hb,fun ok w vs ds hA hok hRd hp=>?_⟩
 obtain @⟨⟩ | @⟨_,v1,d1,_,_,_,h1,hA⟩:=hA
 obtain @⟨⟩ | @⟨_,v2,d2,_,_,_,h2,hA⟩:=hA
 cases hA
 cases h1 with
 | val h1 =>
 cases h2 with
 | val h2 =>
 obtain ⟨b,hbd,hl⟩:∃ b,d2 = .bytes b/\8<=b.length:=hp rfl
 subst hbd
 have hv1:=qCG ha ht h1
 subst hv1
 obtain ⟨b0,b1,b2,b3,b4,b5,b6,b7,r,rfl⟩:=len8 hl
 have hB:=h2.bytesAt hub he
 cases hB with
 | some hsp hcl hcap hmax =>
  rename_i ad cap
  have hs:ad.spot=none:=hsp (by simp only [List.length_cons] at hcap;omega)
  obtain ⟨g,o,sp⟩:=ad
  simp only at hs
  subst hs
  have hc:∀ (j:Nat) (x:UInt8),(b0::b1::b2::b3::b4::b5::b6::b7::r)[j]? = some x->w.cell? ⟨g,o + j,none⟩=some (.int .u8 (x.toNat:Int)):=fun j x hx=>hcl j _ (by rw [List.getElem?_map,hx];rfl)
  subst hf
  refine (Go.Proofs.Any.binary_BE_Uint64 L g o _ cap b0 b1 b2 b3 b4 b5 b6 b7 w (by simp only [List.length_cons];omega) (hc 0 _ rfl) (hc 1 _ rfl) (hc 2 _ rfl) (hc 3 _ rfl) (hc 4 _ rfl) (hc 5 _ rfl) (hc 6 _ rfl) (hc 7 _ rfl)).mono fun e' w' he'=>?_
  obtain ⟨rfl,hbl⟩:=he'
  refine ⟨_,rfl,⟨hbl.os,hbl.tape,hbl.output,hbl.size,fun k hk _=>hbl.block k hk⟩,fun ok' _ _=>?_⟩
  have e1:Go.Lib.beNat [b0,b1,b2,b3,b4,b5,b6,b7]=beN [b0,b1,b2,b3,b4,b5,b6,b7]:=by
   simp [Go.Lib.beNat,Go.Lib.beFrom,beN]
  have hlt:beN [b0,b1,b2,b3,b4,b5,b6,b7] < 256 ^ 8:=qAG _
  show Rep P ok' w' t64 _ (X 86 [d1,.bytes (b0::b1::b2::b3::b4::b5::b6::b7::r)])
  rw [X_86,zRA,e1]
  refine .int h64 (xHB ?_)
  simp [IntKind.min,IntKind.max,IntKind.signed,IntKind.bits];omega
theorem hand87 {P:Program} {ρ:Go.Shelf.Ren} (L:Go.Proofs.LaysBin.n39 P ρ) {f:FuncId} {te tb t32 e:TypeId} (hf:ρ.f 39=f) (hb:hasBody P f=true) (ha:agg P te=true) (ht:tys P te=[]) (hub:P.underlying tb=some (.slice e)) (he:P.underlying e=some (.int .u8)) (h32:P.underlying t32=some (.int .u32)) :
  CtrOk P X side f ⟨[.val te,.val tb],.val t32,87,true⟩:=by
 refine ⟨zFB hb,fun ok w vs ds hA hok hRd hp=>?_⟩
 obtain @⟨⟩ | @⟨_,v1,d1,_,_,_,h1,hA⟩:=hA
 obtain @⟨⟩ | @⟨_,v2,d2,_,_,_,h2,hA⟩:=hA
 cases hA
 cases h1 with
 | val h1 =>
 cases h2 with
 | val h2 =>
 obtain ⟨b,hbd,hl⟩:∃ b,d2 = .bytes b/\4<=b.length:=hp rfl
 subst hbd
 have hv1:=qCG ha ht h1
 subst hv1
 obtain ⟨b0,b1,b2,b3,r,rfl⟩:=len4 hl
 have hB:=h2.bytesAt hub he
 cases hB with
 | some hsp hcl hcap hmax =>
  rename_i ad cap
  have hs:ad.spot=none:=hsp (by simp only [List.length_cons] at hcap;omega)
  obtain ⟨g,o,sp⟩:=ad
  simp only at hs
  subst hs
  have hc:∀ (j:Nat) (x:UInt8),(b0::b1::b2::b3::r)[j]? = some x->w.cell? ⟨g,o + j,none⟩=some (.int .u8 (x.toNat:Int)):=fun j x hx=>hcl j _ (by rw [List.getElem?_map,hx];rfl)
  subst hf
  refine (Go.Proofs.Any.binary_BE_Uint32 L g o _ cap b0 b1 b2 b3 w (by simp only [List.length_cons];omega) (hc 0 _ rfl) (hc 1 _ rfl) (hc 2 _ rfl) (hc 3 _ rfl)).mono fun e' w' he'=>?_
  obtain ⟨rfl,hbl⟩:=he'
  refine ⟨_,rfl,⟨hbl.os,hbl.tape,hbl.output,hbl.size,fun k hk _=>hbl.block k hk⟩,fun ok' _ _=>?_⟩
  have e1:Go.Lib.beNat [b0,b1,b2,b3]=beN [b0,b1,b2,b3]:=by
   simp [Go.Lib.beNat,Go.Lib.beFrom,beN]
  have hlt:beN [b0,b1,b2,b3] < 256 ^ 4:=qAG _
  show Rep P ok' w' t32 _ (X 87 [d1,.bytes (b0::b1::b2::b3::r)])
  rw [X_87,zRA,e1]
  refine .int h32 (xHB ?_)
  simp [IntKind.min,IntKind.max,IntKind.signed,IntKind.bits];omega
end Go.Mx
