/- Part of a verified symbolic run of the program's code (no condition of its own). -/
import Derived.Test.YtefilhocfegfhaaDoorQ3
import Derived.Laws.Bits64
set_option linter.unusedVariables false
set_option linter.unusedSimpArgs false
noncomputable section
namespace Go.Dx
open Go
section
variable {P:Program} {X:Nat->List D->D} {Pre:Nat->List D->Prop} {J:List D}
theorem xLB:∀ {n:Nat} {l:List (List (DE×Bool)×DE)} {c:DE},yWH n l=some c -> ∀p∈l,PcOk X J p.1->c.eval X J=p.2.eval X J
 | n,l,c,h,p,hp,hpc=>by
  unfold yWH at h;split at h
  ·cases h;simp only[List.mem_singleton] at hp;subst hp;rfl
  ·rename_i n e b pc x r _;split at h
   ·rename_i t hs;obtain⟨b',pc',k1,k2,k3⟩:=xIA hs p hp hpc;cases b' with
    | true=>exact xLB h (pc',p.2) k3 k2
    | false=>simp at k3
   ·rename_i f hs;obtain⟨b',pc',k1,k2,k3⟩:=xIA hs p hp hpc;cases b' with
    | true=>simp at k3
    | false=>exact xLB h (pc',p.2) k3 k2
   ·rename_i t f _ _ hs;obtain⟨b',pc',k1,k2,k3⟩:=xIA hs p hp hpc;split at h
    ·rename_i a1 b1 h1 h2;cases h;have main:(DE.f .ite [e,a1,b1]).eval X J=if (e.eval X J).asBool then a1.eval X J else b1.eval X J:=rfl
     cases b' with
     | true =>
      have i1:=xLB h1 (pc',p.2) k3 k2;split
      ·exact i1
      ·rw[main,k1];simp only[if_true];exact i1
     | false =>
      have i1:=xLB h2 (pc',p.2) k3 k2;split
      ·rename_i hb;rw[DE.beq_eq hb];exact i1
      ·rw[main,k1];simp only[bfZ,if_false];exact i1
    ·cases h
   ·cases h
  ·cases h
theorem xMB:∀ {n:Nat} {l:List (List (DE×Bool)×List Ob)} {c:List Ob},yXH n l=some c->zCA X Pre c J -> ∀p∈l,PcOk X J p.1->zCA X Pre p.2 J
 | n,l,c,h,hob,p,hp,hpc=>by
  unfold yXH at h;split at h
  ·cases h;simp only[List.mem_singleton] at hp;subst hp;exact hob
  ·rename_i n e b pc x r _;split at h
   ·rename_i t hs;obtain⟨b',pc',k1,k2,k3⟩:=xIA hs p hp hpc;cases b' with
    | true=>exact xMB h hob (pc',p.2) k3 k2
    | false=>simp at k3
   ·rename_i f hs;obtain⟨b',pc',k1,k2,k3⟩:=xIA hs p hp hpc;cases b' with
    | true=>simp at k3
    | false=>exact xMB h hob (pc',p.2) k3 k2
   ·rename_i t f _ _ hs;obtain⟨b',pc',k1,k2,k3⟩:=xIA hs p hp hpc;split at h
    ·rename_i a1 b1 h1 h2;cases h;have hm:=xZA hob;cases b' with
     | true=>exact xMB h1 (hm.1 k1) (pc',p.2) k3 k2
     | false=>exact xMB h2 (hm.2 k1) (pc',p.2) k3 k2
    ·cases h
   ·cases h
  ·cases h
def zAF:AK->Bool
 | .own _=>true
 | .rd _ _=>true
 | _=>false
theorem qRD:∀ {ks:List AK} {i:Nat} {k:AK},owns ks=0->ks[i]? = some k->zAF k=false
 | [],i,t,_,h=>by simp at h
 | x::r,0,k,h,hi=>by
  simp at hi;subst hi
  cases x <;> simp[owns] at h <;> rfl
 | x::r,i+1,k,h,hi=>qRD (ks:=r) (by cases x <;> simp[owns] at h <;> exact h) (by simpa using hi)
theorem zSD:∀ {ks:List AK} {i j:Nat} {k l:AK},owns ks<=1->ks[i]? = some k->ks[j]? = some l->zAF k=true->zAF l=true->i=j
 | [],i,j,_,_,_,h,_,_,_=>by simp at h
 | x::r,0,0,_,_,_,_,_,_,_=>rfl
 | x::r,0,j+1,k,l,h,hi,hj,h1,h2=>by
  simp at hi;subst hi
  have h0:owns r=0:=by cases x <;> simp[zAF] at h1 <;> simp[owns] at h <;> exact h
  have:=qRD h0 (show r[j]? = some l by simpa using hj)
  rw[this] at h2;cases h2
 | x::r,i+1,0,k,l,h,hi,hj,h1,h2=>by
  simp at hj;subst hj
  have h0:owns r=0:=by cases x <;> simp[zAF] at h2 <;> simp[owns] at h <;> exact h
  have:=qRD h0 (show r[i]? = some k by simpa using hi)
  rw[this] at h1;cases h1
 | x::r,i+1,j+1,k,l,h,hi,hj,h1,h2=>by
  have:=zSD (ks:=r) (i:=i) (j:=j) (k:=k) (l:=l) (by cases x <;> simp[owns] at h <;> omega) (by simpa using hi) (by simpa using hj) h1 h2
  omega
theorem xMK:∀ {ks:List AK} {i j:Nat} {t:TypeId} {m:Bool},rdAt i ks=some (j,t,m)->i<=j/\ks[j-i]? = some (.rd t m)
 | [],i,j,t,m,h=>by simp[rdAt] at h
 | x::r,i,j,t,m,h=>by
  have rest:rdAt (i+1) r=some (j,t,m)->i<=j/\(x::r)[j-i]? = some (.rd t m):=fun h=>by
   obtain⟨h1,h2⟩:=xMK h;refine⟨by omega,?_⟩;rw[show j-i=(j-(i+1))+1 by omega];simpa using h2
  cases x with
  | rd u m'=>simp[rdAt] at h;obtain⟨rfl,rfl,rfl⟩:=h;exact⟨Nat.le_refl _,by simp⟩
  | val u=>exact rest h
  | own u=>exact rest h
  | mcell u m'=>exact rest h
  | wcell u m'=>exact rest h
  | ccell gs o u=>exact rest h
theorem zAD:∀ {ks:List AK} {i:Nat} {q:Sa},yNA P i ks=some q->q.as.length=ks.length /\
  (∀n vi,lk n q.vs=some vi->i<=n /\ ∃k t,ks[n-i]? = some k/\((k = .val t/\vi=⟨.set t,.v n⟩)∨(k = .own t/\vi=⟨.own t,.v n⟩)∨(∃m,k = .rd t m/\vi=⟨.set t,srcE m n⟩))) /\
  (∀o cs,lk o q.os=some cs->i<=o /\ ∃t m,ks[o-i]? = some (.rd t m)/\cs=[.x o,.b (badE m (.v o))]) /\
  (∀(j:Nat) (t m:TypeId),ks[j]? ≠ some (AK.mcell t m)/\ks[j]? ≠ some (AK.wcell t m) /\ ∀gs:List Nat,ks[j]? ≠ some (AK.ccell gs m t))/\(∀(j:Nat) (t:TypeId) (m:Bool),ks[j]? = some (AK.rd t m)->lk (i+j) q.os=some [.x (i+j),.b (badE m (.v (i+j)))])
 | [],i,q,h=>by
  simp only[yNA,Option.some.injEq] at h;subst h
  exact⟨rfl,by simp[yTA,yLA],by simp[yTA,yLA],by simp,by simp⟩
 | x::r,i,q,h=>by
  have up:∀ {q':Sa},yNA P (i+1) r=some q'->q'.as.length=r.length /\
    (∀n vi,lk n q'.vs=some vi->i<=n/\i≠n /\ ∃k t,(x::r)[n-i]? = some k/\((k = .val t/\vi=⟨.set t,.v n⟩)∨(k = .own t/\vi=⟨.own t,.v n⟩)∨(∃m,k = .rd t m/\vi=⟨.set t,srcE m n⟩))) /\
    (∀o cs,lk o q'.os=some cs->i<=o/\i≠o /\ ∃t m,(x::r)[o-i]? = some (.rd t m)/\cs=[.x o,.b (badE m (.v o))]) /\
    (∀(j:Nat) (t m:TypeId),r[j]? ≠ some (AK.mcell t m)/\r[j]? ≠ some (AK.wcell t m) /\ ∀gs:List Nat,r[j]? ≠ some (AK.ccell gs m t))/\(∀(j:Nat) (t:TypeId) (m:Bool),r[j]? = some (AK.rd t m)->lk (i+(j+1)) q'.os=some [.x (i+(j+1)),.b (badE m (.v (i+(j+1))))]):=fun {q'} hq=>by
   obtain⟨h1,h2,h3,h4,h5⟩:=zAD hq;refine⟨h1,fun n vi hn=>?_,fun o cs ho=>?_,h4,fun j t m hj=>?_⟩
   ·obtain⟨k1,k,t,k2,k3⟩:=h2 n vi hn;refine⟨by omega,by omega,k,t,?_,k3⟩;rw[show n-i=(n-(i+1))+1 by omega];simpa using k2
   ·obtain⟨k1,t,m,k2,k3⟩:=h3 o cs ho;refine⟨by omega,by omega,t,m,?_,k3⟩;rw[show o-i=(o-(i+1))+1 by omega];simpa using k2
   ·have:=h5 j t m hj
    rwa [show i+1+j=i+(j+1) by omega] at this
  have noM:∀(hx:∀(t m:TypeId),x≠AK.mcell t m/\x≠AK.wcell t m /\ ∀gs:List Nat,x≠AK.ccell gs m t),(∀(j:Nat) (t m:TypeId),r[j]? ≠ some (AK.mcell t m)/\r[j]? ≠ some (AK.wcell t m) /\ ∀gs:List Nat,r[j]? ≠ some (AK.ccell gs m t)) -> ∀(j:Nat) (t m:TypeId),(x::r)[j]? ≠ some (AK.mcell t m)/\(x::r)[j]? ≠ some (AK.wcell t m) /\ ∀gs:List Nat,(x::r)[j]? ≠ some (AK.ccell gs m t):=fun hx hr j t m=>by
   cases j with
   | zero=>simp only[List.getElem?_cons_zero,ne_eq,Option.some.injEq];exact hx t m
   | succ j=>simpa using hr j t m
  cases x with
  | mcell t m=>simp[yNA] at h
  | wcell t m=>simp[yNA] at h
  | ccell gs o t=>simp[yNA] at h
  | val t =>
   simp only[yNA] at h;split at h
   rotate_left
   ·cases h
   rename_i q' d hq hu;obtain⟨h1,h2,h3,h4,h5⟩:=up hq;have hO:∀(j:Nat) (u:TypeId) (m:Bool),(AK.val t::r)[j]? = some (AK.rd u m)->lk (i+j) q'.os=some [.x (i+j),.b (badE m (.v (i+j)))]:=fun j u m hj=>by
    cases j with
    | zero=>simp at hj
    | succ j=>exact h5 j u m (by simpa using hj)
   split at h
   ·cases h;exact⟨by simp[h1],fun n vi hn=>⟨(h2 n vi hn).1,(h2 n vi hn).2.2⟩,fun o cs ho=>⟨(h3 o cs ho).1,(h3 o cs ho).2.2⟩,noM (by simp) h4,hO⟩
   ·cases h;refine⟨by simp[h1],fun n vi hn=>?_,fun o cs ho=>⟨(h3 o cs ho).1,(h3 o cs ho).2.2⟩,noM (by simp) h4,hO⟩;by_cases hni:i=n
    ·subst hni;rw[zIA] at hn;cases hn
     exact⟨Nat.le_refl _,.val t,t,by simp,.inl ⟨rfl,rfl⟩⟩
    ·rw[zHA hni] at hn;exact⟨(h2 n vi hn).1,(h2 n vi hn).2.2⟩
  | own t =>
   simp only[yNA] at h;split at h
   rotate_left
   ·cases h
   rename_i q' hq;obtain⟨h1,h2,h3,h4,h5⟩:=up hq;cases h;refine⟨by simp[h1],fun n vi hn=>?_,fun o cs ho=>⟨(h3 o cs ho).1,(h3 o cs ho).2.2⟩,noM (by simp) h4,fun j u m' hj=>?_⟩
   ·by_cases hni:i=n
    ·subst hni;rw[zIA] at hn;cases hn
     exact⟨Nat.le_refl _,.own t,t,by simp,.inr (.inl ⟨rfl,rfl⟩)⟩
    ·rw[zHA hni] at hn;exact⟨(h2 n vi hn).1,(h2 n vi hn).2.2⟩
   ·cases j with
    | zero=>simp at hj
    | succ j=>exact h5 j u m' (by simpa using hj)
  | rd t m =>
   simp only[yNA] at h;split at h
   rotate_left
   ·cases h
   rename_i q' hq;obtain⟨h1,h2,h3,h4,h5⟩:=up hq;cases h;refine⟨by simp[h1],fun n vi hn=>?_,fun o cs ho=>?_,noM (by simp) h4,fun j u m' hj=>?_⟩
   ·by_cases hni:i=n
    ·subst hni;rw[zIA] at hn;cases hn
     exact⟨Nat.le_refl _,.rd t m,t,by simp,.inr (.inr ⟨m,rfl,rfl⟩)⟩
    ·rw[zHA hni] at hn;exact⟨(h2 n vi hn).1,(h2 n vi hn).2.2⟩
   ·by_cases hni:i=o
    ·subst hni;rw[zIA] at ho;cases ho
     exact⟨Nat.le_refl _,t,m,by simp,rfl⟩
    ·rw[zHA hni] at ho;exact⟨(h3 o cs ho).1,(h3 o cs ho).2.2⟩
   ·cases j with
    | zero=>simp at hj;obtain⟨rfl,rfl⟩:=hj;simp[yTA,yLA]
    | succ j=>rw[zHA (by omega)];exact h5 j u m' (by simpa using hj)
theorem xZF{ok:Nat->Prop}{w:World}:∀ {ks:List AK} {vs:List Value} {ds:List D},ArgsOk P ok w ks vs ds->vs.length=ks.length/\ds.length=ks.length
 | _,_,_,.nil=>⟨rfl,rfl⟩
 | _,_,_,.cons _ hs=>by obtain⟨h1,h2⟩:=xZF hs;exact⟨by simp[h1],by simp[h2]⟩
theorem qFE{ok:Nat->Prop}{w:World}:∀ {ks:List AK} {vs:List Value} {ds:List D},ArgsOk P ok w ks vs ds -> ∀(i:Nat) (k:AK),ks[i]? = some k -> ∃v d,vs[i]? = some v/\ds[i]? = some d/\ArgOk P ok w k v d
 | _,_,_,.nil,i,k,h=>by simp at h
 | _,_,_,.cons (v:=v) (d:=d) h hs,i,k,hi=>by
  cases i with
  | zero=>simp at hi;subst hi;exact⟨v,d,rfl,rfl,h⟩
  | succ i =>
   obtain⟨v',d',e1,e2,e3⟩:=qFE hs i k (by simpa using hi);exact⟨v',d',by simpa using e1,by simpa using e2,e3⟩
theorem xOJ{w:World}:∀ {ks:List AK} {vs:List Value} {b:Nat},Wr w ks vs b ↔ ∃(i:Nat) (k:AK) (v:Value),ks[i]? = some k/\vs[i]? = some v/\wrA w k v b
 | [],vs,b=>by simp[Wr]
 | k::ks,[],b=>by simp[Wr]
 | k::ks,v::vs,b=>by
  simp only[Wr];constructor
  ·rintro(h|h)
   ·exact⟨0,k,v,rfl,rfl,h⟩
   ·obtain⟨i,k',v',h1,h2,h3⟩:=xOJ.1 h;exact⟨i+1,k',v',by simpa using h1,by simpa using h2,h3⟩
  ·rintro⟨i,k',v',h1,h2,h3⟩;cases i with
   | zero=>simp at h1 h2;subst h1;subst h2;exact .inl h3
   | succ i=>exact .inr (xOJ.2 ⟨i,k',v',by simpa using h1,by simpa using h2,h3⟩)
def startB(ok:Nat->Prop)(w:World)(ks:List AK)(vs:List Value):Base:=⟨w,Wr w ks vs,fun b=>b<w.heap.size /\ ¬ok b /\ ¬Wr w ks vs b⟩
def yKH(w:World)(ks:List AK)(vs:List Value)(i:Nat):Value :=
 match ks[i]?,vs[i]? with
 | some (.rd _ _),some (.pointer (some a))=>(w.cell? ⟨a.block,a.off,none⟩).getD undef
 | _,some v=>v
 | _,_=>undef
def qRA(ok:Nat->Prop)(w:World)(ks:List AK)(vs:List Value):Gh:={ rv:=yKH w ks vs,rb:=fun i=>match vs[i]? with|some (.pointer (some a))=>a.block|_=>0,rh:=fun _=>(0,0),ex:=fun b=>b<w.heap.size /\ ¬ok b /\ ¬Wr w ks vs b }
theorem xJB{w:World}{ks:List AK}{vs:List Value}{i:Nat}{k:AK}{v:Value}(hk:ks[i]? = some k)(hv:vs[i]? = some v)(hn:∀t m,k ≠ .rd t m):yKH w ks vs i=v:=by
 unfold yKH;rw[hk,hv];cases k with
 | rd t m=>exact absurd rfl (hn t m)
 | _=>rfl
theorem yLH{w:World}{ks:List AK}{vs:List Value}{i b:Nat}{t:TypeId}{m:Bool}{ty:TypeId}{u v:Value}(hk:ks[i]? = some (.rd t m))(hv:vs[i]? = some (.pointer (some ⟨b,0,none⟩)))(hh:w.heap[b]? = some (.cells #[v,u] ty (0,0))):yKH w ks vs i=v:=by
 unfold yKH;rw[hk,hv];simp[World.cell?,hh]
theorem qLB{ok:Nat->Prop}{w:World}{g:Gh}{vs:List Value}{ds:List D}:∀ {ks:List AK} {i:Nat} {q:Sa},yNA P i ks=some q->(∀(j:Nat) (k:AK),ks[j]? = some k -> ∃v d,vs[i+j]? = some v/\ds[i+j]? = some d/\ArgOk P ok w k v d/\(match k with | .rd _ _=>∀b,v = .pointer (some ⟨b,0,none⟩)->g.rb (i+j)=b|_=>g.rv (i+j)=v)) ->
  dens X ds g q.as=(List.range' i ks.length).map (fun j=>vs.getD j undef)/\oks X ds q.as
 | [],i,q,hq,_=>by simp only[yNA,Option.some.injEq] at hq;subst hq;exact⟨by simp[dens],trivial⟩
 | .val t::ks,i,q,hq,h=>by
  obtain⟨v,d,e1,e2,e3,e4⟩:=h 0 (.val t) (by simp);rw[Nat.add_zero] at e1 e2 e4;simp only at e4;simp only[yNA] at hq;split at hq
  rotate_left
  ·cases hq
  rename_i q' td hq' hu;obtain⟨k1,k2⟩:=qLB (vs:=vs) (ds:=ds) (ok:=ok) (w:=w) (g:=g) hq' (fun j k hj=>by
   have:=h (j+1) k (by simpa using hj)
   rwa [show i+(j+1)=i+1+j by omega] at this)
  have hv:vs.getD i undef=v:=by simp[List.getD,e1]
  have hde:(DE.v i).eval X ds=d:=by simp[DE.eval,List.getD,e2]
  have hr:Rep P ok w t v d:=by cases e3 with|val hr=>exact hr
  split at hq
  ·cases hq
   have:=zDE (X:=X) (J:=ds) (g:=g) (P:=P) i (t:=t) (de:=.v i) (v:=v) (by rw[hde];exact hr) e4
   refine⟨?_,this.2,k2⟩;simp only[dens,List.length_cons,List.range'_succ,List.map_cons];rw[this.1,k1,hv]
  ·cases hq;refine⟨?_,trivial,k2⟩;simp only[dens,SV.den,List.length_cons,List.range'_succ,List.map_cons];rw[k1,e4,hv]
 | .own t::ks,i,q,hq,h=>by
  obtain⟨v,d,e1,e2,e3,e4⟩:=h 0 (.own t) (by simp);rw[Nat.add_zero] at e1 e2 e4;simp only at e4;simp only[yNA] at hq;split at hq
  rotate_left
  ·cases hq
  rename_i q' hq';obtain⟨k1,k2⟩:=qLB (vs:=vs) (ds:=ds) (ok:=ok) (w:=w) (g:=g) hq' (fun j k hj=>by
   have:=h (j+1) k (by simpa using hj)
   rwa [show i+(j+1)=i+1+j by omega] at this)
  have hv:vs.getD i undef=v:=by simp[List.getD,e1]
  cases hq;refine⟨?_,trivial,k2⟩;simp only[dens,SV.den,List.length_cons,List.range'_succ,List.map_cons];rw[k1,e4,hv]
 | .rd t m::ks,i,q,hq,h=>by
  obtain⟨v,d,e1,e2,e3,e4⟩:=h 0 (.rd t m) (by simp);rw[Nat.add_zero] at e1 e2 e4;simp only at e4;simp only[yNA] at hq;split at hq
  rotate_left
  ·cases hq
  rename_i q' hq';obtain⟨k1,k2⟩:=qLB (vs:=vs) (ds:=ds) (ok:=ok) (w:=w) (g:=g) hq' (fun j k hj=>by
   have:=h (j+1) k (by simpa using hj)
   rwa [show i+(j+1)=i+1+j by omega] at this)
  have hv:vs.getD i undef=v:=by simp[List.getD,e1]
  cases hq;refine⟨?_,trivial,k2⟩;cases e3 with
  | rd hh ht h1 hwf hr =>
   simp only[dens,SV.den,List.length_cons,List.range'_succ,List.map_cons];rw[k1,hv,e4 _ rfl]
 | .mcell _ _::ks,i,q,hq,h=>by simp[yNA] at hq
 | .wcell _ _::ks,i,q,hq,h=>by simp[yNA] at hq
 | .ccell _ _ _::ks,i,q,hq,h=>by simp[yNA] at hq
theorem yMH{ok:Nat->Prop}{w:World}{ks:List AK}{vs:List Value}{ds:List D}{nt:Nat}{q:Sa}(hq:yNA P 0 ks=some q)(ho:owns ks<=1)(hnt:ks.length<=nt)
  (h:ArgsOk P ok w ks vs ds) (hok:∀b,ok b->b<w.heap.size /\ ¬Wr w ks vs b)  (hgl:GlOk X (startB ok w ks vs)):
  Mem P X (startB ok w ks vs) ds (yGC ks.length q nt) (qRA ok w ks vs) w/\Env X ds (yGC ks.length q nt) (qRA ok w ks vs) { tmps:=vs.toArray++Array.replicate (nt-vs.toArray.size) undef,defers:=[] }:=by
 obtain⟨h1,h2⟩:=xZF h;have h3:=qFE h;obtain⟨hql,hlk,hlo,hnm,_⟩:=zAD hq;have hlk0:∀n vi,lk n q.vs=some vi->(∃t v d,ks[n]? = some (.val t)/\vi=⟨.set t,.v n⟩/\vs[n]? = some v/\(qRA ok w ks vs).rv n=v/\ds[n]? = some d/\Rep P ok w t v d)∨(∃t v d,ks[n]? = some (.own t)/\vi=⟨.own t,.v n⟩/\vs[n]? = some v/\(qRA ok w ks vs).rv n=v/\ds[n]? = some d/\yRA P ok w t v d) ∨
   (∃t m v d,vi=⟨.set t,srcE m n⟩/\(qRA ok w ks vs).rv n=v/\ds[n]? = some d/\Rep P ok w t v (rdSD m d)):=fun n vi hn=>by
  obtain⟨_,k,t,k1,k2⟩:=hlk n vi hn;rw[Nat.sub_zero] at k1;obtain⟨v,d,e1,e2,e3⟩:=h3 n _ k1;rcases k2 with⟨rfl,rfl⟩|⟨rfl,rfl⟩|⟨m,rfl,rfl⟩
  ·cases e3 with|val hr=>exact .inl ⟨t,v,d,k1,rfl,e1,xJB k1 e1 (by simp),e2,hr⟩
  ·cases e3 with|own hr=>exact .inr (.inl ⟨t,v,d,k1,rfl,e1,xJB k1 e1 (by simp),e2,hr⟩)
  ·cases e3 with|rd hh ht hone hwf hr=>exact .inr (.inr ⟨t,m,_,d,rfl,yLH k1 e1 hh,e2,hr⟩)
 have hlo0:∀o cs,lk o q.os=some cs -> ∃t b ty v m d,ks[o]? = some (.rd t m)/\vs[o]? = some (.pointer (some ⟨b,0,none⟩))/\cs=[.x o,.b (badE m (.v o))]/\(ds[o]? = some d/\rdWf m d)/\w.heap[b]? = some (.cells #[v,.bool (rdBD m d)] ty (0,0))/\v.oneCell'=true/\(qRA ok w ks vs).rb o=b/\(qRA ok w ks vs).rv o=v:=fun o cs hc=>by
  obtain⟨_,t,m,k1,k2⟩:=hlo o cs hc;rw[Nat.sub_zero] at k1;obtain⟨v,d,e1,e2,e3⟩:=h3 o _ k1;cases e3 with
  | rd hh ht hone hwf hr=>exact⟨t,_,_,_,m,d,k1,e1,k2,⟨e2,hwf⟩,hh,hone,by simp[qRA,e1],yLH k1 e1 hh⟩
 have hact:∀b,Actv (yGC ks.length q nt) (qRA ok w ks vs) b->Wr w ks vs b:=by
  rintro b (⟨o,cs,h4,h5⟩|⟨n,vi,h4,h5⟩)
  ·obtain⟨t,b',ty,v,m,d,k1,k2,k3,kd,k4,k5,k6,k7⟩:=hlo0 o cs h4;rw[k6] at h5;subst h5
   exact xOJ.2 ⟨o,_,_,k1,k2,rfl⟩
  ·rcases hlk0 n vi h4 with⟨t,v,d,k1,rfl,k3,k4,k5⟩|⟨t,v,d,k1,rfl,k3,k4,k5⟩|⟨t,m,v,d,rfl,k4,k5⟩
   ·simp[zFA] at h5
   ·rw[k4] at h5;exact xOJ.2 ⟨n,_,v,k1,k3,h5⟩
   ·simp[zFA] at h5
 have hokS:∀b,ok b->okOf (yGC ks.length q nt) (qRA ok w ks vs) w b:=fun b hb=>⟨(hok b hb).1,fun e=>(hok b hb).2 (hact b e),fun e=>e.2.1 hb⟩
 have hde:∀n d,ds[n]? = some d->(DE.v n).eval X ds=d:=fun n d hd=>by simp[DE.eval,List.getD,hd]
 have hvo:∀n vi b,lk n q.vs=some vi->zFA vi.vt ((qRA ok w ks vs).rv n)=some b -> ∃t,ks[n]? = some (.own t):=fun n vi b hn hb=>by
  rcases hlk0 n vi hn with⟨t,v,d,k1,rfl,k3⟩|⟨t,v,d,k1,rfl,k3⟩|⟨t,m,v,d,rfl,k3⟩
  ·simp[zFA] at hb
  ·exact⟨t,k1⟩
  ·simp[zFA] at hb
 refine⟨⟨fun n vi hn=>?_,fun o cs hc=>?_,fun o o' c c' hc hc' _=>?_,fun n m vi vj b h4 h5 h6 h7=>?_,fun o n c vi hc hn hb=>?_,fun b hb=>.inr (hact b hb),fun l hl=>by simp[yGC] at hl,Fr.refl _ w,by simp[yGC,h2],⟨fun b hb=>⟨hb.1,hb.2.2⟩,fun b hb=>hb⟩,hgl⟩,⟨fun s sv hs=>?_,rfl,by simp[yGC];omega⟩⟩
 ·rcases hlk0 n vi hn with⟨t,v,d,k1,rfl,k3,k4,k5,k6⟩|⟨t,v,d,k1,rfl,k3,k4,k5,k6⟩|⟨t,m,v,d,rfl,k4,k5,k6⟩
  ·simp only[qUA];rw[k4,hde n d k5];exact k6.mono hokS (fun _ _=>rfl)
  ·simp only[qUA];rw[k4,hde n d k5];exact k6.mono hokS (fun _ _=>rfl) (fun _ _=>rfl)
  ·simp only[qUA];have hse:(srcE m n).eval X ds=rdSD m d:=by
    cases m with
    | false=>exact hde n d k5
    | true=>show ((DE.v n).eval X ds).cells.getD 1 .nil=_;rw[hde n d k5];rfl
   rw[k4,hse];exact k6.mono hokS (fun _ _=>rfl)
 ·obtain⟨t,b',ty,v,m,d,k1,k2,rfl,⟨kd1,kd2⟩,k4,k5,k6,k7⟩:=hlo0 o cs hc;have hbe:(badE m (.v o)).eval X ds = .bool (rdBD m d):=by
   cases m with
   | false=>rfl
   | true =>
    obtain⟨bb,hbb⟩:=kd2 rfl;show ((DE.v o).eval X ds).cells.getD 2 .nil=_;rw[hde o d kd1,rdBD,hbb];rfl
  refine⟨⟨ty,?_⟩,?_,trivial,⟨_,hbe⟩,trivial⟩
  ·rw[k6,k4];simp only[dens,SV.den,k7,hbe,D.asBool]
  ·intro u hu;simp only[dens,SV.den,k7,List.mem_cons,List.not_mem_nil,or_false] at hu;rcases hu with rfl|rfl
   ·exact k5
   ·rfl
 ·obtain⟨t,_,_,_,_,_,k1,_⟩:=hlo0 o c hc;obtain⟨t',_,_,_,_,_,k1',_⟩:=hlo0 o' c' hc';exact zSD ho k1 k1' rfl rfl
 ·obtain⟨t1,e1⟩:=hvo n vi b h4 h6;obtain⟨t2,e2⟩:=hvo m vj b h5 h7;exact zSD ho e1 e2 rfl rfl
 ·obtain⟨t,_,_,_,_,_,k1,_⟩:=hlo0 o c hc;obtain⟨t2,e2⟩:=hvo n vi _ hn hb
  have:=zSD ho k1 e2 rfl rfl
  subst this;rw[k1] at e2;cases e2
 ·obtain⟨k1,k2⟩:=qLB (X:=X) (ok:=ok) (w:=w) (g:=qRA ok w ks vs) (vs:=vs) (ds:=ds) hq (fun j k hj=>by
   rw[Nat.zero_add];obtain⟨v,d,e1,e2,e3⟩:=h3 j k hj;refine⟨v,d,e1,e2,e3,?_⟩;cases k with
   | rd t m=>intro b hb;subst hb;simp[qRA,e1]
   | val t=>exact xJB hj e1 (by simp)
   | own t=>exact xJB hj e1 (by simp)
   | mcell t m=>exact xJB hj e1 (by simp)
   | wcell t m=>exact xJB hj e1 (by simp)
   | ccell gs o t=>exact xJB hj e1 (by simp))
  obtain⟨_,hs'⟩:=xUD q.as 0 s sv hs;rw[Nat.sub_zero] at hs';have hlt:s<ks.length:=by rw[<- hql];exact(List.getElem?_eq_some_iff.1 hs').1
  refine⟨?_,yHA.1 k2 sv (List.mem_of_getElem? hs')⟩;have h5:(dens X ds (qRA ok w ks vs) q.as)[s]? = some (sv.den X ds (qRA ok w ks vs)):=by rw[zRA,List.getElem?_map,hs'];rfl
  rw[k1,List.getElem?_map,List.getElem?_range' hlt] at h5;simp only[Option.map_some,Option.some.injEq,Nat.zero_add,Nat.one_mul] at h5;rw[<- h5];simp only;rw[Array.getElem?_append_left (by simp;omega),List.getElem?_toArray,List.getD_eq_getElem?_getD,List.getElem?_eq_getElem (by omega)];rfl
theorem zTF{as:List AK}{k:RK}{rs:List ResultVar}:∀ {outs:List Out} {ds:List (List (DE×Bool)×DE)},xEK P as k rs outs=some ds -> ∀o∈outs,∃d,outD P as k rs o=some d/\d∈ds
 | [],ds,h,o,ho=>by cases ho
 | p::r,ds,h,o,ho=>by
  simp only[xEK] at h;split at h
  ·rename_i d ds' h1 h2;cases h;rcases List.mem_cons.1 ho with rfl|ho
   ·exact⟨d,h1,by simp⟩
   ·obtain⟨d',k1,k2⟩:=zTF h2 o ho;exact⟨d',k1,List.mem_cons_of_mem _ k2⟩
  ·cases h
theorem yRA.u8{ok ok':Nat->Prop}{w:World}{t e:TypeId}{v:Value}{d:D}(h:yRA P ok w t v d)(hu:P.underlying t=some (.slice e))(h8:isU8 P e=true):yRA P ok' w t v d:=by
 obtain⟨e',i,n,xs,hu',hi,hown,hD⟩:=h;rw[hu] at hu';cases hu'
 have he8:P.underlying e=some (.int .u8):=by
  unfold isU8 at h8;split at h8
  ·assumption
  ·cases h8
 refine⟨e,i,n,xs,hu,hi,hown,?_⟩;cases hD with
 | nil hv=>exact .nil hv
 | bytes hv he hs=>exact .bytes hv he hs
 | list hv he=>exact absurd he8 he
theorem zMG{w0:Base}{s:St}{g:Gh}{w:World}(h:Mem P X w0 J s g w){t:TypeId}{r:SV}{d:DE}(hr:r.ok X J)(hd:retV P s t r=some d) :
  Rep P (fun b=>okOf (settle s r) g w b ∨ ∃o cs,r = .oa o 0/\lk o s.objs=some cs/\(b=g.rb o∨okOf (settles s cs) g w b)) w t (r.den X J g) (d.eval X J):=by
 unfold retV at hd;split at hd
 ·rename_i d' hs;cases hd;exact(yYA (Mem.settle r h).1 hr hs).mono (fun b hb=>.inl hb) (fun _ _=>rfl)
 ·split at hd
  rotate_left
  ·cases hd
  rename_i o _;split at hd
  rotate_left
  ·cases hd
  rename_i cs ho;unfold ptrK at hd;split at hd
  rotate_left
  ·cases hd
  rename_i e hu;split at hd
  rotate_left
  ·cases hd
  rename_i v hg;obtain⟨d2,hd2,rfl⟩:=Option.map_eq_some_iff.1 hd;have hob:=h.ob o cs ho;have hS:=(Mem.settles cs h).1;obtain⟨dd,i,hue,hi,hlen,hden,hok⟩:=qZA hS hob.2.2 hg;have hrep:=yYA hS hok hd2;rw[zEA];show Rep P _ w t (.pointer (some ⟨g.rb o,0,none⟩)) (.ptr (d2.eval X J));refine .ptr hu (.inr ⟨o,cs,rfl,ho,.inl rfl⟩) ?_ (hrep.mono (fun b hb=>.inr ⟨o,cs,rfl,ho,.inr hb⟩) (fun _ _=>rfl));have hc:=hob.cells
  have:(v.den X J g).cells.toList=dens X J g cs:=by
   rw[hden];cases ha:zGA dd with
   | true=>rfl
   | false =>
    rw[ha] at hlen;simp only[bfZ,if_false] at hlen ⊢;have h1:=(hrep.notAgg hue ha).1;rw[hden,ha] at h1;simp only[bfZ,if_false] at h1;rw[h1]
    match hcs:cs,hlen with
    | [x],_=>rfl
  rw[this];exact hc
theorem xTK{s:St}{g:Gh}{t:TypeId}{r:SV}{d:DE}(hd:retO P s t r=some d):∀b,(r.den X J g).ownBlock=some b->Actv s g b:=by
 intro b hb;unfold retO at hd;split at hd
 ·rename_i n;split at hd
  ·rename_i u d3 hn;exact .inr ⟨n,_,hn,hb⟩
  ·cases hd
 ·simp[SV.den,CV.den,Value.ownBlock] at hb
 ·cases hd
theorem zLG{w0:Base}{s:St}{g:Gh}{w:World}(h:Mem P X w0 J s g w){t:TypeId}{r:SV}{d:DE}(hd:retO P s t r=some d):yRA P (okOf s g w) w t (r.den X J g) (d.eval X J):=by
 unfold retO at hd;split at hd
 ·rename_i n;split at hd
  ·rename_i u d3 hn;split at hd
   ·rename_i hut;cases hd;subst hut;exact h.va n _ hn
   ·cases hd
  ·cases hd
 ·split at hd
  ·rename_i hso;cases hd;obtain⟨e,i,hu,hi⟩:=zPB hso;exact yRA.nilv hu hi
  ·cases hd
 ·cases hd
theorem zPI(s:St)(r:SV):(settle s r).objs=s.objs:=(zGB s r).2.1
theorem ret_ok{ok:Nat->Prop}{w w':World}{c:Ctr}{vs:List Value}{ds:List D}{s:St}{g':Gh}{q:Sa}{nt:Nat}(hm:Mem P X (startB ok w c.args vs) ds s g' w')(hoo:zFG P c=true)(hq:yNA P 0 c.args=some q)
  (hA:ArgsOk P ok w c.args vs ds) (hx:Ext (yGC c.args.length q nt) (qRA ok w c.args vs) s g') {l:List SV} (hl:(tupS l).ok X ds) {d:DE} (hd:retD P s c.args c.res l=some d) (hbad:∀t,c.res = .rd t false->(d.eval X ds).cells.getD 2 .nil = .bool false) :
  yOB P ok w w' c vs ((tupS l).den X ds g') (d.eval X ds):=by
 obtain⟨_,_,_,hnm,hob0⟩:=zAD hq;have hexb:∀b,b<w.heap.size -> ¬g'.ex b->ok b∨Wr w c.args vs b:=fun b hb hne=>by
  by_cases h1:ok b
  ·exact .inl h1
  ·by_cases h2:Wr w c.args vs b
   ·exact .inr h2
   ·exact absurd (hm.ex.2 b ⟨hb,h1,h2⟩) hne
 have hwr0:owns c.args=0 -> ∀b,¬Wr w c.args vs b:=fun hz b h3=>by
  obtain⟨i,k,v,e1,e2,e3⟩:=xOJ.1 h3
  have:=qRD hz e1
  cases k with
  | own t'=>simp[zAF] at this
  | rd t'=>simp[zAF] at this
  | val t'=>exact e3.elim
  | mcell t' m=>exact e3.elim
  | wcell t' m=>exact(hnm i t' m).2.1 e1
  | ccell gs m t'=>exact(hnm i t' m).2.2 gs e1
 have hval:∀(r:SV) (t:TypeId) (d:DE),r.ok X ds->retV P s t r=some d->owns c.args=0 -> ∀ok':Nat->Prop,(∀b,ok b->ok' b)->(∀b,w.heap.size<=b->b<w'.heap.size->ok' b)->Rep P ok' w' t (r.den X ds g') (d.eval X ds):=fun r t d hr hd hz ok' h1 h2=>by
  refine(zMG hm hr hd).mono (fun b hb=>?_) (fun _ _=>rfl);have hb':b<w'.heap.size /\ ¬g'.ex b:=by
   rcases hb with hb|⟨o,cs,_,ho,rfl|hb⟩
   ·exact⟨hb.1,hb.2.2⟩
   ·exact⟨(hm.ob o cs ho).lt,hm.notEx (.inl ⟨o,cs,ho,rfl⟩)⟩
   ·exact⟨hb.1,hb.2.2⟩
  by_cases hlt:b<w.heap.size
  ·rcases hexb b hlt hb'.2 with h3|h3
   ·exact h1 b h3
   ·exact absurd h3 (hwr0 hz b)
  ·exact h2 b (by omega) hb'.1
 have hown:∀(r:SV) (t:TypeId) (d:DE),retO P s t r=some d->(owns c.args=0 ∨ ∃e,P.underlying t=some (.slice e)/\isU8 P e=true)->(∀b,(r.den X ds g').ownBlock=some b->(w.heap.size<=b∨Wr w c.args vs b)/\b<w'.heap.size) /\
   ∀ok':Nat->Prop,(∀b,ok b->ok' b)->(∀b,w.heap.size<=b->b<w'.heap.size->(r.den X ds g').ownBlock≠some b->ok' b)->yRA P ok' w' t (r.den X ds g') (d.eval X ds):=fun r t d hd hz=>by
  have hkeep:=xTK (X:=X) (J:=ds) (g:=g') hd;refine⟨fun b hb=>⟨hm.lo b (hkeep b hb),hm.act_lt (hkeep b hb)⟩,fun ok' h1 h2=>?_⟩;rcases hz with hz|⟨e,hu,h8⟩
  ·refine(zLG hm hd).mono (fun b hb=>?_) (fun _ _=>rfl) (fun _ _=>rfl);by_cases hlt:b<w.heap.size
   ·rcases hexb b hlt hb.2.2 with h3|h3
    ·exact h1 b h3
    ·exact absurd h3 (hwr0 hz b)
   ·exact h2 b (by omega) hb.1 (fun e=>hb.2.1 (hkeep b e))
  ·exact(zLG hm hd).u8 hu h8
 unfold zFG at hoo;unfold retD at hd;split at hd
 ·split at hd
  ·rename_i hct;unfold yOB;rw[hct];rfl
  ·cases hd
 ·rename_i r;have hr:r.ok X ds:=hl;split at hd
  ·rename_i t hct;unfold yOB;rw[hct] at hoo ⊢;simp only[beq_iff_eq] at hoo ⊢;exact hval r t d hr hd hoo
  ·rename_i t hct;unfold yOB;rw[hct] at hoo ⊢;simp only[Bool.or_eq_true,baZ,beq_iff_eq] at hoo ⊢;refine hown r t d hd ?_;rcases hoo with hz|⟨_,h8⟩
   ·exact .inl hz
   ·split at h8
    ·rename_i e hu;exact .inr ⟨e,hu,h8⟩
    ·cases h8
  ·rename_i t m hct;unfold yOB;have hb:m=false->_:=fun h=>hbad t (by rw[hct,h])
   rw[hct] at hoo ⊢;simp only[beq_iff_eq] at hoo ⊢;unfold retR at hd;split at hd
   rotate_left
   ·cases hd
   rename_i i tb m' hrd;have hi:=(xMK hrd).2;rw[Nat.sub_zero] at hi;split at hd
   rotate_left
   ·cases hd
   rename_i hmm;subst hmm;split at hd
   rotate_left
   ·cases hd
   rename_i d1 x e hd1 hos;split at hd
   rotate_left
   ·cases hd
   rename_i hno;split at hd
   rotate_left
   ·cases hd
   rename_i d2 hd2;cases hd;obtain⟨v,dv,e1,e2,e3⟩:=qFE hA i _ hi;have hos0:=hob0 i tb m hi;rw[Nat.zero_add] at hos0;have hrb:=(hx.rb i _ hos0).2;cases e3 with
   | rd hh ht hone hwf0 hrr =>
    rename_i b ty v0;have hrbi:g'.rb i=b:=by rw[hrb];simp[qRA,e1]
    obtain⟨⟨ty',hh'⟩,_,hok1,hok2,_⟩:=hm.ob i _ hos;obtain⟨bb,hbb⟩:=hok2;have hev:((DE.f .mkrow [d1,d2,e]).eval X ds) = .row [d1.eval X ds,d2.eval X ds,e.eval X ds]:=by simp[DE.eval,zDA,Fn.eval]
    rw[hev] at hb ⊢;have hb:e.eval X ds = .bool (rdBD m (.row [d1.eval X ds,d2.eval X ds,e.eval X ds])):=by
     cases m with
     | false=>exact hb rfl
     | true=>rw[hbb];rfl
    have hrdb:∀b',Wr w c.args vs b'->b'=g'.rb i:=fun b' h3=>by
     obtain⟨j,k,v',f1,f2,f3⟩:=xOJ.1 h3;cases k with
     | own t' =>
      have:=zSD (by omega) f1 hi rfl rfl
      subst this;rw[hi] at f1;cases f1
     | rd t' m' =>
      have:=zSD (by omega) f1 hi rfl rfl
      subst this;rw[e1] at f2;cases f2
      rw[hrbi];exact f3
     | val t'=>exact f3.elim
     | mcell t' m=>exact f3.elim
     | wcell t' m=>exact((hnm j t' m).2.1 f1).elim
     | ccell gs m t'=>exact((hnm j t' m).2.2 gs f1).elim
    have hact:Actv (settle s r) g' (g'.rb i):=.inl ⟨i,_,by rw[zPI];exact hos,rfl⟩;refine⟨b,ty',tb,x.den X ds g',⟨i,hi,by rw[e1]⟩,?_,fun _=>⟨bb,hbb⟩,fun ok' h1 h2=>⟨?_,?_⟩⟩
    ·rw[<- hrbi,hh'];have hb':(e.eval X ds).asBool=rdBD m (.row [d1.eval X ds,d2.eval X ds,e.eval X ds]):=congrArg D.asBool hb;simp only[dens,SV.den,hb']
    ·refine(zMG hm hr hd1).mono (fun b' hb'=>?_) (fun _ _=>rfl);have hne:b'≠g'.rb i:=by
      rcases hb' with hb'|⟨o,cs,rfl,ho,rfl|hb'⟩
      ·exact fun e=>hb'.2.1 (e▸hact)
      rotate_left
      ·exact fun e=>hb'.2.1 (e▸(.inl ⟨i,_,by rw[(qBA s cs).2.1];exact hos,rfl⟩))
      ·intro e
       have:=hm.oo o i cs _ ho hos e
       subst this;simp[notO] at hno
     have hb2:b'<w'.heap.size /\ ¬g'.ex b':=by
      rcases hb' with hb'|⟨o,cs,_,ho,rfl|hb'⟩
      ·exact⟨hb'.1,hb'.2.2⟩
      rotate_left
      ·exact⟨hb'.1,hb'.2.2⟩
      ·exact⟨(hm.ob o cs ho).lt,hm.notEx (.inl ⟨o,cs,ho,rfl⟩)⟩
     by_cases hlt:b'<w.heap.size
     ·rcases hexb b' hlt hb2.2 with h3|h3
      ·exact h1 b' h3
      ·exact absurd (hrdb b' h3) hne
     ·exact h2 b' (by omega) hb2.1
    ·refine(yYA (Mem.settle r hm).1 hok1 hd2).mono (fun b' hb'=>?_) (fun _ _=>rfl);by_cases hlt:b'<w.heap.size
     ·rcases hexb b' hlt hb'.2.2 with h3|h3
      ·exact h1 b' h3
      ·exact absurd (hrdb b' h3) (fun e=>hb'.2.1 (e▸hact))
     ·exact h2 b' (by omega) hb'.1
  ·cases hd
 ·rename_i r;have hr:r.ok X ds:=hl.1;have hden:(tupS [r,SV.b (.k (.bool true))]).den X ds g' = .tuple #[r.den X ds g',.bool true]:=by simp[tupS,SV.den,dens,DE.eval,D.asBool]
  rw[hden];split at hd
  ·rename_i t hct;unfold yOB;rw[hct] at hoo ⊢;simp only[beq_iff_eq] at hoo ⊢;exact⟨_,rfl,hval r t d hr hd hoo⟩
  ·rename_i t hct;unfold yOB;rw[hct] at hoo ⊢;simp only[beq_iff_eq] at hoo ⊢;exact⟨_,rfl,hown r t d hd (.inl hoo)⟩
  ·rename_i t hct;split at hd
   ·rename_i d0 hd0;cases hd;unfold yOB;rw[hct] at hoo ⊢;simp only[beq_iff_eq] at hoo ⊢;exact⟨_,true,rfl,rfl,hval r t d0 hr hd0 hoo⟩
   ·cases hd
  ·cases hd
 ·rename_i r e _;have hr:r.ok X ds:=hl.1;obtain⟨b,hb⟩:(SV.b e).ok X ds:=hl.2.1;have hden:(tupS [r,SV.b e]).den X ds g' = .tuple #[r.den X ds g',.bool b]:=by simp[tupS,SV.den,dens,hb,D.asBool]
  rw[hden];split at hd
  ·rename_i t hct;split at hd
   ·rename_i d0 hd0;cases hd;unfold yOB;rw[hct] at hoo ⊢;simp only[beq_iff_eq] at hoo ⊢;refine⟨_,b,rfl,?_,hval r t d0 hr hd0 hoo⟩;show (zDA X [d0,e] ds).getD 1 .nil=_;simp[zDA,hb]
   ·cases hd
  ·cases hd
 ·cases hd
theorem xFK{c:Ctr}(hoo:zFG P c=true):owns c.args<=1:=by
 unfold zFG at hoo;split at hoo
 ·simp only[beq_iff_eq] at hoo;omega
 ·simp only[Bool.or_eq_true,baZ,beq_iff_eq] at hoo;rcases hoo with h|h <;> omega
 ·simp only[beq_iff_eq] at hoo;omega
 ·simp only[beq_iff_eq] at hoo;omega
 ·simp only[beq_iff_eq] at hoo;omega
 ·simp only[beq_iff_eq] at hoo;omega
 ·simp only[beq_iff_eq] at hoo;omega
 ·cases hoo
def xPJ(c:Ctr)(d:D):Prop:=∀t,c.res = .rd t false->d.cells.getD 2 .nil = .bool false
theorem xTB{C:Cfg}{PreG:Nat->List D->Prop}(hnm:yWA C.P)(hord:C.P.follows .mixedOrders=true)(hctr:∀f c,C.ctr f=some c->xDA C.P X Pre f c){n dp:Nat}{f:FuncId}{c:Ctr}{fn:Func}{de:DE}{os:List Ob}
  (hf:C.P.funcs[f]? = some fn) (hrun:runF C n dp c fn=some (de,os))
  (hX:∀(ok:Nat->Prop) (w:World) (vs:List Value) (ds:List D),ArgsOk C.P ok w c.args vs ds->(c.pre=true->PreG c.fn ds)->zCA X Pre os ds/\de.eval X ds=X c.fn ds/\xPJ c (X c.fn ds)):xDA C.P X PreG f c:=by
 unfold runF at hrun;split at hrun
 rotate_left
 ·cases hrun
 rename_i body q hbody hq;split at hrun
 rotate_left
 ·cases hrun
 rename_i hoc;simp only[baZ,dtZ] at hoc;obtain⟨hoo,hnt⟩:=hoc;split at hrun
 rotate_left
 ·cases hrun
 rename_i outs houts;split at hrun
 rotate_left
 ·cases hrun
 rename_i hall;split at hrun
 rotate_left
 ·cases hrun
 rename_i dl hdl;split at hrun
 rotate_left
 ·cases hrun
 rename_i d' o' htd hto;cases hrun;refine⟨⟨fn,body,hf,hbody⟩,fun ok w vs ds hA hok hRd hpre hgl=>?_⟩;obtain⟨hm,he⟩:=yMH (X:=X) hq (xFK hoo) hnt hA hok hgl;obtain⟨hob,hde,hgood⟩:=hX ok w vs ds hA hpre;have hsound:=zLE hnm hord hctr n dp;refine calls_of_wp hf hbody (zTA ?_);refine hsound.sound _ ds [body] _ outs _ w _ hm he houts (fun o ho hpc=>xMB hto hob (o.pc,o.st.obl) (List.mem_map.2 ⟨o,ho,rfl⟩) hpc) _ (fun o ho hpc g' w' a' k1 k2 k3=>?_);obtain⟨dd,hod,hdm⟩:=zTF hdl o ho;unfold outD at hod;split at hod
 rotate_left
 ·cases hod
 rename_i l hrs;obtain⟨d2,hd2,rfl⟩:=Option.map_eq_some_iff.1 hod;have hev:de.eval X ds=d2.eval X ds:=xLB htd _ hdm hpc;obtain⟨r1,r2⟩:=xDC k2 k3 hrs;have hfr:Fr (Wr w c.args vs) w w':=k2.fr;have hres:yOB C.P ok w w' c vs ((tupS l).den X ds g') (X c.fn ds):=by
  rw[<- hde,hev];exact ret_ok k2 hoo hq hA k1 r2 hd2 (fun t ht=>by rw[<- hev,hde];exact hgood t ht)
 have hpost:a'.defers=[] /\ ∃v,(results fn a'.tmps).run C.P w' = .ok v w'/\(∃v',Ending.returned v = .returned v'/\Fr (Wr w c.args vs) w w'/\yOB C.P ok w w' c vs v' (X c.fn ds)) :=
  ⟨k3.df,_,r1,_,rfl,hfr,hres⟩
 rcases xVC hall o ho with hx|hx
 ·rw[hx];exact hpost
 ·rw[hx];exact hpost
end
end Go.Dx
namespace Go.Mx
open Go Go.Dx
structure Tg where
 key:Int
 val:Option (List UInt8)
inductive T where
 | mk (n:Int) (s:Option (List UInt8)) (null:Bool) (l:Option (List T)) (u:Option (List Tg))
inductive Fl where
 | mk (kind frm to null tag dflt of:Int) (sub:Option (List Fl))
namespace T
def n:T->Int | .mk n _ _ _ _=>n
def s:T->Option (List UInt8) | .mk _ s _ _ _=>s
def null:T->Bool | .mk _ _ b _ _=>b
def l:T->Option (List T) | .mk _ _ _ l _=>l
def u:T->Option (List Tg) | .mk _ _ _ _ u=>u
def S(t:T):List UInt8:=t.s.getD []
def L(t:T):List T:=t.l.getD []
def U(t:T):List Tg:=t.u.getD []
def zero:T:=.mk 0 none false none none
end T
namespace Fl
def kind:Fl->Int | .mk k _ _ _ _ _ _ _=>k
def frm:Fl->Int | .mk _ k _ _ _ _ _ _=>k
def to:Fl->Int | .mk _ _ k _ _ _ _ _=>k
def null:Fl->Int | .mk _ _ _ k _ _ _ _=>k
def tag:Fl->Int | .mk _ _ _ _ k _ _ _=>k
def dflt:Fl->Int | .mk _ _ _ _ _ k _ _=>k
def of:Fl->Int | .mk _ _ _ _ _ _ k _=>k
def sub:Fl->Option (List Fl) | .mk _ _ _ _ _ _ _ s=>s
end Fl
def encB:Option (List UInt8)->D
 | none=>.nil
 | some s=>.bytes s
def Tg.d(t:Tg):D:=.row [.int t.key,encB t.val]
def encU:Option (List Tg)->D
 | none=>.nil
 | some l=>.list (l.map Tg.d)
mutual
def T.d:T->D
 | .mk n s b l u=>.row [.int n,encB s,.bool b,encT l,encU u]
def encT:Option (List T)->D
 | none=>.nil
 | some l=>.list (tds l)
def tds:List T->List D
 | []=>[]
 | t::r=>t.d::tds r
end
mutual
def Fl.d:Fl->D
 | .mk k f t n g d o s=>.row [.int k,.int f,.int t,.int n,.int g,.int d,.int o,encF s]
def encF:Option (List Fl)->D
 | none=>.nil
 | some l=>.list (fds l)
def fds:List Fl->List D
 | []=>[]
 | t::r=>t.d::fds r
end
theorem yGE:∀l:List T,tds l=l.map T.d
 | []=>rfl
 | t::r=>by simp[tds,yGE r]
theorem yKG:∀l:List Fl,fds l=l.map Fl.d
 | []=>rfl
 | t::r=>by simp[fds,yKG r]
def decB:D->Option (List UInt8)
 | .bytes s=>some s
 | _=>none
def toTg:D->Tg
 | .row [k,v]=>⟨k.asInt,decB v⟩
 | _=>⟨0,none⟩
def decU:D->Option (List Tg)
 | .list l=>some (l.map toTg)
 | _=>none
mutual
def toT:D->T
 | .row [n,s,b,l,u]=>.mk n.asInt (decB s) b.asBool (decT l) (decU u)
 | _=>T.zero
 termination_by d=>SizeOf.sizeOf d
def decT:D->Option (List T)
 | .list l=>some (toTl l)
 | _=>none
 termination_by d=>SizeOf.sizeOf d
def toTl:List D->List T
 | []=>[]
 | t::r=>toT t::toTl r
 termination_by d=>SizeOf.sizeOf d
end
mutual
def toF:D->Fl
 | .row [k,f,t,n,g,d,o,s]=>.mk k.asInt f.asInt t.asInt n.asInt g.asInt d.asInt o.asInt (decF s)
 | _=>.mk 0 0 0 0 0 0 0 none
 termination_by d=>SizeOf.sizeOf d
def decF:D->Option (List Fl)
 | .list l=>some (toFl l)
 | _=>none
 termination_by d=>SizeOf.sizeOf d
def toFl:List D->List Fl
 | []=>[]
 | t::r=>toF t::toFl r
 termination_by d=>SizeOf.sizeOf d
end
@[simp] theorem decB_enc (s:Option (List UInt8)):decB (encB s)=s:=by cases s <;> rfl
@[simp] theorem toTg_d (t:Tg):toTg t.d=t:=by cases t;simp[Tg.d,toTg,D.asInt]
@[simp] theorem decU_enc (u:Option (List Tg)):decU (encU u)=u:=by
 cases u with
 | none=>rfl
 | some l =>
  simp only[encU,decU,Option.some.injEq,List.map_map]
  conv=>rhs;rw[<- List.map_id l]
  apply List.map_congr_left;intro t _;simp
mutual
theorem yOA:∀t:T,toT t.d=t
 | .mk n s b l u=>by
  rw[T.d,toT,yQI l];simp[D.asInt,D.asBool]
theorem yQI:∀l:Option (List T),decT (encT l)=l
 | none=>by rw[encT,decT];intro l h;cases h
 | some l=>by rw[encT,decT,qSI l]
theorem qSI:∀l:List T,toTl (tds l)=l
 | []=>by rw[tds,toTl]
 | t::r=>by rw[tds,toTl,yOA t,qSI r]
end
mutual
theorem xPA:∀t:Fl,toF t.d=t
 | .mk k f t n g d o s=>by
  rw[Fl.d,toF,zJA s];simp[D.asInt]
theorem zJA:∀l:Option (List Fl),decF (encF l)=l
 | none=>by rw[encF,decF];intro l h;cases h
 | some l=>by rw[encF,decF,qPI l]
theorem qPI:∀l:List Fl,toFl (fds l)=l
 | []=>by rw[fds,toFl]
 | t::r=>by rw[fds,toFl,xPA t,qPI r]
end
attribute [simp] yOA yQI xPA zJA
def nz{α:Type}(l:List α):Option (List α):=match l with|[]=>none|l=>some l
def Most:Nat:=32767
def whole(s:Option (List UInt8)):Option (List UInt8):=s.map (·.take Most)
def yND(l:Option (List T)):Option (List T):=l.map (·.take Most)
def at'(t:T)(i:Int):T:=if i<t.L.length then t.L.getD i.toNat T.zero else T.zero
def has(f:Fl)(v:Int):Bool:=decide (f.frm<=v)&&(decide (f.to<0) || decide (v<=f.to))
def null(f:Fl)(v:Int)(t:T):Bool:=t.null&&(decide (0<=f.null)&&decide (f.null<=v))
def xFF(k:Int):Int:=if k=1 then 1 else if k=2∨k=5 then 2 else if k=3 then 4 else 8
def xHB(l:List Fl):Nat:=l.foldl (fun n f=>if 0<=f.tag then max n (f.tag.toNat+1) else n) 0
def yZB(x:Tg):List Tg->List Tg
 | []=>[x]
 | t::r=>if t.key<x.key then t::yZB x r else if t.key=x.key then t::r else x::t::r
def xVA(fs:List Fl)(l:Option (List Tg)):List Tg:=((l.getD []).take Most).foldl (fun out t=>if t.key<(xHB fs:Int) then out else yZB t out) []
def qSA(n:Int)(i:Nat):UInt8:=UInt8.ofNat (IntKind.u8.wrap (n.fdiv (2 ^ (8*i)))).toNat
def zSA(n:Int)(size:Nat):List UInt8:=((List.range size).reverse).map (qSA n)
def zOA(n:Nat):List UInt8:=if 127<n then UInt8.ofNat (n%128+128)::zOA (n / 128) else [UInt8.ofNat n]
 termination_by n
 decreasing_by omega
def counted(flex null:Bool)(n:Nat)(size:Nat):List UInt8 :=
 if flex&&null then [0] else if flex then zOA (n+1) else if null then zSA (-1) size else zSA n size
def xID(s:List UInt8):List UInt8:=s.take 16++List.replicate (16-s.length) 0
mutual
def zDC:Fl->T->Bool
 | .mk k _ _ nl _ df _ sub,t =>
  if k=0 then decide (t.n%2=df) else
  if k=7 then (t.S.take 16).all (· == 0) else
  if k=8∨k=9 then (if 0<=nl then t.null else t.S.length==0) else
  if k=11 then t.L.length==0 else
  if k=10 then qWI sub t else
  zSA t.n (xFF k).toNat==zSA df (xFF k).toNat
def qWI:Option (List Fl)->T->Bool
 | none,t=>(xVA [] t.u).length==0
 | some l,t=>xAE l 0 t&&(xVA l t.u).length==0
def xAE:List Fl->Nat->T->Bool
 | [],_,_=>true
 | f::r,i,t=>zDC f (at' t i)&&xAE r (i+1) t
end
def qDB(kind:Int)(null flex:Bool)(t:T)(pt:List UInt8):List UInt8 :=
 if kind=0 then [UInt8.ofNat (t.n%2).toNat] else
 if kind=7 then xID t.S else
 if kind=8 then (let s:=if null then [] else t.S.take Most;counted flex null s.length 2++s) else
 if kind=9 then (let s:=if null then [] else t.S.take Most;counted flex null s.length 4++s) else
 if kind=10 then pt else
 zSA t.n (xFF kind).toNat
def yPE(kind nl of:Int)(null flex:Bool)(t:T)(pt:T->List UInt8):List UInt8 :=
 if kind=11 then (let l:=if null then [] else t.L.take Most;counted flex null l.length 4++(l.map fun x=>qDB of false flex x (pt x)).flatten) else
 if kind=10/\0<=nl then (if null then zSA (-1) 1 else zSA 1 1++pt t) else
 qDB kind null flex t (pt t)
def tagB(k:Nat)(b:List UInt8):List UInt8:=zOA k++zOA b.length++b
def tagsB(rows:List (Fl×T×List UInt8))(n:Nat):List (List UInt8) :=
 (List.range n).flatMap fun(g:Nat)=>rows.filterMap fun r=>if r.1.tag=(g:Int)/\zDC r.1 r.2.1=false then some (tagB g r.2.2) else none
def xGK(v:Int)(flex:Bool)(fs:List Fl)(u:Option (List Tg))(rows:List (Fl×T×List UInt8)):List UInt8 :=
 let out:=(rows.map fun r=>if r.1.tag<0/\has r.1 v=true then r.2.2 else []).flatten
 if flex then
  let tags:=tagsB rows (xHB fs)++(xVA fs u).map fun x=>tagB (IntKind.u64.wrap x.key).toNat ((x.val.getD []).take Most)
  out++zOA tags.length++tags.flatten
 else out
mutual
def field:Fl->Int->Bool->T->List UInt8
 | .mk k fr to nl tg df of sub,v,flex,t=>yPE k nl of (Mx.null (.mk k fr to nl tg df of sub) v t) flex t (fun x=>zCB sub v flex x)
def zCB:Option (List Fl)->Int->Bool->T->List UInt8
 | none,v,flex,t=>xGK v flex [] t.u []
 | some l,v,flex,t=>xGK v flex l t.u (rowsL l 0 v flex t)
def rowsL:List Fl->Nat->Int->Bool->T->List (Fl×T×List UInt8)
 | [],_,_,_,_=>[]
 | f::r,i,v,flex,t=>(f,at' t i,field f v flex (at' t i))::rowsL r (i+1) v flex t
end
def qBB(kind:Int)(null:Bool)(t:T)(ft:T):T :=
 if kind=8∨kind=9 then .mk 0 (whole t.s) null none none else
 if kind=10 then .mk ft.n ft.s null ft.l ft.u else
 .mk t.n t.s false none none
mutual
def zIC:Fl->Int->T->T
 | .mk k fr to nl tg df of sub,v,t =>
  if k=11 then .mk 0 none (Mx.null (.mk k fr to nl tg df of sub) v t || (decide (0<=tg)&&t.L.length==0)) (nz ((t.L.take Most).map fun x=>qBB of false x (FitS sub v x))) none else
  qBB k (Mx.null (.mk k fr to nl tg df of sub) v t) t (FitS sub v t)
def FitS:Option (List Fl)->Int->T->T
 | none,_,t=>.mk 0 none false none (nz ((xVA [] t.u).map fun x=>⟨x.key,whole x.val⟩))
 | some l,v,t=>.mk 0 none false (nz (fitL l 0 v t)) (nz ((xVA l t.u).map fun x=>⟨x.key,whole x.val⟩))
def fitL:List Fl->Nat->Int->T->List T
 | [],_,_,_=>[]
 | f::r,i,v,t=>zIC f v (at' t i)::fitL r (i+1) v t
end
def one(f:Fl):Fl:=.mk f.of f.frm f.to (-1) (-1) f.dflt f.of f.sub
mutual
def given:T->T
 | .mk n s b l u=>.mk n s b (zQK l) (nz (u.getD []))
def zQK:Option (List T)->Option (List T)
 | none=>none
 | some l=>nz (xEI l)
def xEI:List T->List T
 | []=>[]
 | t::r=>given t::xEI r
end
theorem qOF:∀l:List T,xEI l=l.map given
 | []=>rfl
 | t::r=>by simp[xEI,qOF r]
def zIB(flex v:Int):Bool:=decide (0<=flex)&&decide (flex<=v)
def numK(k n:Int):Int :=
 if k=0 then n%2 else if k=1 then IntKind.i64.wrap (IntKind.i8.wrap n) else if k=2 then IntKind.i64.wrap (IntKind.i16.wrap n) else
 if k=3 then IntKind.i64.wrap (IntKind.i32.wrap n) else if k=5 then IntKind.i64.wrap (IntKind.u16.wrap n) else n
def all2{A B:Type}(p:A->B->Bool):List A->List B->Bool
 | a::as,b::bs=>p a b&&all2 p as bs
 | _,_=>true
mutual
def usF:Fl->T->Bool
 | .mk k _ _ nl _ df _ sub,x =>
  if k=8 then (x.null==decide (0<=nl))&&x.S.length==0 else
  if k=7 then x.S==List.replicate 16 0 else
  if k=9∨k=11 then x.S.length==0&&x.L.length==0 else
  if k=10 then (if 0<=nl then x.null else usS sub x) else
  decide (x.n=numK k df)
def usS:Option (List Fl)->T->Bool
 | none,g=>g.U.length==0
 | some l,g=>g.U.length==0&&usL l 0 g
def usL:List Fl->Nat->T->Bool
 | [],_,_=>true
 | f::r,i,g=>usF f (at' g i)&&usL r (i+1) g
end
def xRF(k:Int)(nu may:Bool)(t g:T)(pt:Bool):Bool :=
 if (k=8∨k=10∨may=true)/\(g.null==nu)=false then false else
 if nu then true else
 if k=8∨k=9 then g.S==t.S.take Most else
 if k=7 then g.S==xID t.S else
 if k=10 then pt else
 decide (g.n=numK k t.n)
def toldU(fs:List Fl)(x:Bool)(t g:T):Bool :=
 let l:=if x then xVA fs t.u else []
 g.U.length==l.length&&all2 (fun(a b:Tg)=>decide (b.key=a.key)&&(b.val.getD []==(a.val.getD []).take Most)) l g.U
mutual
def xRG:Fl->Int->Bool->T->T->Bool
 | .mk k fr to nl tg df of sub,v,x,t,g =>
  if k=11 then
   (if (decide (0<=nl)&&decide (nl<=v))=true/\(g.null==Mx.null (.mk k fr to nl tg df of sub) v t)=false then false else
   if Mx.null (.mk k fr to nl tg df of sub) v t then true else
   g.L.length==(t.L.take Most).length&&all2 (fun y z=>xRF of false false y z (xJE sub v x y z)) (t.L.take Most) g.L)
  else xRF k (Mx.null (.mk k fr to nl tg df of sub) v t) (decide (0<=nl)&&decide (nl<=v)) t g (xJE sub v x t g)
def xJE:Option (List Fl)->Int->Bool->T->T->Bool
 | none,_,x,t,g=>g.L.length==0&&toldU [] x t g
 | some l,v,x,t,g=>g.L.length==l.length&&(xQF l 0 v x t g&&toldU l x t g)
def xQF:List Fl->Nat->Int->Bool->T->T->Bool
 | [],_,_,_,_,_=>true
 | f::r,i,v,x,t,g =>
  (if (decide (f.tag<0)&&has f v || decide (0<=f.tag)&&(x && !zDC f (at' t i)))=true then xRG f v x (at' t i) (g.L.getD i T.zero) else usF f (g.L.getD i T.zero))&&xQF r (i+1) v x t g
end
def defL:List Fl->Nat->T->Bool
 | [],_,_=>true
 | f::r,i,g=>(decide (f.dflt=0) || decide ((at' g i).n=numK f.kind f.dflt))&&defL r (i+1) g
mutual
def sameT:T->T->Bool
 | .mk n s b l u,t=>decide (n=t.n)&&(b==t.null)&&(s.getD []==t.S)&&sameO l t.L&&(u.getD []).length==t.U.length&&all2 (fun(a b:Tg)=>decide (a.key=b.key)&&(a.val.getD []==b.val.getD [])) (u.getD []) t.U
def sameO:Option (List T)->List T->Bool
 | none,l=>l.length==0
 | some k,l=>sameL k l
def sameL:List T->List T->Bool
 | [],[]=>true
 | a::r,b::q=>sameT a b&&sameL r q
 | _,_=>false
end
end Go.Mx
namespace Go.Mx
open Go Go.Dx
structure Msg where
 tg:Bool
 kept:Bool
 fs:Option (List Fl)
 fx:Int
 most:Int
def startB(m:Msg)(v:Int):List UInt8:=if m.kept then zSA v 2 else []
def SrtT(l:List Tg):Prop:=l.Pairwise fun a b=>a.key<b.key
def okV(v k nl:Int)(t:T):Prop:=(k=8∨k=9)->t.S.length<=Most/\(t.null=true->0<=nl/\nl<=v)
def xAK(u:List Tg):Prop:=SrtT u/\u.length<=Most /\ ∀x∈u,0<=x.key/\x.key<4294967296/\(x.val.getD []).length<=Most
mutual
def okF(al:Bool)(v:Int):Fl->T->Prop
 | .mk k _ _ nl _ _ of sub,t=>if k=11 then t.L.length<=Most/\(t.null=true->(0<=nl/\nl<=v)∨(al=false/\t.L=[])) /\ ∀y∈t.L,okV v of (-1) y/\(of=10->okS al v sub y) else okV v k nl t/\(k=10->okS al v sub t)/\(k=10->0<=nl->t.null=true->nl<=v)
def okS(al:Bool)(v:Int):Option (List Fl)->T->Prop
 | none,t=>xAK t.U
 | some l,t=>xAK t.U/\okL al v l 0 t
def okL(al:Bool)(v:Int):List Fl->Nat->T->Prop
 | [],_,_=>True
 | f::r,i,t=>((al=true∨(f.tag<0/\has f v=true))->okF al v f (at' t i))/\okL al v r (i+1) t
end
end Go.Mx
namespace Go.Mx
open Go Go.Dx
def insM(k:Int)(d:D):List (Int×D)->List (Int×D)
 | []=>[(k,d)]
 | x::r=>if x.1<k then x::insM k d r else if x.1=k then (k,d)::r else (k,d)::x::r
def mapL:D->List (Int×D)
 | .map l=>l
 | _=>[]
def u16D(s:List UInt8):List D:=(xID s).map fun x=>.int x.toNat
def dV(k nl:Int)(t:T)(sub:List D):List D :=
 if k=0 then [.bool (decide (t.n%2=1))] else
 if k=1 then [.int (IntKind.i8.wrap t.n)] else
 if k=2 then [.int (IntKind.i16.wrap t.n)] else
 if k=3 then [.int (IntKind.i32.wrap t.n)] else
 if k=5 then [.int (IntKind.u16.wrap t.n)] else
 if k=7 then u16D t.S else
 if k=8 then (if nl<0 then [.str t.S] else [if t.null then .nil else .ptr (.str t.S)]) else
 if k=9 then [if t.null then .nil else .bytes t.S] else
 if k=10 then sub else [.int t.n]
def rowD(l:List D):D:=match l with|[a]=>a|l=>.row l
def elD(k:Int)(l:List D)(t:T):D:=if k=7 then .row (u16D t.S) else if k=10 then .row l else rowD l
def tagD(u:List Tg):D:=u.foldl (fun m x=>.map (insM x.key (encB x.val) (mapL m))) .nil
mutual
def dF(tg:Bool):Fl->T->List D
 | .mk k _ _ nl _ _ of sub,t =>
  if k=11 then [if t.null then .nil else .list (t.L.map fun y=>elD of (dV of (-1) y (dS tg sub y)) y)]
  else if k=10/\0<=nl then [if t.null then .nil else .ptr (.row (dS tg sub t))] else dV k nl t (dS tg sub t)
def dS(tg:Bool):Option (List Fl)->T->List D
 | none,t=>if tg then [tagD t.U] else []
 | some l,t=>dL tg l 0 t++(if tg then [tagD t.U] else [])
def dL(tg:Bool):List Fl->Nat->T->List D
 | [],_,_=>[]
 | f::r,i,t=>dF tg f (at' t i)++dL tg r (i+1) t
end
def S401:Option (List Fl):=some [.mk 11 0 (-1) (-1) (-1) 0 10 (some [.mk 7 0 (-1) (-1) (-1) 0 0 none,.mk 11 0 (-1) (-1) (-1) 0 3 none])]
def S402:Option (List Fl):=some [.mk 8 0 (-1) (-1) (-1) 0 0 none,.mk 3 0 (-1) (-1) (-1) 0 0 none]
def cellP(sub:Option (List Fl))(t:D):D:=if (toT t).null then .nil else .ptr (.row (dS true sub (toT t)))
def ptS(sub:Option (List Fl))(t:D):Prop:=(toT t).null=false -> ∃v,okS true v sub (toT t)
end Go.Mx
namespace Go.Mx
open Go Go.Dx
def encN(s:List UInt8):D:=match s with|[]=>.nil|s=>.bytes s
def app(o:D)(s:List UInt8):D:=.bytes (o.asStr++s)
def yXI(t:T):Bool:=decide (t.S.length<=2147483647)&&(decide (t.L.length<=2147483647)&&(decide (t.U.length<=2147483647)&&t.U.all fun x=>decide ((x.val.getD []).length<=2147483647)))
def rowBytes(d:D):List UInt8:=d.cells.map fun x=>UInt8.ofNat x.asInt.toNat
def beN(s:List UInt8):Nat:=s.foldl (fun a b=>a*256+b.toNat) 0
def uvD:List UInt8->Nat×Nat
 | []=>(0,0)
 | b::r=>if b.toNat<128 then (b.toNat,1) else (b.toNat-128+128*(uvD r).1,(uvD r).2+1)
def rI(k:IntKind)(n:Nat)(s:List UInt8):Int×List UInt8:=(k.wrap (beN (s.take n)),s.drop n)
def rUv(s:List UInt8):Nat×List UInt8:=((uvD s).1,s.drop (uvD s).2)
def rSp(l:Nat)(s:List UInt8):List UInt8×List UInt8:=(s.take l,s.drop l)
def rStr(s:List UInt8):List UInt8×List UInt8:=rSp (rI .i16 2 s).1.toNat (rI .i16 2 s).2
def ySJ(s:List UInt8):List UInt8×List UInt8:=rSp ((rUv s).1-1) (rUv s).2
def rNStr(s:List UInt8):Option (List UInt8)×List UInt8:=if (rI .i16 2 s).1<0 then (none,(rI .i16 2 s).2) else (some (rStr s).1,(rStr s).2)
def qAI(s:List UInt8):Option (List UInt8)×List UInt8:=if (rUv s).1=0 then (none,(rUv s).2) else (some (ySJ s).1,(ySJ s).2)
def rB4(s:List UInt8):List UInt8×List UInt8:=rSp (rI .i32 4 s).1.toNat (rI .i32 4 s).2
def rNB4(s:List UInt8):Option (List UInt8)×List UInt8:=if (rI .i32 4 s).1<0 then (none,(rI .i32 4 s).2) else (some (rB4 s).1,(rB4 s).2)
def rTag:Nat->List UInt8->D->D×List UInt8
 | 0,s,m=>(m,s)
 | n+1,s,m=>rTag n (rSp (rUv (rUv s).2).1 (rUv (rUv s).2).2).2 (.map (insM (rUv s).1 (.bytes (rSp (rUv (rUv s).2).1 (rUv (rUv s).2).2).1) (mapL m)))
def rTags(s:List UInt8):D×List UInt8:=rTag (rUv s).1 (rUv s).2 .nil
def rowR(v:D)(s:List UInt8):D:=.row [v,.bytes s,.bool false]
def ptrR:Option (List UInt8)->D
 | none=>.nil
 | some s=>.ptr (.str s)
def hdrB(key v num:Int)(has:Bool)(id:List UInt8)(x:Bool):List UInt8 :=
 zSA key 2++(zSA v 2++(zSA num 4++((if has then zSA id.length 2++id else zSA (-1) 2)++(if x then [0] else []))))
def zNK(key v num:Int)(has:Bool)(id:List UInt8)(x:Bool)(b:List UInt8):List UInt8 :=
 zSA ((hdrB key v num has id x++b).length:Nat) 4++(hdrB key v num has id x++b)
noncomputable def X:Nat->List D->D
 | 1,[t,i]=>(at' (toT t) i.asInt).d
 | 2,[o,b]=>app o [if b.asBool then 1 else 0]
 | 3,[o,n]=>app o (zSA n.asInt 1)
 | 4,[o,n]=>app o (zSA n.asInt 2)
 | 5,[o,n]=>app o (zSA n.asInt 2)
 | 6,[o,n]=>app o (zSA n.asInt 4)
 | 7,[o,n]=>app o (zSA n.asInt 8)
 | 8,[o,n]=>app o (zSA n.asNat 8)
 | 9,[o,r]=>app o (rowBytes r)
 | 10,[o,n]=>app o (zOA n.asInt.toNat)
 | 11,[o,s]=>app o (zSA s.len 2++s.asStr)
 | 12,[o,s]=>app o (zOA (s.len+1)++s.asStr)
 | 13,[o,p]=>app o (if p.isNil then zSA (-1) 2 else zSA p.deref.len 2++p.deref.asStr)
 | 14,[o,p]=>app o (if p.isNil then zOA 0 else zOA (p.deref.len+1)++p.deref.asStr)
 | 15,[o,s]=>app o (zSA s.len 4++s.asStr)
 | 16,[o,s]=>app o (zOA (s.len+1)++s.asStr)
 | 17,[o,s]=>app o (if s.isNil then zSA (-1) 4 else zSA s.len 4++s.asStr)
 | 18,[o,s]=>app o (if s.isNil then zOA 0 else zOA (s.len+1)++s.asStr)
 | 19,[o,n]=>app o (zSA n.asInt 4)
 | 20,[o,n]=>app o (zOA (n.asInt.toNat+1))
 | 21,[o,n,b]=>app o (if b.asBool then zSA (-1) 4 else zSA n.asInt 4)
 | 22,[o,n,b]=>app o (if b.asBool then zOA 0 else zOA (n.asInt.toNat+1))
 | 23,[m,k,v]=>.map (insM k.asInt v (mapL m))
 | 24,[m]=>.int (mapL m).length
 | 25,[m,o]=>if (mapL m).isEmpty then o else app o ((mapL m).map fun x=>tagB x.1.toNat x.2.asStr).flatten
 | 26,[t]=>if (toT t).null then .nil else .ptr (.str (toT t).S)
 | 27,[t]=>if (toT t).null then .nil else .bytes (toT t).S
 | 28,[b]=>.row ((xID b.asStr).map fun x=>.int x.toNat)
 | 29,[o,n]=>app o (zSA n.asInt 8)
 | 30,[o,n]=>app o (zSA n.asInt 4)
 | 31,[n]=>.int (zOA n.asInt.toNat).length
 | 40,[t,i]=>(at' (toT t) i.asInt).d
 | 41,[fs,u]=>encU (nz (xVA ((decF fs).getD []) (decU u)))
 | 42,[f,v,t]=>(zIC (toF f) v.asInt (toT t)).d
 | 43,[fs,v,t]=>(FitS (decF fs) v.asInt (toT t)).d
 | 44,[t]=>(given (toT t)).d
 | 45,[n,s]=>encN (zSA n.asInt s.asInt.toNat)
 | 46,[n]=>encN (zOA n.asInt.toNat)
 | 47,[fs,v,x,t]=>encN (zCB (decF fs) v.asInt x.asBool (toT t))
 | 48,[k,fs,b,v,x,t]=>encN (qDB k.asInt b.asBool x.asBool (toT t) (zCB (decF fs) v.asInt x.asBool (toT t)))
 | 49,[f,v,x,t]=>encN (field (toF f) v.asInt x.asBool (toT t))
 | 50,[f,t]=>.bool (zDC (toF f) (toT t))
 | 51,[fs]=>.int (xHB ((decF fs).getD []))
 | 52,[a,b]=>.bool (a.asStr==b.asStr)
 | 53,[x,b,n,s]=>encN (counted x.asBool b.asBool n.asInt.toNat s.asInt.toNat)
 | 54,[t]=>.bool (yXI (toT t))
 | 55,[k]=>.int (xFF k.asInt)
 | 56,[f,v,t]=>.bool (Mx.null (toF f) v.asInt (toT t))
 | 57,[f,v]=>.bool (has (toF f) v.asInt)
 | 58,[n,m]=>.int (n.asInt%(m.asInt+1))
 | 59,[.row [fs,fx],v,t]=>encN (zCB (decF fs) v.asInt (zIB fx.asInt v.asInt) (toT t))
 | 60,[.row [fs,fx],v,t]=>encN (zSA v.asInt 2++zCB (decF fs) v.asInt (zIB fx.asInt v.asInt) (toT t))
 | 61,[s]=>rowR (.bool (beN (s.asStr.take 1) != 0)) (s.asStr.drop 1)
 | 62,[s]=>rowR (.int (rI .i8 1 s.asStr).1) (rI .i8 1 s.asStr).2
 | 63,[s]=>rowR (.int (rI .i16 2 s.asStr).1) (rI .i16 2 s.asStr).2
 | 64,[s]=>rowR (.int (rI .u16 2 s.asStr).1) (rI .u16 2 s.asStr).2
 | 65,[s]=>rowR (.int (rI .i32 4 s.asStr).1) (rI .i32 4 s.asStr).2
 | 66,[s]=>rowR (.int (rI .i64 8 s.asStr).1) (rI .i64 8 s.asStr).2
 | 67,[s]=>rowR (.row ((s.asStr.take 16).map fun x=>.int x.toNat)) (s.asStr.drop 16)
 | 68,[s]=>rowR (.int (rI .u32 4 s.asStr).1) (rI .u32 4 s.asStr).2
 | 69,[s]=>rowR (.int (rI .u64 8 s.asStr).1) (rI .u64 8 s.asStr).2
 | 70,[s]=>rowR (.int (rUv s.asStr).1) (rUv s.asStr).2
 | 71,[s,l]=>rowR (.bytes (rSp l.asInt.toNat s.asStr).1) (rSp l.asInt.toNat s.asStr).2
 | 72,[s]=>rowR (.str (rStr s.asStr).1) (rStr s.asStr).2
 | 73,[s]=>rowR (.str (ySJ s.asStr).1) (ySJ s.asStr).2
 | 74,[s]=>rowR (ptrR (rNStr s.asStr).1) (rNStr s.asStr).2
 | 75,[s]=>rowR (ptrR (qAI s.asStr).1) (qAI s.asStr).2
 | 76,[s]=>rowR (.bytes (rB4 s.asStr).1) (rB4 s.asStr).2
 | 77,[s]=>rowR (.bytes (ySJ s.asStr).1) (ySJ s.asStr).2
 | 78,[s]=>rowR (encB (rNB4 s.asStr).1) (rNB4 s.asStr).2
 | 79,[s]=>rowR (encB (qAI s.asStr).1) (qAI s.asStr).2
 | 80,[s]=>rowR (.int (rI .i32 4 s.asStr).1) (rI .i32 4 s.asStr).2
 | 81,[s]=>rowR (.int ((rUv s.asStr).1-1:Int)) (rUv s.asStr).2
 | 82,[s]=>rowR (.row [(rTags s.asStr).1]) (rTags s.asStr).2
 | 86,[_,s]=>.int (beN (s.asStr.take 8))
 | 87,[_,s]=>.int (beN (s.asStr.take 4))
 | 100,[_,t]=>app .nil (zSA (at' (toT t) 0).S.length 2++(at' (toT t) 0).S)
 | 300,[m,u]=>if (mapL m).isEmpty then u else u.appd (.list ((mapL m).map fun x=>.row [.int x.1,D.appd .nil x.2]))
 | 303,[fs,v,x,t,g]=>.bool (xJE (decF fs) v.asInt x.asBool (toT t) (toT g))
 | 304,[f,v,x,t,g]=>.bool (xRG (toF f) v.asInt x.asBool (toT t) (toT g))
 | 305,[fs,g]=>.bool (usS (decF fs) (toT g))
 | 306,[k,n]=>.int (numK k.asInt n.asInt)
 | 307,[fs,g]=>.bool (defL ((decF fs).getD []) 0 (toT g))
 | 308,[a,b]=>.bool (sameT (toT a) (toT b))
 | 401,[t]=>cellP S401 t
 | 402,[t]=>cellP S402 t
 | 309,[k,v,n,h,i,x,b]=>.bytes (zNK k.asInt v.asInt n.asInt h.asBool i.asStr x.asBool b.asStr)
 | 200,_=>.bool true
 | _,_=>.nil
theorem X_309(k v n h i x b:D):X 309 [k,v,n,h,i,x,b] = .bytes (zNK k.asInt v.asInt n.asInt h.asBool i.asStr x.asBool b.asStr):=rfl
theorem X_300(m u:D):X 300 [m,u]=if (mapL m).isEmpty then u else u.appd (.list ((mapL m).map fun x=>.row [.int x.1,D.appd .nil x.2])):=rfl
theorem X_303(fs v x t g:D):X 303 [fs,v,x,t,g] = .bool (xJE (decF fs) v.asInt x.asBool (toT t) (toT g)):=rfl
theorem X_304(f v x t g:D):X 304 [f,v,x,t,g] = .bool (xRG (toF f) v.asInt x.asBool (toT t) (toT g)):=rfl
theorem X_305(fs g:D):X 305 [fs,g] = .bool (usS (decF fs) (toT g)):=rfl
theorem X_306(k n:D):X 306 [k,n] = .int (numK k.asInt n.asInt):=rfl
theorem X_307(fs g:D):X 307 [fs,g] = .bool (defL ((decF fs).getD []) 0 (toT g)):=rfl
theorem X_308(a b:D):X 308 [a,b] = .bool (sameT (toT a) (toT b)):=rfl
theorem X_2(o b:D):X 2 [o,b]=app o [if b.asBool then 1 else 0]:=rfl
theorem X_3(o n:D):X 3 [o,n]=app o (zSA n.asInt 1):=rfl
theorem X_4(o n:D):X 4 [o,n]=app o (zSA n.asInt 2):=rfl
theorem X_5(o n:D):X 5 [o,n]=app o (zSA n.asInt 2):=rfl
theorem X_6(o n:D):X 6 [o,n]=app o (zSA n.asInt 4):=rfl
theorem X_7(o n:D):X 7 [o,n]=app o (zSA n.asInt 8):=rfl
theorem X_10(o n:D):X 10 [o,n]=app o (zOA n.asInt.toNat):=rfl
theorem X_11(o s:D):X 11 [o,s]=app o (zSA s.len 2++s.asStr):=rfl
theorem X_12(o s:D):X 12 [o,s]=app o (zOA (s.len+1)++s.asStr):=rfl
theorem X_13(o p:D):X 13 [o,p]=app o (if p.isNil then zSA (-1) 2 else zSA p.deref.len 2++p.deref.asStr):=rfl
theorem X_14(o p:D):X 14 [o,p]=app o (if p.isNil then zOA 0 else zOA (p.deref.len+1)++p.deref.asStr):=rfl
theorem X_15(o s:D):X 15 [o,s]=app o (zSA s.len 4++s.asStr):=rfl
theorem X_16(o s:D):X 16 [o,s]=app o (zOA (s.len+1)++s.asStr):=rfl
theorem X_17(o s:D):X 17 [o,s]=app o (if s.isNil then zSA (-1) 4 else zSA s.len 4++s.asStr):=rfl
theorem X_18(o s:D):X 18 [o,s]=app o (if s.isNil then zOA 0 else zOA (s.len+1)++s.asStr):=rfl
theorem X_19(o n:D):X 19 [o,n]=app o (zSA n.asInt 4):=rfl
theorem X_20(o n:D):X 20 [o,n]=app o (zOA (n.asInt.toNat+1)):=rfl
theorem X_21(o n b:D):X 21 [o,n,b]=app o (if b.asBool then zSA (-1) 4 else zSA n.asInt 4):=rfl
theorem X_22(o n b:D):X 22 [o,n,b]=app o (if b.asBool then zOA 0 else zOA (n.asInt.toNat+1)):=rfl
theorem X_23(m k v:D):X 23 [m,k,v] = .map (insM k.asInt v (mapL m)):=rfl
theorem X_26(t:D):X 26 [t]=if (toT t).null then .nil else .ptr (.str (toT t).S):=rfl
theorem X_27(t:D):X 27 [t]=if (toT t).null then .nil else .bytes (toT t).S:=rfl
theorem X_29(o n:D):X 29 [o,n]=app o (zSA n.asInt 8):=rfl
theorem X_30(o n:D):X 30 [o,n]=app o (zSA n.asInt 4):=rfl
theorem X_31(n:D):X 31 [n] = .int (zOA n.asInt.toNat).length:=rfl
theorem X_40(t i:D):X 40 [t,i]=(at' (toT t) i.asInt).d:=rfl
theorem X_41(fs u:D):X 41 [fs,u]=encU (nz (xVA ((decF fs).getD []) (decU u))):=rfl
theorem X_42(f v t:D):X 42 [f,v,t]=(zIC (toF f) v.asInt (toT t)).d:=rfl
theorem X_43(fs v t:D):X 43 [fs,v,t]=(FitS (decF fs) v.asInt (toT t)).d:=rfl
theorem X_44(t:D):X 44 [t]=(given (toT t)).d:=rfl
theorem X_45(n s:D):X 45 [n,s]=encN (zSA n.asInt s.asInt.toNat):=rfl
theorem X_46(n:D):X 46 [n]=encN (zOA n.asInt.toNat):=rfl
theorem X_47(fs v x t:D):X 47 [fs,v,x,t]=encN (zCB (decF fs) v.asInt x.asBool (toT t)):=rfl
theorem X_48(k fs b v x t:D):X 48 [k,fs,b,v,x,t]=encN (qDB k.asInt b.asBool x.asBool (toT t) (zCB (decF fs) v.asInt x.asBool (toT t))):=rfl
theorem X_49(f v x t:D):X 49 [f,v,x,t]=encN (field (toF f) v.asInt x.asBool (toT t)):=rfl
theorem X_50(f t:D):X 50 [f,t] = .bool (zDC (toF f) (toT t)):=rfl
theorem X_51(fs:D):X 51 [fs] = .int (xHB ((decF fs).getD [])):=rfl
theorem X_52(a b:D):X 52 [a,b] = .bool (a.asStr==b.asStr):=rfl
theorem X_53(x b n s:D):X 53 [x,b,n,s]=encN (counted x.asBool b.asBool n.asInt.toNat s.asInt.toNat):=rfl
theorem X_54(t:D):X 54 [t] = .bool (yXI (toT t)):=rfl
theorem X_55(k:D):X 55 [k] = .int (xFF k.asInt):=rfl
theorem X_56(f v t:D):X 56 [f,v,t] = .bool (Mx.null (toF f) v.asInt (toT t)):=rfl
theorem X_57(f v:D):X 57 [f,v] = .bool (has (toF f) v.asInt):=rfl
theorem X_58(n m:D):X 58 [n,m] = .int (n.asInt%(m.asInt+1)):=rfl
theorem X_59(fs fx v t:D):X 59 [.row [fs,fx],v,t]=encN (zCB (decF fs) v.asInt (zIB fx.asInt v.asInt) (toT t)):=rfl
theorem X_60(fs fx v t:D):X 60 [.row [fs,fx],v,t]=encN (zSA v.asInt 2++zCB (decF fs) v.asInt (zIB fx.asInt v.asInt) (toT t)):=rfl
theorem X_86(z s:D):X 86 [z,s] = .int (beN (s.asStr.take 8)):=rfl
theorem X_87(z s:D):X 87 [z,s] = .int (beN (s.asStr.take 4)):=rfl
def xNA{A S:Type}(f:Nat->A->S->S):Nat->List A->S->S
 | _,[],s=>s
 | i,a::r,s=>xNA f (i+1) r (f i a s)
theorem qVE{A S:Type}(f:A->S->S):∀(l:List A) (i:Nat) (s:S),xNA (fun _ a s=>f a s) i l s=l.foldl (fun s a=>f a s) s
 | [],_,_=>rfl
 | a::l,i,s=>by simp only[xNA,List.foldl];exact qVE f l (i+1) _
section
variable {Y:Nat->List D->D}
theorem yGA(k:IntKind)(a:Int):Fn.eval Y (.wrap k) [.int a] = .int (k.wrap a):=rfl
theorem xLC(k:IntKind)(a b:Int):Fn.eval Y (.add k) [.int a,.int b] = .int (k.wrap (a+b)):=rfl
theorem zGK(k:IntKind)(a b:Int):Fn.eval Y (.sub k) [.int a,.int b] = .int (k.wrap (a-b)):=rfl
theorem qBD(k:IntKind)(a b:Int):Fn.eval Y (.shr k) [.int a,.int b] = .int (shrI a b k):=rfl
theorem yGB(a b:Int):Fn.eval Y .eqI [.int a,.int b] = .bool (a==b):=rfl
theorem yCD(a b:Int):Fn.eval Y .neI [.int a,.int b] = .bool (a != b):=rfl
theorem yYB(a b:Int):Fn.eval Y .ltI [.int a,.int b] = .bool (decide (a<b)):=rfl
theorem zHC(a b:Int):Fn.eval Y .leI [.int a,.int b] = .bool (decide (a<=b)):=rfl
theorem xMC(a:Bool):Fn.eval Y .not [.bool a] = .bool (!a):=rfl
theorem zUA(c:Bool)(a b:D):Fn.eval Y .ite [.bool c,a,b]=if c then a else b:=rfl
theorem zMA(j:Nat)(a:D):Fn.eval Y (.get j) [a]=a.cells.getD j .nil:=rfl
theorem yDA(a:D):Fn.eval Y .len [a] = .int a.len:=rfl
theorem qAD(a:D):Fn.eval Y .isNil [a] = .bool a.isNil:=rfl
theorem qFA(l:List D):Fn.eval Y .mkrow l = .row l:=by cases l with|nil=>rfl|cons a l=>cases l with|nil=>rfl|cons b l=>cases l with|nil=>rfl|cons c l=>rfl
theorem qHA(l:List D):Fn.eval Y .mklist l = .list l:=by cases l with|nil=>rfl|cons a l=>cases l with|nil=>rfl|cons b l=>cases l with|nil=>rfl|cons c l=>rfl
theorem yPA(a b:D):Fn.eval Y .app [a,b]=a.appd b:=rfl
theorem xKF(a:D)(i:Int):Fn.eval Y .at [a,.int i]=a.rows.getD i.toNat .nil:=rfl
theorem yBB(a:D)(i:Int):Fn.eval Y .take [a,.int i]=a.takeD i.toNat:=rfl
theorem zNA(n:Nat)(l:List D):Fn.eval Y (.ext n) l=Y n l:=by cases l with|nil=>rfl|cons a l=>cases l with|nil=>rfl|cons b l=>cases l with|nil=>rfl|cons c l=>rfl
theorem xHA(a b:Int):Fn.eval Y .imin [.int a,.int b] = .int (min a b):=by
 show D.int (if b<a then b else a)=_;by_cases h:b<a
 ·rw[if_pos h];congr 1;omega
 ·rw[if_neg h];congr 1;omega
theorem zFK(a b:Int):Fn.eval Y .imax [.int a,.int b] = .int (max a b):=by
 show D.int (if b>a then b else a)=_;by_cases h:b>a
 ·rw[if_pos h];congr 1;omega
 ·rw[if_neg h];congr 1;omega
theorem ev_v(i:Nat)(J:List D):(DE.v i).eval Y J=J.getD i .nil:=rfl
theorem ev_k(d:D)(J:List D):(DE.k d).eval Y J=d:=rfl
theorem ev_f(n:Dx.Fn)(l:List DE)(J:List D):(DE.f n l).eval Y J=Fn.eval Y n (zDA Y l J):=rfl
theorem zBA(J:List D):zDA Y [] J=[]:=rfl
theorem zAA(a:DE)(l:List DE)(J:List D):zDA Y (a::l) J=a.eval Y J::zDA Y l J:=rfl
theorem zVA(b:Bool):(D.bool b).asBool=b:=rfl
theorem zLA(b:Int):(D.int b).asInt=b:=rfl
end
theorem yPB(a:List UInt8)(d:D)(h:d = .nil ∨ ∃s,d = .bytes s∨d = .str s):(encN a).appd d=encN (a++d.asStr):=by
 rcases h with rfl|⟨s,rfl|rfl⟩
 ·cases a <;> simp[encN,D.appd,D.asStr]
 ·cases a with
  | nil=>cases s <;> simp[encN,D.appd,D.asStr]
  | cons x a=>simp[encN,D.appd,D.asStr]
 ·cases a with
  | nil=>cases s <;> simp[encN,D.appd,D.asStr]
  | cons x a=>simp[encN,D.appd,D.asStr]
theorem xBB(a:List UInt8):(encN a).asStr=a:=by cases a <;> rfl
theorem yZA(a:Option (List UInt8)):(encB a).asStr=a.getD []:=by cases a <;> rfl
theorem yEA(a:Option (List UInt8)):(encB a).len=(a.getD []).length:=by cases a <;> rfl
theorem xKA(a:List UInt8):(encN a).len=a.length:=by cases a <;> rfl
theorem xEA(a:Option (List T)):(encT a).len=(a.getD []).length:=by cases a <;> simp[encT,D.len,yGE]
theorem xFA(a:Option (List Tg)):(encU a).len=(a.getD []).length:=by cases a <;> simp[encU,D.len]
theorem yFC(a:Option (List T)):(encT a).rows=(a.getD []).map T.d:=by cases a <;> simp[encT,D.rows,yGE]
theorem qAB(a:Option (List Tg)):(encU a).rows=(a.getD []).map Tg.d:=by cases a <;> simp[encU,D.rows]
theorem xZB(a:Option (List Fl)):(encF a).rows=(a.getD []).map Fl.d:=by cases a <;> simp[encF,D.rows,yKG]
theorem yJF(a:Option (List UInt8)):(encB a).rows=(a.getD []).map (fun x=>D.int x.toNat):=by cases a <;> rfl
theorem zWA(t:T):t.d.cells=[.int t.n,encB t.s,.bool t.null,encT t.l,encU t.u]:=by cases t;simp[T.d,D.cells,T.n,T.s,T.null,T.l,T.u]
theorem qTA(t:Tg):t.d.cells=[.int t.key,encB t.val]:=rfl
theorem yBA(f:Fl):f.d.cells=[.int f.kind,.int f.frm,.int f.to,.int f.null,.int f.tag,.int f.dflt,.int f.of,encF f.sub]:=by cases f;simp[Fl.d,D.cells,Fl.kind,Fl.frm,Fl.to,Fl.null,Fl.tag,Fl.dflt,Fl.of,Fl.sub]
theorem xEJ(a:Option (List UInt8))(n:Nat):(encB a).takeD n=encB (a.map (·.take n)):=by cases a <;> rfl
theorem xFJ(a:Option (List T))(n:Nat):(encT a).takeD n=encT (a.map (·.take n)):=by cases a <;> simp[encT,D.takeD,yGE]
theorem xGJ(a:Option (List Tg))(n:Nat):(encU a).takeD n=encU (a.map (·.take n)):=by cases a <;> simp[encU,D.takeD]
end Go.Mx
namespace Go.Mx
open Go Go.Dx
inductive A where
 | any
 | nil
 | int (lo hi:Int)
 | bool
 | str (n:Nat)
 | oct (n:Nat)
 | list (n:Nat) (e:A)
 | row (l:List A)
 | opt (e:A)
 | map (n m:Nat)
 | bot
 deriving Inhabited
def keyOk(x:Int×D):Prop:=0<=x.1/\x.1<4294967296
mutual
def A.g:A->D->Prop
 | .any,_=>True
 | .bot,_=>False
 | .nil,d=>d = .nil
 | .int lo hi,d=>∃n,d = .int n/\lo<=n/\n<=hi
 | .bool,d=>∃b,d = .bool b
 | .str n,d=>d = .nil ∨ ∃s,d = .str s/\s.length<=n
 | .oct n,d=>d = .nil ∨ ∃s,d = .bytes s/\s.length<=n
 | .list n e,d=>d = .nil ∨ ∃l,d = .list l/\l.length<=n /\ ∀x∈l,e.g x
 | .row l,d=>∃ds,d = .row ds/\A.gs l ds
 | .opt e,d=>d = .nil ∨ ∃x,d = .ptr x/\e.g x
 | .map n m,d=>d = .nil ∨ ∃l:List (Int×D),d = .map l/\l.length<=n/\(l.map (·.1)).Pairwise (· < ·)/\(∀x∈l,keyOk x) /\ ∀x∈l,x.2 = .nil ∨ ∃s,x.2 = .bytes s/\s.length<=m
def A.gs:List A->List D->Prop
 | [],ds=>ds=[]
 | a::as1,ds=>∃d r,ds=d::r/\a.g d/\A.gs as1 r
end
mutual
def A.le:A->A->Bool
 | _,.any=>true
 | .bot,_=>true
 | .nil,.nil=>true
 | .nil,.str _=>true
 | .nil,.oct _=>true
 | .nil,.list _ _=>true
 | .nil,.opt _=>true
 | .nil,.map _ _=>true
 | .int a b,.int c d=>decide (c<=a)&&decide (b<=d)
 | .bool,.bool=>true
 | .str n,.str m=>decide (n<=m)
 | .oct n,.oct m=>decide (n<=m)
 | .list n e,.list m f=>decide (n<=m)&&e.le f
 | .row l,.row m=>A.les l m
 | .opt e,.opt f=>e.le f
 | .map n m,.map n' m'=>decide (n<=n')&&decide (m<=m')
 | _,_=>false
def A.les:List A->List A->Bool
 | [],[]=>true
 | a::as1,b::bs=>a.le b&&A.les as1 bs
 | _,_=>false
end
mutual
theorem A.le_ok:∀ {a b:A} {d:D},a.le b=true->a.g d->b.g d
 | .any,b,d,h,hd=>by cases b <;> simp_all [A.le,A.g]
 | .bot,b,d,h,hd=>by cases hd
 | .nil,b,d,h,hd=>by cases b <;> simp_all [A.le,A.g]
 | .int lo hi,b,d,h,hd=>by
  cases b <;> simp only[A.le,baZ,dtZ,bfZ] at h
  ·trivial
  ·obtain⟨n,rfl,h1,h2⟩:=hd;exact⟨n,rfl,by omega,by omega⟩
 | .bool,b,d,h,hd=>by cases b <;> simp_all [A.le,A.g]
 | .str n,b,d,h,hd=>by
  cases b <;> simp only[A.le,dtZ,bfZ] at h
  ·trivial
  ·rcases hd with rfl|⟨s,rfl,h1⟩
   ·exact .inl rfl
   ·exact .inr ⟨s,rfl,by omega⟩
 | .oct n,b,d,h,hd=>by
  cases b <;> simp only[A.le,dtZ,bfZ] at h
  ·trivial
  ·rcases hd with rfl|⟨s,rfl,h1⟩
   ·exact .inl rfl
   ·exact .inr ⟨s,rfl,by omega⟩
 | .list n e,b,d,h,hd=>by
  cases b <;> simp only[A.le,baZ,dtZ,bfZ] at h
  ·trivial
  ·rcases hd with rfl|⟨s,rfl,h1,h2⟩
   ·exact .inl rfl
   ·exact .inr ⟨s,rfl,by omega,fun x hx=>A.le_ok h.2 (h2 x hx)⟩
 | .row l,b,d,h,hd=>by
  cases b <;> simp only[A.le,bfZ] at h
  ·trivial
  ·obtain⟨ds,rfl,h1⟩:=hd;exact⟨ds,rfl,A.les_ok h h1⟩
 | .opt e,b,d,h,hd=>by
  cases b <;> simp only[A.le,bfZ] at h
  ·trivial
  ·rcases hd with rfl|⟨x,rfl,h1⟩
   ·exact .inl rfl
   ·exact .inr ⟨x,rfl,A.le_ok h h1⟩
 | .map n m,b,d,h,hd=>by
  cases b <;> simp only[A.le,baZ,dtZ,bfZ] at h
  ·trivial
  ·rcases hd with rfl|⟨l,rfl,h1,h2,h3,h4⟩
   ·exact .inl rfl
   ·exact .inr ⟨l,rfl,by omega,h2,h3,fun x hx=>(h4 x hx).imp id fun⟨s,e,hs⟩=>⟨s,e,by omega⟩⟩
theorem A.les_ok:∀ {a b:List A} {d:List D},A.les a b=true->A.gs a d->A.gs b d
 | [],b,d,h,hd=>by
  cases b
  ·exact hd
  ·simp[A.les] at h
 | x::xs,b,d,h,hd=>by
  cases b with
  | nil=>simp[A.les] at h
  | cons y ys =>
   simp only[A.les,baZ] at h;obtain⟨e,r,rfl,h1,h2⟩:=hd;exact⟨e,r,rfl,A.le_ok h.1 h1,A.les_ok h.2 h2⟩
end
mutual
def A.join:A->A->A
 | .bot,b=>b
 | .any,_=>.any
 | .nil,b=>match b with | .bot=>.nil | .nil=>.nil | .str n=>.str n | .oct n=>.oct n | .list n e=>.list n e | .opt e=>.opt e | .map n m=>.map n m|_=>.any
 | .int a b,c=>match c with | .bot=>.int a b | .int c d=>.int (min a c) (max b d)|_=>.any
 | .bool,c=>match c with | .bot=>.bool | .bool=>.bool|_=>.any
 | .str n,c=>match c with | .bot=>.str n | .nil=>.str n | .str m=>.str (max n m)|_=>.any
 | .oct n,c=>match c with | .bot=>.oct n | .nil=>.oct n | .oct m=>.oct (max n m)|_=>.any
 | .list n e,c=>match c with | .bot=>.list n e | .nil=>.list n e | .list m f=>.list (max n m) (e.join f)|_=>.any
 | .row l,c=>match c with | .bot=>.row l | .row m=>if l.length=m.length then .row (A.joins l m) else .any|_=>.any
 | .opt e,c=>match c with | .bot=>.opt e | .nil=>.opt e | .opt f=>.opt (e.join f)|_=>.any
 | .map n m,c=>match c with | .bot=>.map n m | .nil=>.map n m | .map n' m'=>.map (max n n') (max m m')|_=>.any
def A.joins:List A->List A->List A
 | a::as1,b::bs=>a.join b::A.joins as1 bs
 | _,_=>[]
end
mutual
theorem A.join_l:∀ {a b:A} {d:D},a.g d->(a.join b).g d
 | .any,b,d,h=>by simp only[A.join];trivial
 | .bot,b,d,h=>by cases h
 | .nil,b,d,h=>by cases h;cases b <;> simp[A.join,A.g]
 | .int lo hi,b,d,h=>by
  obtain⟨n,rfl,h1,h2⟩:=h;cases b <;> simp only[A.join] <;> first|trivial|exact⟨n,rfl,by omega,by omega⟩
 | .bool,b,d,h=>by cases b <;> simp only[A.join] <;> first|trivial|exact h
 | .str n,b,d,h=>by
  cases b <;> simp only[A.join] <;> first|trivial|exact h|(rcases h with rfl|⟨s,rfl,h1⟩ <;> first|exact .inl rfl|exact .inr ⟨s,rfl,by omega⟩)
 | .oct n,b,d,h=>by
  cases b <;> simp only[A.join] <;> first|trivial|exact h|(rcases h with rfl|⟨s,rfl,h1⟩ <;> first|exact .inl rfl|exact .inr ⟨s,rfl,by omega⟩)
 | .list n e,b,d,h=>by
  cases b <;> simp only[A.join] <;> first|trivial|exact h|(rcases h with rfl|⟨s,rfl,h1,h2⟩ <;> first|exact .inl rfl|exact .inr ⟨s,rfl,by omega,fun x hx=>A.join_l (h2 x hx)⟩)
 | .row l,b,d,h=>by
  obtain⟨ds,rfl,h1⟩:=h;cases b <;> simp only[A.join] <;> first|trivial|exact⟨ds,rfl,h1⟩|skip
  split
  ·rename_i he;exact⟨ds,rfl,A.joins_l he h1⟩
  ·trivial
 | .opt e,b,d,h=>by
  cases b <;> simp only[A.join] <;> first|trivial|exact h|(rcases h with rfl|⟨x,rfl,h1⟩ <;> first|exact .inl rfl|exact .inr ⟨x,rfl,A.join_l h1⟩)
 | .map n m,b,d,h=>by
  cases b <;> simp only[A.join] <;> first|trivial|exact h|(rcases h with rfl|⟨l,rfl,h1,h2,h3,h4⟩ <;> first|exact .inl rfl|exact .inr ⟨l,rfl,by omega,h2,h3,fun x hx=>(h4 x hx).imp id fun⟨s,e,hs⟩=>⟨s,e,by omega⟩⟩)
theorem A.joins_l:∀ {a b:List A} {d:List D},a.length=b.length->A.gs a d->A.gs (A.joins a b) d
 | [],b,d,he,h=>by cases b;exact h;simp at he
 | x::xs,b,d,he,h=>by
  cases b with
  | nil=>simp at he
  | cons y ys =>
   obtain⟨e,r,rfl,h1,h2⟩:=h;exact⟨e,r,rfl,A.join_l h1,A.joins_l (by simpa using he) h2⟩
end
mutual
theorem A.join_r:∀ {a b:A} {d:D},b.g d->(a.join b).g d
 | .any,b,d,h=>by simp only[A.join];trivial
 | .bot,b,d,h=>by simp only[A.join];exact h
 | .nil,b,d,h=>by cases b <;> simp only[A.join] <;> first|trivial|exact h|cases h
 | .int lo hi,b,d,h=>by
  cases b <;> simp only[A.join] <;> first|trivial|(cases h;done)|(obtain⟨n,rfl,h1,h2⟩:=h;exact⟨n,rfl,by omega,by omega⟩)
 | .bool,b,d,h=>by cases b <;> simp only[A.join] <;> first|trivial|exact h|cases h
 | .str n,b,d,h=>by
  cases b <;> simp only[A.join] <;> first|trivial|(cases h;done)|exact .inl h|(rcases h with rfl|⟨s,rfl,h1⟩ <;> first|exact .inl rfl|exact .inr ⟨s,rfl,by omega⟩)
 | .oct n,b,d,h=>by
  cases b <;> simp only[A.join] <;> first|trivial|(cases h;done)|exact .inl h|(rcases h with rfl|⟨s,rfl,h1⟩ <;> first|exact .inl rfl|exact .inr ⟨s,rfl,by omega⟩)
 | .list n e,b,d,h=>by
  cases b <;> simp only[A.join] <;> first|trivial|(cases h;done)|exact .inl h|(rcases h with rfl|⟨s,rfl,h1,h2⟩ <;> first|exact .inl rfl|exact .inr ⟨s,rfl,by omega,fun x hx=>A.join_r (h2 x hx)⟩)
 | .row l,b,d,h=>by
  cases b <;> simp only[A.join] <;> first|trivial|(cases h;done)|skip
  obtain⟨ds,rfl,h1⟩:=h;split
  ·rename_i he;exact⟨ds,rfl,A.joins_r he h1⟩
  ·trivial
 | .opt e,b,d,h=>by
  cases b <;> simp only[A.join] <;> first|trivial|(cases h;done)|exact .inl h|(rcases h with rfl|⟨x,rfl,h1⟩ <;> first|exact .inl rfl|exact .inr ⟨x,rfl,A.join_r h1⟩)
 | .map n m,b,d,h=>by
  cases b <;> simp only[A.join] <;> first|trivial|(cases h;done)|exact .inl h|(rcases h with rfl|⟨l,rfl,h1,h2,h3,h4⟩ <;> first|exact .inl rfl|exact .inr ⟨l,rfl,by omega,h2,h3,fun x hx=>(h4 x hx).imp id fun⟨s,e,hs⟩=>⟨s,e,by omega⟩⟩)
theorem A.joins_r:∀ {a b:List A} {d:List D},a.length=b.length->A.gs b d->A.gs (A.joins a b) d
 | [],b,d,he,h=>by cases b;exact h;simp at he
 | x::xs,b,d,he,h=>by
  cases b with
  | nil=>simp at he
  | cons y ys =>
   obtain⟨e,r,rfl,h1,h2⟩:=h;exact⟨e,r,rfl,A.join_r h1,A.joins_r (by simpa using he) h2⟩
end
theorem ySE:∀ {as1:List A} {ds:List D},A.gs as1 ds->as1.length=ds.length
 | [],_,h=>by cases h;rfl
 | a::as1,_,h=>by obtain⟨d,r,rfl,_,h2⟩:=h;simp[ySE h2]
theorem gs_get:∀ {as1:List A} {ds:List D} {i:Nat},A.gs as1 ds->(as1.getD i .any).g (ds.getD i .nil)
 | [],_,i,h=>by cases h;simp[A.g]
 | a::as1,_,i,h=>by
  obtain⟨d,r,rfl,h1,h2⟩:=h;cases i with
  | zero=>simpa using h1
  | succ i=>simpa using gs_get (i:=i) h2
theorem qHD:∀ {as1 bs:List A} {ds es:List D},A.gs as1 ds->A.gs bs es->A.gs (as1++bs) (ds++es)
 | [],_,_,_,h,k=>by cases h;exact k
 | a::as1,_,_,_,h,k=>by
  obtain⟨d,r,rfl,h1,h2⟩:=h;exact⟨d,r++_,rfl,h1,qHD h2 k⟩
theorem zSK:∀ {as1:List A} {ds:List D} (n:Nat),A.gs as1 ds->A.gs (as1.take n) (ds.take n)
 | [],_,n,h=>by cases h;simp[A.gs]
 | a::as1,_,n,h=>by
  obtain⟨d,r,rfl,h1,h2⟩:=h;cases n with
  | zero=>simp[A.gs]
  | succ n=>exact⟨d,r.take n,rfl,h1,zSK n h2⟩
theorem zRK:∀ {as1:List A} {ds:List D} (n:Nat),A.gs as1 ds->A.gs (as1.drop n) (ds.drop n)
 | [],_,n,h=>by cases h;simp[A.gs]
 | a::as1,_,n,h=>by
  obtain⟨d,r,rfl,h1,h2⟩:=h;cases n with
  | zero=>exact⟨d,r,rfl,h1,h2⟩
  | succ n=>exact zRK n h2
end Go.Mx
namespace Go.Mx
open Go Go.Dx
def kR(k:IntKind):A:=.int k.min k.max
def lenA:A->Option Nat
 | .nil=>some 0
 | .str n=>some n
 | .oct n=>some n
 | .list n _=>some n
 | .map n _=>some n
 | .int _ _=>some 0
 | .bool=>some 0
 | .row _=>some 0
 | .opt _=>some 0
 | _=>none
def octL:A->Option Nat
 | .nil=>some 0
 | .str n=>some n
 | .oct n=>some n
 | _=>none
def qDG:A->Option (List A)
 | .row l=>some l
 | .any=>none
 | .bot=>none
 | a=>some [a]
def yXG:List A->A
 | []=>.bot
 | a::as1=>a.join (yXG as1)
def appA':A->A->A
 | .nil,.nil=>.nil
 | .nil,.oct m=>.oct m
 | .nil,.str m=>.oct m
 | .nil,.list m f=>.list m f
 | .oct n,.nil=>.oct n
 | .oct n,.oct m=>.oct (n+m)
 | .oct n,.str m=>.oct (n+m)
 | .list n e,.nil=>.list n e
 | .list n e,.list m f=>.list (n+m) (e.join f)
 | _,_=>.any
def getA(j:Nat):A->A
 | .row l=>l.getD j .nil
 | .any=>.any
 | .bot=>.any
 | a=>if j=0 then a else .nil
def nzA:A->A
 | .nil=>.nil
 | .str n=>.str n
 | .oct n=>.oct n
 | .list n e=>.list n e
 | .opt e=>.opt e
 | .map n m=>.map n m
 | _=>.any
def putA(off:Nat)(x e:A):A :=
 match e,qDG x with
 | .row l,some xs=>if off+xs.length<=l.length then .row (A.joins l (l.take off++xs++l.drop (off+xs.length))) else .any
 | _,_=>.any
def absF(E:Nat->List A->A):Dx.Fn->List A->A
 | .wrap k,[a]=>match a with
  | .int lo hi=>if k.min<=lo/\hi<=k.max then .int lo hi else kR k
  | _=>kR k
 | .add k,[_,_]=>kR k
 | .sub k,[_,_]=>kR k
 | .mul k,[_,_]=>kR k
 | .band k,[_,_]=>kR k
 | .bor k,[_,_]=>kR k
 | .bxor k,[_,_]=>kR k
 | .shl k,[_,_]=>kR k
 | .tquo k,[_,_]=>kR k
 | .eqI,[_,_]=>.bool
 | .neI,[_,_]=>.bool
 | .ltI,[_,_]=>.bool
 | .leI,[_,_]=>.bool
 | .eqS,[_,_]=>.bool
 | .not,[_]=>.bool
 | .isNil,[_]=>.bool
 | .ite,[_,a,b]=>a.join b
 | .get j,[a]=>getA j a
 | .len,[a]=>match lenA a with
  | some n=>.int 0 n
  | none=>.any
 | .mkrow,l=>.row l
 | .mklist,l=>.list l.length (yXG l)
 | .mkbytes,l=>.oct l.length
 | .app,[a,b]=>appA' a b
 | .mkptr,[a]=>.opt a
 | .deref,[a]=>match a with
  | .opt e=>nzA e
  | .nil=>.nil
  | _=>.any
 | .toStr,[a]=>match octL a with
  | some n=>.str n
  | none=>.any
 | .toBytes,[a]=>match octL a with
  | some n=>.oct n
  | none=>.any
 | .imin,[.int a b,.int c d]=>.int (min a c) (min b d)
 | .imax,[.int a b,.int c d]=>.int (max a c) (max b d)
 | .repl,[.int _ hi,a]=>.list hi.toNat a
 | .zeros,[.int _ hi]=>.oct hi.toNat
 | .take,[a,_]=>a
 | .drop,[a,_]=>a
 | .iota,[.int _ hi]=>.list hi.toNat (.int 0 hi)
 | .iotaS,[.int _ hi]=>.list (hi.toNat+1) (.int 0 (max hi 0))
 | .setAt,[a,_,x]=>match a with
  | .list n e=>.list n (e.join x)
  | .oct n=>.oct n
  | .nil=>.nil
  | _=>.any
 | .setCells off,[a,_,x]=>match a with
  | .list n e=>.list n (putA off x e)
  | .oct n=>.oct n
  | .nil=>.nil
  | _=>.any
 | .copy,[a,_]=>match a with
  | .oct n=>.oct n
  | .nil=>.nil
  | _=>.any
 | .ext k,l=>E k l
 | _,_=>.any
theorem gs1{a:A}{ds:List D}(h:A.gs [a] ds):∃d,ds=[d]/\a.g d:=by
 obtain⟨d,r,rfl,h1,h2⟩:=h;cases h2;exact⟨d,rfl,h1⟩
theorem gs2{a b:A}{ds:List D}(h:A.gs [a,b] ds):∃d e,ds=[d,e]/\a.g d/\b.g e:=by
 obtain⟨d,r,rfl,h1,h2⟩:=h;obtain⟨e,rfl,h3⟩:=gs1 h2;exact⟨d,e,rfl,h1,h3⟩
theorem gs3{a b c:A}{ds:List D}(h:A.gs [a,b,c] ds):∃d e f,ds=[d,e,f]/\a.g d/\b.g e/\c.g f:=by
 obtain⟨d,r,rfl,h1,h2⟩:=h;obtain⟨e,f,rfl,h3,h4⟩:=gs2 h2;exact⟨d,e,f,rfl,h1,h3,h4⟩
theorem xLF(k:IntKind)(n:Int):(kR k).g (.int (k.wrap n)):=by
 have:=zCC k n
 simp only[Lit.wf,baZ,dtZ] at this;exact⟨_,rfl,this.1,this.2⟩
theorem zHF{a:A}{d:D}{n:Nat}(h:lenA a=some n)(hd:a.g d):d.len<=n:=by
 cases a <;> simp only[lenA,Option.some.injEq,reduceCtorEq] at h
 ·cases hd;simp[D.len]
 ·obtain⟨_,rfl,_⟩:=hd;simp[D.len]
 ·obtain⟨_,rfl⟩:=hd;simp[D.len]
 ·subst h;rcases hd with rfl|⟨s,rfl,h1⟩ <;> simp[D.len];exact h1
 ·subst h;rcases hd with rfl|⟨s,rfl,h1⟩ <;> simp[D.len];exact h1
 ·subst h;rcases hd with rfl|⟨s,rfl,h1,_⟩ <;> simp[D.len];exact h1
 ·obtain⟨_,rfl,_⟩:=hd;simp[D.len]
 ·rcases hd with rfl|⟨s,rfl,h1⟩ <;> simp[D.len]
 ·subst h;rcases hd with rfl|⟨s,rfl,h1,_⟩ <;> simp[D.len];exact h1
theorem yZK{a:A}{d:D}{n:Nat}(h:octL a=some n)(hd:a.g d):d.asStr.length<=n:=by
 cases a <;> simp only[octL,Option.some.injEq,reduceCtorEq] at h
 ·cases hd;simp[D.asStr]
 ·subst h;rcases hd with rfl|⟨s,rfl,h1⟩ <;> simp[D.asStr];exact h1
 ·subst h;rcases hd with rfl|⟨s,rfl,h1⟩ <;> simp[D.asStr];exact h1
theorem qJE{a:A}{d:D}{l:List A}(h:qDG a=some l)(hd:a.g d):A.gs l d.cells:=by
 have one:∀ {a:A},(∀r,d ≠ .row r)->a.g d->A.gs [a] d.cells:=fun {a} hr hg=>by
  have:d.cells=[d]:=by cases d <;> first|rfl|exact absurd rfl (hr _)
  rw[this];exact⟨d,[],rfl,hg,rfl⟩
 cases a <;> simp only[qDG,Option.some.injEq,reduceCtorEq] at h <;> subst h
 ·exact one (fun r e=>by cases hd;cases e) hd
 ·exact one (fun r e=>by obtain⟨_,rfl,_⟩:=hd;cases e) hd
 ·exact one (fun r e=>by obtain⟨_,rfl⟩:=hd;cases e) hd
 ·exact one (fun r e=>by rcases hd with rfl|⟨_,rfl,_⟩ <;> cases e) hd
 ·exact one (fun r e=>by rcases hd with rfl|⟨_,rfl,_⟩ <;> cases e) hd
 ·exact one (fun r e=>by rcases hd with rfl|⟨_,rfl,_⟩ <;> cases e) hd
 ·obtain⟨ds,rfl,h1⟩:=hd;exact h1
 ·exact one (fun r e=>by rcases hd with rfl|⟨_,rfl,_⟩ <;> cases e) hd
 ·exact one (fun r e=>by rcases hd with rfl|⟨_,rfl,_⟩ <;> cases e) hd
theorem zRE:∀ {as1:List A} {ds:List D},A.gs as1 ds -> ∀d∈ds,(yXG as1).g d
 | [],_,h,d,hd=>by cases h;cases hd
 | a::as1,_,h,d,hd=>by
  obtain⟨x,r,rfl,h1,h2⟩:=h;rcases List.mem_cons.1 hd with rfl|hd
  ·exact A.join_l h1
  ·exact A.join_r (zRE h2 d hd)
theorem appA_ok{a b:A}{d e:D}(h:a.g d)(k:b.g e):(appA' a b).g (d.appd e):=by
 unfold appA';split
 ·cases h;cases k;rfl
 ·cases h;rcases k with rfl|⟨s,rfl,h1⟩
  ·exact .inl rfl
  ·cases s with
   | nil=>exact .inl rfl
   | cons x s=>exact .inr ⟨_,rfl,h1⟩
 ·cases h;rcases k with rfl|⟨s,rfl,h1⟩
  ·exact .inl rfl
  ·cases s with
   | nil=>exact .inl rfl
   | cons x s=>exact .inr ⟨_,rfl,h1⟩
 ·cases h;rcases k with rfl|⟨s,rfl,h1,h2⟩
  ·exact .inl rfl
  ·cases s with
   | nil=>exact .inl rfl
   | cons x s=>exact .inr ⟨_,rfl,h1,h2⟩
 ·cases k;rcases h with rfl|⟨s,rfl,h1⟩
  ·exact .inl rfl
  ·exact .inr ⟨s,rfl,h1⟩
 ·rename_i n m;rcases h with rfl|⟨s,rfl,h1⟩ <;> rcases k with rfl|⟨s',rfl,h2⟩
  ·exact .inl rfl
  ·cases s' with
   | nil=>exact .inl rfl
   | cons x s=>exact .inr ⟨_,rfl,by omega⟩
  ·exact .inr ⟨s,rfl,by omega⟩
  ·exact .inr ⟨s++s',rfl,by rw[List.length_append];omega⟩
 ·rename_i n m;rcases h with rfl|⟨s,rfl,h1⟩ <;> rcases k with rfl|⟨s',rfl,h2⟩
  ·exact .inl rfl
  ·cases s' with
   | nil=>exact .inl rfl
   | cons x s=>exact .inr ⟨_,rfl,by omega⟩
  ·exact .inr ⟨s,rfl,by omega⟩
  ·exact .inr ⟨s++s',rfl,by rw[List.length_append];omega⟩
 ·cases k;rcases h with rfl|⟨s,rfl,h1,h2⟩
  ·exact .inl rfl
  ·exact .inr ⟨s,rfl,h1,h2⟩
 ·rename_i n e' m f;rcases h with rfl|⟨s,rfl,h1,h1'⟩ <;> rcases k with rfl|⟨s',rfl,h2,h2'⟩
  ·exact .inl rfl
  ·cases s' with
   | nil=>exact .inl rfl
   | cons x s=>exact .inr ⟨_,rfl,by omega,fun x hx=>A.join_r (h2' x hx)⟩
  ·exact .inr ⟨s,rfl,by omega,fun x hx=>A.join_l (h1' x hx)⟩
  ·refine .inr ⟨s++s',rfl,by rw[List.length_append];omega,fun x hx=>?_⟩;rcases List.mem_append.1 hx with hx|hx
   ·exact A.join_l (h1' x hx)
   ·exact A.join_r (h2' x hx)
 ·trivial
theorem getA_ok{a:A}{d:D}{j:Nat}(h:a.g d):(getA j a).g (d.cells.getD j .nil):=by
 have one:∀ {a:A},qDG a=some [a]->a.g d->(if j=0 then a else A.nil).g (d.cells.getD j .nil):=fun {a} hc hg=>by
  have h1:=qJE hc hg;obtain⟨x,e,h2⟩:=gs1 h1;rw[e];cases j with
  | zero=>simpa using h2
  | succ j=>simp[A.g]
 cases a <;> simp only[getA] <;> first|trivial|exact one rfl h|skip
 rename_i l;obtain⟨ds,rfl,h1⟩:=h;show (l.getD j .nil).g (ds.getD j .nil)
 clear one
 induction l generalizing ds j with
 | nil=>cases h1;simp[A.g]
 | cons a as1 ih =>
  obtain⟨x,r,rfl,h2,h3⟩:=h1;cases j with
  | zero=>simpa using h2
  | succ j=>simpa using ih _ h3
theorem nzA_ok{e:A}{d:D}(h:d = .nil∨e.g d):(nzA e).g d:=by
 rcases h with rfl|h
 ·cases e <;> simp[nzA,A.g]
 ·cases e <;> simp only[nzA] <;> first|trivial|exact h
theorem zBI{off:Nat}{x e:A}{d r:D}(h:x.g d)(k:e.g r):(putA off x e).g r/\(putA off x e).g (r.putCells off d.cells):=by
 unfold putA;split
 ·rename_i l xs hc;obtain⟨ds,rfl,h1⟩:=k;have h2:=qJE hc h;split
  ·rename_i hle;have hlen:=ySE h1;have hxl:=ySE h2;have hl2:l.length=(l.take off++xs++l.drop (off+xs.length)).length:=by
    simp only[List.length_append,List.length_take,List.length_drop];omega
   refine⟨⟨ds,rfl,A.joins_l hl2 h1⟩,⟨_,rfl,A.joins_r hl2 ?_⟩⟩;rw[<- hxl];exact qHD (qHD (zSK off h1) h2) (zRK _ h1)
  ·exact⟨trivial,trivial⟩
 ·exact⟨trivial,trivial⟩
theorem wrap_id{k:IntKind}{n:Int}(h:k.min<=n/\n<=k.max):k.wrap n=n:=by
 cases k <;> simp[IntKind.min,IntKind.max,IntKind.signed,IntKind.bits] at h <;> simp[IntKind.wrap,IntKind.signed,IntKind.bits] <;> omega
theorem takeA_ok{a:A}{d:D}{n:Nat}(h:a.g d):a.g (d.takeD n):=by
 cases a
 ·trivial
 ·cases h;rfl
 ·obtain⟨m,rfl,h1⟩:=h;exact⟨m,rfl,h1⟩
 ·obtain⟨m,rfl⟩:=h;exact⟨m,rfl⟩
 ·rcases h with rfl|⟨s,rfl,h1⟩
  ·exact .inl rfl
  ·exact .inr ⟨s.take n,rfl,by rw[List.length_take];omega⟩
 ·rcases h with rfl|⟨s,rfl,h1⟩
  ·exact .inl rfl
  ·exact .inr ⟨s.take n,rfl,by rw[List.length_take];omega⟩
 ·rcases h with rfl|⟨s,rfl,h1,h2⟩
  ·exact .inl rfl
  ·exact .inr ⟨s.take n,rfl,by rw[List.length_take];omega,fun x hx=>h2 x (List.mem_of_mem_take hx)⟩
 ·obtain⟨ds,rfl,h1⟩:=h;exact⟨ds,rfl,h1⟩
 ·rcases h with rfl|⟨s,rfl,h1⟩
  ·exact .inl rfl
  ·exact .inr ⟨s,rfl,h1⟩
 ·rcases h with rfl|⟨s,rfl,h1⟩
  ·exact .inl rfl
  ·exact .inr ⟨s,rfl,h1⟩
 ·exact h
theorem dropA_ok{a:A}{d:D}{n:Nat}(h:a.g d):a.g (d.dropD n):=by
 cases a
 ·trivial
 ·cases h;rfl
 ·obtain⟨m,rfl,h1⟩:=h;exact⟨m,rfl,h1⟩
 ·obtain⟨m,rfl⟩:=h;exact⟨m,rfl⟩
 ·rcases h with rfl|⟨s,rfl,h1⟩
  ·exact .inl rfl
  ·exact .inr ⟨s.drop n,rfl,by rw[List.length_drop];omega⟩
 ·rcases h with rfl|⟨s,rfl,h1⟩
  ·exact .inl rfl
  ·exact .inr ⟨s.drop n,rfl,by rw[List.length_drop];omega⟩
 ·rcases h with rfl|⟨s,rfl,h1,h2⟩
  ·exact .inl rfl
  ·exact .inr ⟨s.drop n,rfl,by rw[List.length_drop];omega,fun x hx=>h2 x (List.mem_of_mem_drop hx)⟩
 ·obtain⟨ds,rfl,h1⟩:=h;exact⟨ds,rfl,h1⟩
 ·rcases h with rfl|⟨s,rfl,h1⟩
  ·exact .inl rfl
  ·exact .inr ⟨s,rfl,h1⟩
 ·rcases h with rfl|⟨s,rfl,h1⟩
  ·exact .inl rfl
  ·exact .inr ⟨s,rfl,h1⟩
 ·exact h
theorem yOK{α:Type}{l:List α}{i:Nat}{x y:α}(h:y∈l.set i x):y=x∨y∈l:=by
 rcases List.mem_or_eq_of_mem_set h with h|h
 ·exact .inr h
 ·exact .inl h
theorem absF_ok{X:Nat->List D->D}{E:Nat->List A->A}(hE:∀k as1 ds,A.gs as1 ds->(E k as1).g (X k ds))(n:Dx.Fn)(as1:List A)(ds:List D)(h:A.gs as1 ds):(absF E n as1).g (n.eval X ds):=by
 unfold absF;split
 ·obtain⟨d,rfl,h1⟩:=gs1 h;split
  ·rename_i lo hi;obtain⟨m,rfl,h2,h3⟩:=h1;split
   ·rename_i hb;refine⟨m,?_,h2,h3⟩;exact congrArg D.int (wrap_id (n:=m) ⟨by omega,by omega⟩)
   ·exact xLF _ _
  ·exact xLF _ _
 ·obtain⟨d,e,rfl,_,_⟩:=gs2 h;exact xLF _ _
 ·obtain⟨d,e,rfl,_,_⟩:=gs2 h;exact xLF _ _
 ·obtain⟨d,e,rfl,_,_⟩:=gs2 h;exact xLF _ _
 ·obtain⟨d,e,rfl,_,_⟩:=gs2 h;exact xLF _ _
 ·obtain⟨d,e,rfl,_,_⟩:=gs2 h;exact xLF _ _
 ·obtain⟨d,e,rfl,_,_⟩:=gs2 h;exact xLF _ _
 ·obtain⟨d,e,rfl,_,_⟩:=gs2 h;exact xLF _ _
 ·obtain⟨d,e,rfl,_,_⟩:=gs2 h;exact xLF _ _
 ·obtain⟨d,e,rfl,_,_⟩:=gs2 h;exact⟨_,rfl⟩
 ·obtain⟨d,e,rfl,_,_⟩:=gs2 h;exact⟨_,rfl⟩
 ·obtain⟨d,e,rfl,_,_⟩:=gs2 h;exact⟨_,rfl⟩
 ·obtain⟨d,e,rfl,_,_⟩:=gs2 h;exact⟨_,rfl⟩
 ·obtain⟨d,e,rfl,_,_⟩:=gs2 h;exact⟨_,rfl⟩
 ·obtain⟨d,rfl,_⟩:=gs1 h;exact⟨_,rfl⟩
 ·obtain⟨d,rfl,_⟩:=gs1 h;exact⟨_,rfl⟩
 ·obtain⟨c,d,e,rfl,_,h1,h2⟩:=gs3 h;show A.g _ (if c.asBool then d else e);cases c.asBool
  ·exact A.join_r h2
  ·exact A.join_l h1
 ·obtain⟨d,rfl,h1⟩:=gs1 h;exact getA_ok h1
 ·obtain⟨d,rfl,h1⟩:=gs1 h;split
  ·rename_i n hn;exact⟨_,rfl,by omega,by have:=zHF hn h1;omega⟩
  ·trivial
 ·rw[qFA];exact⟨ds,rfl,h⟩
 ·rw[qHA];exact .inr ⟨ds,rfl,by rw[ySE h];exact Nat.le_refl _,zRE h⟩
 ·have:Fn.eval X .mkbytes ds = .bytes (ds.map fun d=>UInt8.ofNat d.asInt.toNat):=by
   cases ds with
   | nil=>rfl
   | cons a r=>cases r with
    | nil=>rfl
    | cons b r=>cases r with
     | nil=>rfl
     | cons c r=>rfl
  rw[this];exact .inr ⟨_,rfl,by rw[List.length_map,ySE h];exact Nat.le_refl _⟩
 ·obtain⟨d,e,rfl,h1,h2⟩:=gs2 h;exact appA_ok h1 h2
 ·obtain⟨d,rfl,h1⟩:=gs1 h;exact .inr ⟨d,rfl,h1⟩
 ·obtain⟨d,rfl,h1⟩:=gs1 h;split
  ·rename_i e;rcases h1 with rfl|⟨x,rfl,h2⟩
   ·exact nzA_ok (.inl rfl)
   ·exact nzA_ok (.inr h2)
  ·cases h1;rfl
  ·trivial
 ·obtain⟨d,rfl,h1⟩:=gs1 h;split
  ·rename_i n hn;exact .inr ⟨_,rfl,yZK hn h1⟩
  ·trivial
 ·obtain⟨d,rfl,h1⟩:=gs1 h;split
  ·rename_i n hn;exact .inr ⟨_,rfl,yZK hn h1⟩
  ·trivial
 ·obtain⟨d,e,rfl,⟨m,rfl,_,_⟩,⟨m',rfl,_,_⟩⟩:=gs2 h;rw[xHA];exact⟨_,rfl,by omega,by omega⟩
 ·obtain⟨d,e,rfl,⟨m,rfl,_,_⟩,⟨m',rfl,_,_⟩⟩:=gs2 h;rw[zFK];exact⟨_,rfl,by omega,by omega⟩
 ·rename_i lo hi a;obtain⟨d,e,rfl,⟨m,rfl,_,hm⟩,h1⟩:=gs2 h;refine .inr ⟨List.replicate m.toNat e,rfl,?_,fun x hx=>?_⟩
  ·rw[List.length_replicate];omega
  ·rw[List.eq_of_mem_replicate hx];exact h1
 ·obtain⟨d,rfl,⟨m,rfl,_,hm⟩⟩:=gs1 h;refine .inr ⟨List.replicate m.toNat 0,rfl,?_⟩;rw[List.length_replicate];omega
 ·obtain⟨d,e,rfl,h1,_⟩:=gs2 h;show A.g _ (d.takeD e.asInt.toNat);exact takeA_ok h1
 ·obtain⟨d,e,rfl,h1,_⟩:=gs2 h;show A.g _ (d.dropD e.asInt.toNat);exact dropA_ok h1
 ·obtain⟨d,rfl,⟨m,rfl,_,hm⟩⟩:=gs1 h;refine .inr ⟨_,rfl,?_,fun x hx=>?_⟩
  ·show ((List.range m.toNat).map _).length<=_;rw[List.length_map,List.length_range];omega
  ·obtain⟨i,hi,rfl⟩:=List.mem_map.1 hx
   have:=List.mem_range.1 hi
   have:(i:Int)<m.toNat:=by exact_mod_cast this
   exact⟨_,rfl,by omega,by simp only[D.asInt] at hi;omega⟩
 ·obtain⟨d,rfl,⟨m,rfl,_,hm⟩⟩:=gs1 h;refine .inr ⟨_,rfl,?_,fun x hx=>?_⟩
  ·show ((List.range (m.toNat+1)).map _).length<=_;rw[List.length_map,List.length_range];omega
  ·obtain⟨i,hi,rfl⟩:=List.mem_map.1 hx
   have:=List.mem_range.1 hi
   exact⟨_,rfl,by omega,by simp only[D.asInt] at this;omega⟩
 ·obtain⟨d,i,x,rfl,h1,_,h2⟩:=gs3 h;show A.g _ (d.setAtD i.asInt.toNat x);split
  ·rename_i n e;rcases h1 with rfl|⟨l,rfl,h3,h4⟩
   ·exact .inl rfl
   ·refine .inr ⟨l.set i.asInt.toNat x,rfl,by rw[List.length_set];exact h3,fun y hy=>?_⟩;rcases yOK hy with rfl|hy
    ·exact A.join_r h2
    ·exact A.join_l (h4 y hy)
  ·rcases h1 with rfl|⟨l,rfl,h3⟩
   ·exact .inl rfl
   ·exact .inr ⟨_,rfl,by rw[List.length_set];exact h3⟩
  ·cases h1;rfl
  ·trivial
 ·rename_i off _ _ _;obtain⟨d,i,x,rfl,h1,_,h2⟩:=gs3 h;show A.g _ (d.setCellsD off i.asInt.toNat x);split
  ·rename_i n e;rcases h1 with rfl|⟨l,rfl,h3,h4⟩
   ·exact .inl rfl
   ·refine .inr ⟨_,rfl,by rw[List.length_set];exact h3,fun y hy=>?_⟩;by_cases hlt:i.asInt.toNat<l.length
    ·rcases yOK hy with rfl|hy
     ·have hm:l.getD i.asInt.toNat .nil∈l:=by
       rw[List.getD_eq_getElem?_getD,List.getElem?_eq_getElem hlt];exact List.getElem_mem hlt
      exact(zBI h2 (h4 _ hm)).2
     ·exact(zBI h2 (h4 y hy)).1
    ·rw[List.set_eq_of_length_le (by omega)] at hy;exact(zBI h2 (h4 y hy)).1
  ·rcases h1 with rfl|⟨l,rfl,h3⟩
   ·exact .inl rfl
   ·exact .inr ⟨l,rfl,h3⟩
  ·cases h1;rfl
  ·trivial
 ·obtain⟨d,e,rfl,h1,_⟩:=gs2 h;show A.g _ (d.copyD e);split
  ·rcases h1 with rfl|⟨l,rfl,h3⟩
   ·exact .inl rfl
   ·refine .inr ⟨_,rfl,?_⟩;simp only[List.length_append,List.length_take,List.length_drop];omega
  ·cases h1;rfl
  ·trivial
 ·rw[zNA];exact hE _ _ _ h
 ·trivial
end Go.Mx
namespace Go.Mx
open Go Go.Dx
mutual
def absK:D->A
 | .int n=>.int n n
 | .bool _=>.bool
 | .str s=>.str s.length
 | .flt _=>.any
 | .nil=>.nil
 | .bytes s=>.oct s.length
 | .list l=>.list l.length (yXG (absKs l))
 | .row l=>.row (absKs l)
 | .ptr d=>.opt (absK d)
 | .map _=>.any
def absKs:List D->List A
 | []=>[]
 | d::r=>absK d::absKs r
end
mutual
theorem xDH:∀d:D,(absK d).g d
 | .int n=>⟨n,rfl,Int.le_refl _,Int.le_refl _⟩
 | .bool b=>⟨b,rfl⟩
 | .str s=>.inr ⟨s,rfl,Nat.le_refl _⟩
 | .flt _=>trivial
 | .nil=>rfl
 | .bytes s=>.inr ⟨s,rfl,Nat.le_refl _⟩
 | .list l=>.inr ⟨l,rfl,Nat.le_refl _,zRE (zYG l)⟩
 | .row l=>⟨l,rfl,zYG l⟩
 | .ptr d=>.inr ⟨d,rfl,xDH d⟩
 | .map _=>trivial
theorem zYG:∀l:List D,A.gs (absKs l) l
 | []=>rfl
 | d::r=>⟨d,r,rfl,xDH d,zYG r⟩
end
abbrev TT:=List (Nat×(List A×A))
def extE(E:Nat->List A->A)(T:TT)(k:Nat)(as1:List A):A :=
 match lk k T with
 | some (env,out)=>if A.les as1 env then out else .any
 | none=>E k as1
mutual
def abs(E:Nat->List A->A)(T:TT)(env:List A):DE->A
 | .v i=>env.getD i .any
 | .k d=>absK d
 | .f n as1=>absF (extE E T) n (abss E T env as1)
 | _=>.any
def abss(E:Nat->List A->A)(T:TT)(env:List A):List DE->List A
 | []=>[]
 | e::r=>abs E T env e::abss E T env r
end
def XOk(X:Nat->List D->D)(E:Nat->List A->A):Prop:=∀k as1 ds,A.gs as1 ds->(E k as1).g (X k ds)
def TOk(X:Nat->List D->D)(T:TT):Prop:=∀k env out,lk k T=some (env,out) -> ∀args,A.gs env args->out.g (X k args)
section
variable {X:Nat->List D->D} {E:Nat->List A->A} {T:TT} {env:List A} {J:List D}
theorem extE_ok(hE:XOk X E)(hT:TOk X T):XOk X (extE E T):=fun k as1 ds h=>by
 unfold extE;split
 ·rename_i env out hk;split
  ·rename_i hle;exact hT k env out hk ds (A.les_ok hle h)
  ·trivial
 ·exact hE k as1 ds h
mutual
theorem xSB(hE:XOk X E)(hT:TOk X T)(hδ:A.gs env J):∀e:DE,(abs E T env e).g (e.eval X J)
 | .v i=>by
  simp only[abs,DE.eval];exact gs_get hδ
 | .k d=>by
  simp only[abs,DE.eval];exact xDH d
 | .f n as1=>by
  simp only[abs,DE.eval];exact absF_ok (extE_ok hE hT) n _ _ (xYE hE hT hδ as1)
 | .fold _ _ _ _ _=>by simp only[abs];trivial
 | .wh _ _ _ _=>by simp only[abs];trivial
theorem xYE(hE:XOk X E)(hT:TOk X T)(hδ:A.gs env J):∀es:List DE,A.gs (abss E T env es) (zDA X es J)
 | []=>rfl
 | e::r=>⟨_,_,rfl,xSB hE hT hδ e,xYE hE hT hδ r⟩
end
theorem appd_len(a b:D):(a.appd b).len<=a.len+b.len:=by
 have h1:a.asStr.length<=a.len:=by cases a <;> simp[D.asStr,D.len]
 unfold D.appd;split
 ·simp[D.len]
 ·simp[D.len]
 ·simp[D.len]
 ·simp[D.len]
 ·simp[D.len]
 ·simp[D.len]
 ·simp[D.len]
 ·simp[D.len]
 ·simp[D.len]
 ·simp only[show ∀l,(D.bytes l).len=l.length from fun _=>rfl,List.length_append];omega
 ·omega
theorem yQF(a:D)(n:Nat)(x:D):(a.setAtD n x).len=a.len:=by cases a <;> simp[D.setAtD,D.len]
theorem qWC(off:Nat)(a:D)(n:Nat)(x:D):(a.setCellsD off n x).len=a.len:=by cases a <;> simp[D.setCellsD,D.len]
def grow(E:Nat->List A->A)(T:TT)(env:List A)(i:Nat):DE->Option Nat
 | .v j=>if j=i then some 0 else lenA (env.getD j .any)
 | .f .app [x,y] =>
  match grow E T env i x,lenA (abs E T env y) with
  | some a,some b=>some (a+b)
  | _,_=>none
 | .f .ite [_,x,y] =>
  match grow E T env i x,grow E T env i y with
  | some a,some b=>some (max a b)
  | _,_=>none
 | .f .setAt [x,_,_]=>grow E T env i x
 | .f (.setCells _) [x,_,_]=>grow E T env i x
 | e=>lenA (abs E T env e)
theorem grow_ok(hE:XOk X E)(hT:TOk X T)(hδ:A.gs env J){i:Nat}:∀(e:DE) {c:Nat},grow E T env i e=some c->(e.eval X J).len<=(J.getD i .nil).len+c:=by
 intro e;have gen:∀(e:DE) {c:Nat},lenA (abs E T env e)=some c->(e.eval X J).len<=(J.getD i .nil).len+c:=fun e c h=>by
  have:=zHF h (xSB hE hT hδ e);omega
 fun_induction grow E T env i e with
 | case1=>intro c h;cases h;simp[DE.eval]
 | case2 j hj=>intro c h;exact gen (.v j) (by simpa[abs] using h)
 | case3 x y a b hy hx ih =>
  intro c h;cases h
  have h1:=ih hx;have h2:=zHF hy (xSB hE hT hδ y);show ((x.eval X J).appd (y.eval X J)).len<=_
  have:=appd_len (x.eval X J) (y.eval X J)
  omega
 | case4=>intro c h;cases h
 | case5 c0 x y a b hy hx ihx ihy =>
  intro c h;cases h
  have h1:=ihx hx;have h2:=ihy hy;show (if (c0.eval X J).asBool then x.eval X J else y.eval X J).len<=_;split <;> omega
 | case6=>intro c h;cases h
 | case7 x i' v ih =>
  intro c h;have h1:=ih h;show ((x.eval X J).setAtD _ _).len<=_;rw[yQF];exact h1
 | case8 off x i' v ih =>
  intro c h;have h1:=ih h;show ((x.eval X J).setCellsD off _ _).len<=_;rw[qWC];exact h1
 | case9 e=>intro c h;exact gen e h
end
end Go.Mx
namespace Go.Mx
open Go Go.Dx
structure Nm where
 n:Nat
 lv:Nat
 src:DE
 is:List DE
 bs:List DE
noncomputable def zZD(X:Nat->List D->D)(m:Nm)(args:List D):List D :=
 zQA (fun i r acc=>zDA X m.bs (args.take m.lv++(.int i::r::acc))) 0 (m.src.eval X args).rows (zDA X m.is args)
noncomputable def accK(X:Nat->List D->D)(m:Nm)(args:List D)(k:Nat):List D :=
 zQA (fun i r acc=>zDA X m.bs (args.take m.lv++(.int i::r::acc))) 0 ((m.src.eval X args).rows.take k) (zDA X m.is args)
noncomputable def XT(X:Nat->List D->D):List Nm->Nat->List D->D
 | []=>X
 | m::r=>fun k args=>if k=m.n then .row (zZD (XT X r) m args) else XT X r k args
mutual
def xGE(ns:List Nat):DE->Bool
 | .v _=>true
 | .k _=>true
 | .f n as1=>(match n with | .ext k=>!ns.elem k|_=>true)&&xOC ns as1
 | .fold _ s is bs _=>xGE ns s&&xOC ns is&&xOC ns bs
 | .wh _ g is bs=>xGE ns g&&xOC ns is&&xOC ns bs
def xOC(ns:List Nat):List DE->Bool
 | []=>true
 | e::r=>xGE ns e&&xOC ns r
end
theorem qRG{X Y:Nat->List D->D}:∀ {n:Dx.Fn} {ds:List D},(∀k,n = .ext k->X k ds=Y k ds)->n.eval X ds=n.eval Y ds:=by
 intro n ds h;cases n with
 | ext k=>rw[zNA,zNA];exact h k rfl
 | _ =>
  rcases ds with _|⟨a,_|⟨b,_|⟨c,_|⟨d,r⟩⟩⟩⟩ <;> rfl
mutual
theorem xEB{X Y:Nat->List D->D}{ns:List Nat}(h:∀k,k∉ns->X k=Y k):∀ {e:DE} {J:List D},xGE ns e=true->e.eval X J=e.eval Y J
 | .v i,J,_=>by simp[DE.eval]
 | .k d,J,_=>by simp[DE.eval]
 | .f n as1,J,he=>by
  simp only[xGE,baZ] at he;simp only[DE.eval];rw[qXA h he.2];refine qRG fun k hk=>?_
  subst hk
  have:k∉ns:=by simpa using he.1
  rw[h k this]
 | .fold lv s is bs j,J,he=>by
  simp only[xGE,baZ] at he;have e1:(fun(i:Nat) r acc=>zDA X bs (J.take lv++(.int i::r::acc)))=fun(i:Nat) r acc=>zDA Y bs (J.take lv++(.int i::r::acc)):=by
   funext i r acc;exact qXA h he.2
  simp only[DE.eval];rw[xEB h he.1.1,qXA h he.1.2,e1]
 | .wh lv g is bs,J,he=>by
  simp only[xGE,baZ] at he;have e1:(fun(i:Nat) r acc=>zDA X bs (J.take lv++(.int i::r::acc)))=fun(i:Nat) r acc=>zDA Y bs (J.take lv++(.int i::r::acc)):=by
   funext i r acc;exact qXA h he.2
  simp only[DE.eval];rw[qXA h he.1.2,e1]
  congr 3
  funext n;rw[xEB h he.1.1]
theorem qXA{X Y:Nat->List D->D}{ns:List Nat}(h:∀k,k∉ns->X k=Y k):∀ {es:List DE} {J:List D},xOC ns es=true->zDA X es J=zDA Y es J
 | [],_,_=>rfl
 | e::r,J,he=>by
  simp only[xOC,baZ] at he;simp only[zDA];rw[xEB h he.1,qXA h he.2]
end
theorem xYG{X Y:Nat->List D->D}{ns:List Nat}(h:∀k,k∉ns->X k=Y k){m:Nm}(h1:xGE ns m.src=true)(h2:xOC ns m.is=true)(h3:xOC ns m.bs=true)(args:List D):zZD X m args=zZD Y m args:=by
 unfold zZD;rw[xEB h h1,qXA h h2]
 congr 1
 funext i r acc;exact qXA h h3
def okTab:List Nat->List Nm->Bool
 | _,[]=>true
 | seen,m::r=>!seen.elem m.n&&xGE (m.n::seen) m.src&&xOC (m.n::seen) m.is&&xOC (m.n::seen) m.bs&&okTab (m.n::seen) r
theorem XT_def{X:Nat->List D->D}:∀ {tab:List Nm} {seen:List Nat},okTab seen tab=true -> ∀Y:Nat->List D->D,(∀k,k∉seen->Y k=XT X tab k) -> ∀m∈tab,∀args,Y m.n args = .row (zZD Y m args)
 | [],_,_,_,_,m,hm,_=>by cases hm
 | m::r,seen,h,Y,hY,x,hx,args=>by
  simp only[okTab,baZ,Bool.not_eq_true',List.elem_eq_mem,decide_eq_false_iff_not] at h;obtain⟨⟨⟨⟨h0,h1⟩,h2⟩,h3⟩,h4⟩:=h;have hY':∀k,k∉m.n::seen->Y k=XT X r k:=fun k hk=>by
   simp only[List.mem_cons,not_or] at hk;rw[hY k hk.2];funext as1;simp only[XT,hk.1,if_false]
  rcases List.mem_cons.1 hx with rfl|hx
  ·rw[hY x.n h0];simp only[XT,if_true];rw[xYG (fun k hk=>(hY' k hk).symm) h1 h2 h3]
  ·exact XT_def h4 Y hY' x hx args
theorem zYD{X:Nat->List D->D}:∀ {tab:List Nm} {k:Nat},(∀m∈tab,k≠m.n)->XT X tab k=X k
 | [],_,_=>rfl
 | m::r,k,h=>by
  funext args;simp only[XT,h m List.mem_cons_self,if_false];exact congrFun (zYD fun x hx=>h x (List.mem_cons_of_mem _ hx)) args
def rowsA:A->Option (Nat×A)
 | .nil=>some (0,.bot)
 | .list n e=>some (n,e)
 | .oct n=>some (n,.int 0 255)
 | _=>none
theorem rowsA_ok{a e:A}{R:Nat}{d:D}(h:rowsA a=some (R,e))(hd:a.g d):d.rows.length<=R /\ ∀x∈d.rows,e.g x:=by
 cases a <;> simp only[rowsA,Option.some.injEq,Prod.mk.injEq,reduceCtorEq] at h
 ·obtain⟨rfl,rfl⟩:=h;cases hd;exact⟨Nat.le_refl _,by simp[D.rows]⟩
 ·obtain⟨rfl,rfl⟩:=h;rcases hd with rfl|⟨s,rfl,h1⟩
  ·exact⟨Nat.zero_le _,by simp[D.rows]⟩
  ·refine⟨by simpa[D.rows] using h1,fun x hx=>?_⟩;simp only[D.rows,List.mem_map] at hx;obtain⟨b,_,rfl⟩:=hx
   have:=b.toNat_lt
   exact⟨_,rfl,by omega,by omega⟩
 ·obtain⟨rfl,rfl⟩:=h;rcases hd with rfl|⟨s,rfl,h1,h2⟩
  ·exact⟨Nat.zero_le _,by simp[D.rows]⟩
  ·exact⟨h1,h2⟩
def addN:A->Nat->A
 | .list n f,x=>.list (n+x) f
 | a,_=>a
def modeC(E:Nat->List A->A)(T:TT)(env':List A)(i R:Nat)(a0 inv b:A)(e:DE):Option (A×Nat) :=
 if a0.le inv&&b.le inv then some (inv,0) else
 match inv,b,grow E T env' i e with
 | .list n f,.list _ g,some c =>
  match a0 with
  | .nil=>if g.le f&&decide (R*c<=n) then some (.list 0 f,c) else none
  | .list n0 e0=>if e0.le f&&g.le f&&decide (n0+R*c<=n) then some (.list n0 f,c) else none
  | _=>none
 | _,_,_=>none
theorem xXJ(a:A):addN a 0=a:=by cases a <;> rfl
theorem modeC_ok{E:Nat->List A->A}{T:TT}{env':List A}{i R:Nat}{a0 inv b base:A}{e:DE}{c:Nat}(h:modeC E T env' i R a0 inv b e=some (base,c)) :
  (∀d,a0.g d->(addN base 0).g d)/\(∀k d,k<=R->(addN base (k*c)).g d->inv.g d) /\
  (∀k d d',k<R->(addN base (k*c)).g d->b.g d'->(∀c',grow E T env' i e=some c'->d'.len<=d.len+c')->(addN base ((k+1)*c)).g d'):=by
 unfold modeC at h;split at h
 ·rename_i hh;simp only[baZ] at hh;simp only[Option.some.injEq,Prod.mk.injEq] at h;obtain⟨rfl,rfl⟩:=h;simp only[Nat.mul_zero,xXJ];exact⟨fun d hd=>A.le_ok hh.1 hd,fun k d _ hd=>hd,fun k d d' _ _ hb _=>A.le_ok hh.2 hb⟩
 ·split at h
  ·rename_i n f m g c' hg _;have key:∀(n0:Nat) (c0:Nat),c0=c'->g.le f=true->n0+R*c0<=n->(∀k d,k<=R->(addN (.list n0 f) (k*c0)).g d->(A.list n f).g d) /\
     (∀k d d',k<R->(addN (.list n0 f) (k*c0)).g d->(A.list m g).g d'->(∀c',grow E T env' i e=some c'->d'.len<=d.len+c')->(addN (.list n0 f) ((k+1)*c0)).g d'):=by
    intro n0 c0 hc0 hgf hn;subst hc0;refine⟨fun k d hk hd=>?_,fun k d d' hk hd hd' hgr=>?_⟩
    ·have:k*c0<=R*c0:=Nat.mul_le_mul_right _ hk
     rcases hd with rfl|⟨l,rfl,h1,h2⟩
     ·exact .inl rfl
     ·exact .inr ⟨l,rfl,by omega,h2⟩
    ·have h3:=hgr _ hg;have hdl:d.len<=n0+k*c0:=zHF (a:=A.list (n0+k*c0) f) rfl hd;rcases hd' with rfl|⟨l,rfl,h1,h2⟩
     ·exact .inl rfl
     ·refine .inr ⟨l,rfl,?_,fun x hx=>A.le_ok hgf (h2 x hx)⟩;have h3:l.length<=d.len+c0:=h3;rw[Nat.add_mul,Nat.one_mul];omega
   split at h
   ·split at h
    ·rename_i hh;simp only[baZ,dtZ] at hh;simp only[Option.some.injEq,Prod.mk.injEq] at h;obtain⟨rfl,rfl⟩:=h
     have:=key 0 c' rfl hh.1 (by omega)
     exact⟨fun d hd=>by cases hd;exact .inl rfl,this.1,this.2⟩
    ·cases h
   ·rename_i n0 e0 _;split at h
    ·rename_i hh;simp only[baZ,dtZ] at hh;simp only[Option.some.injEq,Prod.mk.injEq] at h;obtain⟨rfl,rfl⟩:=h
     have:=key n0 c' rfl hh.1.2 hh.2
     refine⟨fun d hd=>?_,this.1,this.2⟩;rcases hd with rfl|⟨l,rfl,h1,h2⟩
     ·exact .inl rfl
     ·exact .inr ⟨l,rfl,h1,fun x hx=>A.le_ok hh.1.1 (h2 x hx)⟩
    ·cases h
   ·cases h
  ·cases h
def xNC(E:Nat->List A->A)(T:TT)(env':List A)(R:Nat):Nat->List A->List A->List A->List DE->Option (List (A×Nat))
 | i,a0::as1,v::vs,b::bs,e::es =>
  match modeC E T env' i R a0 v b e,xNC E T env' R (i+1) as1 vs bs es with
  | some m,some ms=>some (m::ms)
  | _,_=>none
 | _,[],[],[],[]=>some []
 | _,_,_,_,_=>none
def atK(k:Nat)(ms:List (A×Nat)):List A:=ms.map fun m=>addN m.1 (k*m.2)
theorem zGH{E:Nat->List A->A}{T:TT}{env':List A}{R:Nat}:∀ {as1 vs bs:List A} {es:List DE} {i:Nat} {ms:List (A×Nat)},xNC E T env' R i as1 vs bs es=some ms ->
  (∀ds,A.gs as1 ds->A.gs (atK 0 ms) ds)/\(∀k ds,k<=R->A.gs (atK k ms) ds->A.gs vs ds) /\
  (∀k ds (δ':List D) (X:Nat->List D->D),k<R->XOk X E->TOk X T->A.gs env' δ'->(∀j,δ'.getD (i+j) .nil=ds.getD j .nil)->A.gs (atK k ms) ds->A.gs bs (zDA X es δ')->A.gs (atK (k+1) ms) (zDA X es δ'))
 | [],[],[],[],i,ms,h=>by
  simp only[xNC,Option.some.injEq] at h;subst h
  exact⟨fun _ h=>h,fun _ _ _ h=>h,fun _ _ _ _ _ _ _ _ _ _ h=>h⟩
 | a0::as1,v::vs,b::bs,e::es,i,ms,h=>by
  simp only[xNC] at h;split at h
  ·rename_i m ms' hm hms;cases h;obtain⟨base,c⟩:=m;obtain⟨p1,p2,p3⟩:=modeC_ok hm;obtain⟨q1,q2,q3⟩:=zGH hms;refine⟨fun ds hd=>?_,fun k ds hk hd=>?_,fun k ds δ' X hk hE hT hδ hj hd hb=>?_⟩
   ·obtain⟨d,r,rfl,h1,h2⟩:=hd
    have:=p1 d h1
    exact⟨d,r,rfl,by simpa using this,q1 r h2⟩
   ·obtain⟨d,r,rfl,h1,h2⟩:=hd;exact⟨d,r,rfl,p2 k d hk h1,q2 k r hk h2⟩
   ·obtain⟨d,r,rfl,h1,h2⟩:=hd;obtain⟨x,y,hxy,h3,h4⟩:=hb;simp only[zDA,List.cons.injEq] at hxy;obtain⟨hx,hy⟩:=hxy;have hji:=hj 0;simp only[Nat.add_zero,gzZ] at hji;refine⟨_,_,rfl,p3 k d _ hk h1 (by rw[hx];exact h3) (fun c' hc=>?_),q3 k r δ' X hk hE hT hδ (fun j=>?_) h2 (by rw[hy];exact h4)⟩
    ·have:=grow_ok hE hT hδ e hc
     rw[hji] at this;exact this
    ·have:=hj (j+1)
     simp only[gsZ] at this;rw[<- this];congr 1;omega
  ·cases h
 | [],_::_,_,_,_,_,h=>by simp[xNC] at h
 | _::_,[],_,_,_,_,h=>by simp[xNC] at h
 | [],[],_::_,_,_,_,h=>by simp[xNC] at h
 | [],[],[],_::_,_,_,h=>by simp[xNC] at h
 | _::_,_::_,[],_,_,_,h=>by simp[xNC] at h
 | _::_,_::_,_::_,[],_,_,h=>by simp[xNC] at h
structure Cert where
 env:List A
 invs:List A
 R:Nat
 e:A
def Cert.all(c:Cert):List A:=c.env++(.int 0 c.R::c.e::c.invs)
def chkN(E:Nat->List A->A)(T:TT)(m:Nm)(c:Cert):Bool :=
 c.env.length==m.lv &&
  match rowsA (abs E T c.env m.src) with
  | none=>false
  | some (R,e)=>decide (R<=c.R)&&e.le c.e &&
   match xNC E T c.all c.R (m.lv+2) (abss E T c.env m.is) c.invs (abss E T c.all m.bs) m.bs with
   | some _=>true
   | none=>false
theorem xZE{X:Nat->List D->D}{m:Nm}{args:List D}{k:Nat}(hk:k<(m.src.eval X args).rows.length) :
  accK X m args (k+1)=zDA X m.bs (args.take m.lv++(.int k::(m.src.eval X args).rows.getD k .nil::accK X m args k)):=by
 unfold accK;generalize hrw:(m.src.eval X args).rows=rows at hk;have e1:rows.take (k+1)=rows.take k++[rows.getD k .nil]:=by
  rw[List.take_add_one]
  congr 1
  simp[List.getD,hk]
 rw[e1,xRA];simp only[Nat.zero_add,List.length_take,Nat.min_eq_left (Nat.le_of_lt hk)]
theorem qPJ{X:Nat->List D->D}{E:Nat->List A->A}{T:TT}{m:Nm}{c:Cert}(hE:XOk X E)(hT:TOk X T)(h:chkN E T m c=true){args:List D}(ha:A.gs c.env args) :
  args.length=m.lv/\(m.src.eval X args).rows.length<=c.R /\ ∀k,k<=(m.src.eval X args).rows.length->A.gs c.invs (accK X m args k) /\
   (k<(m.src.eval X args).rows.length->A.gs c.all (args++(.int k::(m.src.eval X args).rows.getD k .nil::accK X m args k))):=by
 unfold chkN at h;rw[baZ] at h;obtain⟨hl,h⟩:=h;simp only[beq_iff_eq] at hl;have hal:args.length=m.lv:=by rw[<- ySE ha];exact hl
 split at h
 ·cases h
 rename_i R' e' hr;rw[baZ,baZ,dtZ] at h;obtain⟨⟨hR,he⟩,h⟩:=h;split at h
 rotate_left
 ·cases h
 rename_i ms hms;obtain⟨h1,h2⟩:=rowsA_ok hr (xSB hE hT ha m.src);obtain⟨q1,q2,q3⟩:=zGH hms;have htk:args.take m.lv=args:=by rw[<- hal];exact List.take_length
 have hgs:∀k,k<(m.src.eval X args).rows.length->A.gs c.invs (accK X m args k)->A.gs c.all (args++(.int k::(m.src.eval X args).rows.getD k .nil::accK X m args k)):=fun k hk hi =>
  qHD ha ⟨_,_,rfl,⟨_,rfl,by omega,by omega⟩,⟨_,_,rfl,A.le_ok he (h2 _ (by rw[List.getD_eq_getElem?_getD,List.getElem?_eq_getElem hk];exact List.getElem_mem hk)),hi⟩⟩
 have main:∀k,k<=(m.src.eval X args).rows.length->A.gs (atK k ms) (accK X m args k):=by
  intro k
  induction k with
  | zero=>intro _;exact q1 _ (by simpa[accK,zQA] using xYE hE hT ha m.is)
  | succ k ih =>
   intro hk;have h3:=ih (by omega);have h4:=q2 k _ (by omega) h3;have h5:=hgs k (by omega) h4;rw[xZE (by omega),htk];refine q3 k _ _ X (by omega) hE hT h5 (fun j=>?_) h3 (xYE hE hT h5 m.bs);rw[List.getD_eq_getElem?_getD,List.getElem?_append_right (by omega),hal,show m.lv+2+j-m.lv=j+2 by omega];simp[List.getD_eq_getElem?_getD]
 exact⟨hal,by omega,fun k hk=>⟨q2 k _ (by omega) (main k hk),fun hk'=>hgs k hk' (q2 k _ (by omega) (main k hk))⟩⟩
theorem accK_all{X:Nat->List D->D}{m:Nm}{args:List D}:accK X m args (m.src.eval X args).rows.length=zZD X m args:=by
 unfold accK zZD;rw[List.take_length]
def ttOf:List (Nat×Cert)->TT
 | []=>[]
 | (n,c)::r=>(n,(c.env,.row c.invs))::ttOf r
def qCH(n:Nat):List Nm->Option Nm
 | []=>none
 | m::r=>if m.n==n then some m else qCH n r
theorem zME{n:Nat}:∀ {tab:List Nm} {m:Nm},qCH n tab=some m->m∈tab/\m.n=n
 | x::r,m,h=>by
  unfold qCH at h;split at h
  ·rename_i hh;cases h;exact⟨List.mem_cons_self,by simpa using hh⟩
  ·have:=zME h;exact⟨List.mem_cons_of_mem _ this.1,this.2⟩
def qEG(E:Nat->List A->A)(tab:List Nm):List (Nat×Cert)->Bool
 | []=>true
 | (n,c)::r=>qEG E tab r&&match qCH n tab with
  | some m=>chkN E (ttOf r) m c
  | none=>false
theorem zXB{X:Nat->List D->D}{E:Nat->List A->A}{tab:List Nm}(hE:XOk X E)(hX:∀m∈tab,∀args,X m.n args = .row (zZD X m args)):∀ {cs:List (Nat×Cert)},qEG E tab cs=true ->
  TOk X (ttOf cs) /\ ∀n c,lk n cs=some c -> ∃m T,m∈tab/\m.n=n/\TOk X T/\chkN E T m c=true
 | [],_=>⟨fun k env out h=>by simp[ttOf,yTA] at h,fun n c h=>by simp[yTA] at h⟩
 | (n,c)::r,h=>by
  simp only[qEG,baZ] at h;obtain⟨h1,h2⟩:=zXB hE hX h.1;have h3:=h.2;split at h3
  ·rename_i m hm;obtain⟨k1,k2⟩:=zME hm;refine⟨fun k env' out hk args ha=>?_,fun k c' hk=>?_⟩
   ·by_cases hkn:n=k
    ·subst hkn;simp only[ttOf] at hk;rw[zIA] at hk;simp only[Option.some.injEq,Prod.mk.injEq] at hk;obtain⟨rfl,rfl⟩:=hk;obtain⟨_,_,h4⟩:=qPJ hE h1 h3 ha;rw[<- k2,hX m k1];exact⟨_,rfl,by rw[<- accK_all];exact(h4 _ (Nat.le_refl _)).1⟩
    ·simp only[ttOf] at hk;rw[zHA hkn] at hk;exact h1 k env' out hk args ha
   ·by_cases hkn:n=k
    ·subst hkn;rw[zIA] at hk;cases hk;exact⟨m,_,k1,k2,h1,h3⟩
    ·rw[zHA hkn] at hk;exact h2 k c' hk
  ·cases h3
end Go.Mx
namespace Go.Mx
open Go Go.Dx
def de1:DE:=(.f .ite [.f .ltI [.v 1,.f .len [.f (.get 3) [.v 0]]],.f .at [.f (.get 3) [.v 0],.v 1],.f .mkrow [.k (.int 0),.k .nil,.k (.bool false),.k .nil,.k .nil]])
def ob1:List Ob:=[.when (.f .ltI [.v 1,.f .len [.f (.get 3) [.v 0]]]) true [.idx (.v 1) (.f (.get 3) [.v 0]) true]]
def de2:DE:=(.f .ite [.v 1,.f .app [.v 0,.f .mkbytes [.k (.int 1)]],.f .app [.v 0,.f .mkbytes [.k (.int 0)]]])
def ob2:List Ob:=[.when (.v 1) true [.room (.f .app [.v 0,.f .mkbytes [.k (.int 1)]]) 1],.when (.v 1) false [.room (.f .app [.v 0,.f .mkbytes [.k (.int 0)]]) 1]]
def de4:DE:=(.f (.ext 5) [.v 0,.f (.wrap .u16) [.v 1]])
def ob4:List Ob:=[.pre 5 [.v 0,.f (.wrap .u16) [.v 1]]]
def de5:DE:=(.f .app [.v 0,.f .mkbytes [.f (.wrap .u8) [.f (.shr .u16) [.v 1,.k (.int 8)]],.f (.wrap .u8) [.v 1]]])
def ob5:List Ob:=[.room (.f .app [.v 0,.f .mkbytes [.f (.wrap .u8) [.f (.shr .u16) [.v 1,.k (.int 8)]],.f (.wrap .u8) [.v 1]]]) 1]
def de6:DE:=(.f (.ext 30) [.v 0,.f (.wrap .u32) [.v 1]])
def ob6:List Ob:=[.pre 30 [.v 0,.f (.wrap .u32) [.v 1]]]
def de7:DE:=(.f (.ext 29) [.v 0,.f (.wrap .u64) [.v 1]])
def ob7:List Ob:=[.pre 29 [.v 0,.f (.wrap .u64) [.v 1]]]
def de10:DE:=(.f .ite [.f .eqI [.f (.ext 31) [.v 1],.k (.int 5)],.f .app [.v 0,.f .mkbytes [.f (.wrap .u8) [.f (.bor .u32) [.f (.band .u32) [.v 1,.k (.int 127)],.k (.int 128)]],.f (.wrap .u8) [.f (.bor .u32) [.f (.band .u32) [.f (.shr .u32) [.v 1,.k (.int 7)],.k (.int 127)],.k (.int 128)]],.f (.wrap .u8) [.f (.bor .u32) [.f (.band .u32) [.f (.shr .u32) [.v 1,.k (.int 14)],.k (.int 127)],.k (.int 128)]],.f (.wrap .u8) [.f (.bor .u32) [.f (.band .u32) [.f (.shr .u32) [.v 1,.k (.int 21)],.k (.int 127)],.k (.int 128)]],.f (.wrap .u8) [.f (.shr .u32) [.v 1,.k (.int 28)]]]],.f .ite [.f .eqI [.f (.ext 31) [.v 1],.k (.int 4)],.f .app [.v 0,.f .mkbytes [.f (.wrap .u8) [.f (.bor .u32) [.f (.band .u32) [.v 1,.k (.int 127)],.k (.int 128)]],.f (.wrap .u8) [.f (.bor .u32) [.f (.band .u32) [.f (.shr .u32) [.v 1,.k (.int 7)],.k (.int 127)],.k (.int 128)]],.f (.wrap .u8) [.f (.bor .u32) [.f (.band .u32) [.f (.shr .u32) [.v 1,.k (.int 14)],.k (.int 127)],.k (.int 128)]],.f (.wrap .u8) [.f (.shr .u32) [.v 1,.k (.int 21)]]]],.f .ite [.f .eqI [.f (.ext 31) [.v 1],.k (.int 3)],.f .app [.v 0,.f .mkbytes [.f (.wrap .u8) [.f (.bor .u32) [.f (.band .u32) [.v 1,.k (.int 127)],.k (.int 128)]],.f (.wrap .u8) [.f (.bor .u32) [.f (.band .u32) [.f (.shr .u32) [.v 1,.k (.int 7)],.k (.int 127)],.k (.int 128)]],.f (.wrap .u8) [.f (.shr .u32) [.v 1,.k (.int 14)]]]],.f .ite [.f .eqI [.f (.ext 31) [.v 1],.k (.int 2)],.f .app [.v 0,.f .mkbytes [.f (.wrap .u8) [.f (.bor .u32) [.f (.band .u32) [.v 1,.k (.int 127)],.k (.int 128)]],.f (.wrap .u8) [.f (.shr .u32) [.v 1,.k (.int 7)]]]],.f .ite [.f .eqI [.f (.ext 31) [.v 1],.k (.int 1)],.f .app [.v 0,.f .mkbytes [.f (.wrap .u8) [.v 1]]],.v 0]]]]])
def ob10:List Ob:=[.when (.f .eqI [.f (.ext 31) [.v 1],.k (.int 5)]) true [.room (.f .app [.v 0,.f .mkbytes [.f (.wrap .u8) [.f (.bor .u32) [.f (.band .u32) [.v 1,.k (.int 127)],.k (.int 128)]],.f (.wrap .u8) [.f (.bor .u32) [.f (.band .u32) [.f (.shr .u32) [.v 1,.k (.int 7)],.k (.int 127)],.k (.int 128)]],.f (.wrap .u8) [.f (.bor .u32) [.f (.band .u32) [.f (.shr .u32) [.v 1,.k (.int 14)],.k (.int 127)],.k (.int 128)]],.f (.wrap .u8) [.f (.bor .u32) [.f (.band .u32) [.f (.shr .u32) [.v 1,.k (.int 21)],.k (.int 127)],.k (.int 128)]],.f (.wrap .u8) [.f (.shr .u32) [.v 1,.k (.int 28)]]]]) 1],.when (.f .eqI [.f (.ext 31) [.v 1],.k (.int 5)]) false [.when (.f .eqI [.f (.ext 31) [.v 1],.k (.int 4)]) true [.room (.f .app [.v 0,.f .mkbytes [.f (.wrap .u8) [.f (.bor .u32) [.f (.band .u32) [.v 1,.k (.int 127)],.k (.int 128)]],.f (.wrap .u8) [.f (.bor .u32) [.f (.band .u32) [.f (.shr .u32) [.v 1,.k (.int 7)],.k (.int 127)],.k (.int 128)]],.f (.wrap .u8) [.f (.bor .u32) [.f (.band .u32) [.f (.shr .u32) [.v 1,.k (.int 14)],.k (.int 127)],.k (.int 128)]],.f (.wrap .u8) [.f (.shr .u32) [.v 1,.k (.int 21)]]]]) 1],.when (.f .eqI [.f (.ext 31) [.v 1],.k (.int 4)]) false [.when (.f .eqI [.f (.ext 31) [.v 1],.k (.int 3)]) true [.room (.f .app [.v 0,.f .mkbytes [.f (.wrap .u8) [.f (.bor .u32) [.f (.band .u32) [.v 1,.k (.int 127)],.k (.int 128)]],.f (.wrap .u8) [.f (.bor .u32) [.f (.band .u32) [.f (.shr .u32) [.v 1,.k (.int 7)],.k (.int 127)],.k (.int 128)]],.f (.wrap .u8) [.f (.shr .u32) [.v 1,.k (.int 14)]]]]) 1],.when (.f .eqI [.f (.ext 31) [.v 1],.k (.int 3)]) false [.when (.f .eqI [.f (.ext 31) [.v 1],.k (.int 2)]) true [.room (.f .app [.v 0,.f .mkbytes [.f (.wrap .u8) [.f (.bor .u32) [.f (.band .u32) [.v 1,.k (.int 127)],.k (.int 128)]],.f (.wrap .u8) [.f (.shr .u32) [.v 1,.k (.int 7)]]]]) 1],.when (.f .eqI [.f (.ext 31) [.v 1],.k (.int 2)]) false [.when (.f .eqI [.f (.ext 31) [.v 1],.k (.int 1)]) true [.room (.f .app [.v 0,.f .mkbytes [.f (.wrap .u8) [.v 1]]]) 1]]]]],.pre 31 [.v 1]]
def de11:DE:=(.f .app [.f (.ext 4) [.v 0,.f (.wrap .i16) [.f .len [.v 1]]],.v 1])
def ob11:List Ob:=[.room (.f .app [.f (.ext 4) [.v 0,.f (.wrap .i16) [.f .len [.v 1]]],.v 1]) 1,.pre 4 [.v 0,.f (.wrap .i16) [.f .len [.v 1]]]]
def de12:DE:=(.f .app [.f (.ext 10) [.v 0,.f (.add .u32) [.k (.int 1),.f (.wrap .u32) [.f .len [.v 1]]]],.v 1])
def ob12:List Ob:=[.room (.f .app [.f (.ext 10) [.v 0,.f (.add .u32) [.k (.int 1),.f (.wrap .u32) [.f .len [.v 1]]]],.v 1]) 1,.pre 10 [.v 0,.f (.add .u32) [.k (.int 1),.f (.wrap .u32) [.f .len [.v 1]]]]]
def de15:DE:=(.f .app [.f (.ext 6) [.v 0,.f (.wrap .i32) [.f .len [.v 1]]],.v 1])
def ob15:List Ob:=[.room (.f .app [.f (.ext 6) [.v 0,.f (.wrap .i32) [.f .len [.v 1]]],.v 1]) 1,.pre 6 [.v 0,.f (.wrap .i32) [.f .len [.v 1]]]]
def de17:DE:=(.f .ite [.f .isNil [.v 1],.f (.ext 6) [.v 0,.k (.int (-1))],.f (.ext 15) [.v 0,.v 1]])
def ob17:List Ob:=[.when (.f .isNil [.v 1]) true [.pre 6 [.v 0,.k (.int (-1))]],.when (.f .isNil [.v 1]) false [.pre 15 [.v 0,.v 1]]]
def de26:DE:=(.f .ite [.f (.get 2) [.v 0],.k .nil,.f .mkptr [.f .toStr [.f (.get 1) [.v 0]]]])
def ob26:List Ob:=[]
def de27:DE:=(.f .ite [.f (.get 2) [.v 0],.k .nil,.f .app [.f .mkbytes [],.f (.get 1) [.v 0]]])
def ob27:List Ob:=[.when (.f (.get 2) [.v 0]) false [.room (.f .app [.f .mkbytes [],.f (.get 1) [.v 0]]) 1]]
def de29:DE:=(.f .app [.v 0,.f .mkbytes [.f (.wrap .u8) [.f (.shr .u64) [.v 1,.k (.int 56)]],.f (.wrap .u8) [.f (.shr .u64) [.v 1,.k (.int 48)]],.f (.wrap .u8) [.f (.shr .u64) [.v 1,.k (.int 40)]],.f (.wrap .u8) [.f (.shr .u64) [.v 1,.k (.int 32)]],.f (.wrap .u8) [.f (.shr .u64) [.v 1,.k (.int 24)]],.f (.wrap .u8) [.f (.shr .u64) [.v 1,.k (.int 16)]],.f (.wrap .u8) [.f (.shr .u64) [.v 1,.k (.int 8)]],.f (.wrap .u8) [.v 1]]])
def ob29:List Ob:=[.room (.f .app [.v 0,.f .mkbytes [.f (.wrap .u8) [.f (.shr .u64) [.v 1,.k (.int 56)]],.f (.wrap .u8) [.f (.shr .u64) [.v 1,.k (.int 48)]],.f (.wrap .u8) [.f (.shr .u64) [.v 1,.k (.int 40)]],.f (.wrap .u8) [.f (.shr .u64) [.v 1,.k (.int 32)]],.f (.wrap .u8) [.f (.shr .u64) [.v 1,.k (.int 24)]],.f (.wrap .u8) [.f (.shr .u64) [.v 1,.k (.int 16)]],.f (.wrap .u8) [.f (.shr .u64) [.v 1,.k (.int 8)]],.f (.wrap .u8) [.v 1]]]) 1]
def de30:DE:=(.f .app [.v 0,.f .mkbytes [.f (.wrap .u8) [.f (.shr .u32) [.v 1,.k (.int 24)]],.f (.wrap .u8) [.f (.shr .u32) [.v 1,.k (.int 16)]],.f (.wrap .u8) [.f (.shr .u32) [.v 1,.k (.int 8)]],.f (.wrap .u8) [.v 1]]])
def ob30:List Ob:=[.room (.f .app [.v 0,.f .mkbytes [.f (.wrap .u8) [.f (.shr .u32) [.v 1,.k (.int 24)]],.f (.wrap .u8) [.f (.shr .u32) [.v 1,.k (.int 16)]],.f (.wrap .u8) [.f (.shr .u32) [.v 1,.k (.int 8)]],.f (.wrap .u8) [.v 1]]]) 1]
def de40:DE:=(.f .ite [.f .ltI [.v 1,.f .len [.f (.get 3) [.v 0]]],.f .at [.f (.get 3) [.v 0],.v 1],.f .mkrow [.k (.int 0),.k .nil,.k (.bool false),.k .nil,.k .nil]])
def ob40:List Ob:=[.when (.f .ltI [.v 1,.f .len [.f (.get 3) [.v 0]]]) true [.idx (.v 1) (.f (.get 3) [.v 0]) true]]
def de41:DE:=(.fold 2 (.f .take [.v 1,.f .imin [.f .len [.v 1],.k (.int 32767)]]) [.k .nil] [.f .ite [.f .ite [.f .ltI [.f (.get 0) [.v 3],.f (.ext 51) [.v 0]],.k (.bool true),.f .ite [.f .ltI [.fold 5 (.f .iota [.wh 5 (.f .ite [.f .ltI [.v 7,.f .len [.v 4]],.f .ltI [.f (.get 0) [.f .at [.v 4,.v 7]],.f (.get 0) [.v 3]],.k (.bool false)]) [.k (.int 0)] [.f (.add .i64) [.v 7,.k (.int 1)]]]) [.k (.int 0)] [.f (.add .i64) [.v 7,.k (.int 1)]] 0,.f .len [.v 4]],.f .eqI [.f (.get 0) [.f .at [.v 4,.fold 5 (.f .iota [.wh 5 (.f .ite [.f .ltI [.v 7,.f .len [.v 4]],.f .ltI [.f (.get 0) [.f .at [.v 4,.v 7]],.f (.get 0) [.v 3]],.k (.bool false)]) [.k (.int 0)] [.f (.add .i64) [.v 7,.k (.int 1)]]]) [.k (.int 0)] [.f (.add .i64) [.v 7,.k (.int 1)]] 0]],.f (.get 0) [.v 3]],.k (.bool false)]],.v 4,.f .setAt [.fold 5 (.f .iota [.wh 5 (.f .ltI [.fold 5 (.f .iota [.wh 5 (.f .ite [.f .ltI [.v 7,.f .len [.v 4]],.f .ltI [.f (.get 0) [.f .at [.v 4,.v 7]],.f (.get 0) [.v 3]],.k (.bool false)]) [.k (.int 0)] [.f (.add .i64) [.v 7,.k (.int 1)]]]) [.k (.int 0)] [.f (.add .i64) [.v 7,.k (.int 1)]] 0,.v 7]) [.f (.sub .i64) [.f .len [.f .app [.v 4,.f .mklist [.f .mkrow [.k (.int 0),.k .nil]]]],.k (.int 1)],.f .app [.v 4,.f .mklist [.f .mkrow [.k (.int 0),.k .nil]]]] [.f (.sub .i64) [.v 7,.k (.int 1)],.f .setAt [.v 8,.v 7,.f .at [.v 8,.f (.sub .i64) [.v 7,.k (.int 1)]]]]]) [.f (.sub .i64) [.f .len [.f .app [.v 4,.f .mklist [.f .mkrow [.k (.int 0),.k .nil]]]],.k (.int 1)],.f .app [.v 4,.f .mklist [.f .mkrow [.k (.int 0),.k .nil]]]] [.f (.sub .i64) [.v 7,.k (.int 1)],.f .setAt [.v 8,.v 7,.f .at [.v 8,.f (.sub .i64) [.v 7,.k (.int 1)]]]] 1,.fold 5 (.f .iota [.wh 5 (.f .ite [.f .ltI [.v 7,.f .len [.v 4]],.f .ltI [.f (.get 0) [.f .at [.v 4,.v 7]],.f (.get 0) [.v 3]],.k (.bool false)]) [.k (.int 0)] [.f (.add .i64) [.v 7,.k (.int 1)]]]) [.k (.int 0)] [.f (.add .i64) [.v 7,.k (.int 1)]] 0,.v 3]]] 0)
def ob41:List Ob:=[.all (.f .take [.v 1,.f .imin [.f .len [.v 1],.k (.int 32767)]]) [.k .nil] [.f .ite [.f .ite [.f .ltI [.f (.get 0) [.v 3],.f (.ext 51) [.v 0]],.k (.bool true),.f .ite [.f .ltI [.fold 5 (.f .iota [.wh 5 (.f .ite [.f .ltI [.v 7,.f .len [.v 4]],.f .ltI [.f (.get 0) [.f .at [.v 4,.v 7]],.f (.get 0) [.v 3]],.k (.bool false)]) [.k (.int 0)] [.f (.add .i64) [.v 7,.k (.int 1)]]]) [.k (.int 0)] [.f (.add .i64) [.v 7,.k (.int 1)]] 0,.f .len [.v 4]],.f .eqI [.f (.get 0) [.f .at [.v 4,.fold 5 (.f .iota [.wh 5 (.f .ite [.f .ltI [.v 7,.f .len [.v 4]],.f .ltI [.f (.get 0) [.f .at [.v 4,.v 7]],.f (.get 0) [.v 3]],.k (.bool false)]) [.k (.int 0)] [.f (.add .i64) [.v 7,.k (.int 1)]]]) [.k (.int 0)] [.f (.add .i64) [.v 7,.k (.int 1)]] 0]],.f (.get 0) [.v 3]],.k (.bool false)]],.v 4,.f .setAt [.fold 5 (.f .iota [.wh 5 (.f .ltI [.fold 5 (.f .iota [.wh 5 (.f .ite [.f .ltI [.v 7,.f .len [.v 4]],.f .ltI [.f (.get 0) [.f .at [.v 4,.v 7]],.f (.get 0) [.v 3]],.k (.bool false)]) [.k (.int 0)] [.f (.add .i64) [.v 7,.k (.int 1)]]]) [.k (.int 0)] [.f (.add .i64) [.v 7,.k (.int 1)]] 0,.v 7]) [.f (.sub .i64) [.f .len [.f .app [.v 4,.f .mklist [.f .mkrow [.k (.int 0),.k .nil]]]],.k (.int 1)],.f .app [.v 4,.f .mklist [.f .mkrow [.k (.int 0),.k .nil]]]] [.f (.sub .i64) [.v 7,.k (.int 1)],.f .setAt [.v 8,.v 7,.f .at [.v 8,.f (.sub .i64) [.v 7,.k (.int 1)]]]]]) [.f (.sub .i64) [.f .len [.f .app [.v 4,.f .mklist [.f .mkrow [.k (.int 0),.k .nil]]]],.k (.int 1)],.f .app [.v 4,.f .mklist [.f .mkrow [.k (.int 0),.k .nil]]]] [.f (.sub .i64) [.v 7,.k (.int 1)],.f .setAt [.v 8,.v 7,.f .at [.v 8,.f (.sub .i64) [.v 7,.k (.int 1)]]]] 1,.fold 5 (.f .iota [.wh 5 (.f .ite [.f .ltI [.v 7,.f .len [.v 4]],.f .ltI [.f (.get 0) [.f .at [.v 4,.v 7]],.f (.get 0) [.v 3]],.k (.bool false)]) [.k (.int 0)] [.f (.add .i64) [.v 7,.k (.int 1)]]]) [.k (.int 0)] [.f (.add .i64) [.v 7,.k (.int 1)]] 0,.v 3]]] [.when (.f .ite [.f .ltI [.f (.get 0) [.v 3],.f (.ext 51) [.v 0]],.k (.bool true),.f .ite [.f .ltI [.fold 5 (.f .iota [.wh 5 (.f .ite [.f .ltI [.v 7,.f .len [.v 4]],.f .ltI [.f (.get 0) [.f .at [.v 4,.v 7]],.f (.get 0) [.v 3]],.k (.bool false)]) [.k (.int 0)] [.f (.add .i64) [.v 7,.k (.int 1)]]]) [.k (.int 0)] [.f (.add .i64) [.v 7,.k (.int 1)]] 0,.f .len [.v 4]],.f .eqI [.f (.get 0) [.f .at [.v 4,.fold 5 (.f .iota [.wh 5 (.f .ite [.f .ltI [.v 7,.f .len [.v 4]],.f .ltI [.f (.get 0) [.f .at [.v 4,.v 7]],.f (.get 0) [.v 3]],.k (.bool false)]) [.k (.int 0)] [.f (.add .i64) [.v 7,.k (.int 1)]]]) [.k (.int 0)] [.f (.add .i64) [.v 7,.k (.int 1)]] 0]],.f (.get 0) [.v 3]],.k (.bool false)]]) false [.idx (.fold 5 (.f .iota [.wh 5 (.f .ite [.f .ltI [.v 7,.f .len [.v 4]],.f .ltI [.f (.get 0) [.f .at [.v 4,.v 7]],.f (.get 0) [.v 3]],.k (.bool false)]) [.k (.int 0)] [.f (.add .i64) [.v 7,.k (.int 1)]]]) [.k (.int 0)] [.f (.add .i64) [.v 7,.k (.int 1)]] 0) (.fold 5 (.f .iota [.wh 5 (.f .ltI [.fold 5 (.f .iota [.wh 5 (.f .ite [.f .ltI [.v 7,.f .len [.v 4]],.f .ltI [.f (.get 0) [.f .at [.v 4,.v 7]],.f (.get 0) [.v 3]],.k (.bool false)]) [.k (.int 0)] [.f (.add .i64) [.v 7,.k (.int 1)]]]) [.k (.int 0)] [.f (.add .i64) [.v 7,.k (.int 1)]] 0,.v 7]) [.f (.sub .i64) [.f .len [.f .app [.v 4,.f .mklist [.f .mkrow [.k (.int 0),.k .nil]]]],.k (.int 1)],.f .app [.v 4,.f .mklist [.f .mkrow [.k (.int 0),.k .nil]]]] [.f (.sub .i64) [.v 7,.k (.int 1)],.f .setAt [.v 8,.v 7,.f .at [.v 8,.f (.sub .i64) [.v 7,.k (.int 1)]]]]]) [.f (.sub .i64) [.f .len [.f .app [.v 4,.f .mklist [.f .mkrow [.k (.int 0),.k .nil]]]],.k (.int 1)],.f .app [.v 4,.f .mklist [.f .mkrow [.k (.int 0),.k .nil]]]] [.f (.sub .i64) [.v 7,.k (.int 1)],.f .setAt [.v 8,.v 7,.f .at [.v 8,.f (.sub .i64) [.v 7,.k (.int 1)]]]] 1) true,.idx (.fold 5 (.f .iota [.wh 5 (.f .ite [.f .ltI [.v 7,.f .len [.v 4]],.f .ltI [.f (.get 0) [.f .at [.v 4,.v 7]],.f (.get 0) [.v 3]],.k (.bool false)]) [.k (.int 0)] [.f (.add .i64) [.v 7,.k (.int 1)]]]) [.k (.int 0)] [.f (.add .i64) [.v 7,.k (.int 1)]] 0) (.fold 5 (.f .iota [.wh 5 (.f .ltI [.fold 5 (.f .iota [.wh 5 (.f .ite [.f .ltI [.v 7,.f .len [.v 4]],.f .ltI [.f (.get 0) [.f .at [.v 4,.v 7]],.f (.get 0) [.v 3]],.k (.bool false)]) [.k (.int 0)] [.f (.add .i64) [.v 7,.k (.int 1)]]]) [.k (.int 0)] [.f (.add .i64) [.v 7,.k (.int 1)]] 0,.v 7]) [.f (.sub .i64) [.f .len [.f .app [.v 4,.f .mklist [.f .mkrow [.k (.int 0),.k .nil]]]],.k (.int 1)],.f .app [.v 4,.f .mklist [.f .mkrow [.k (.int 0),.k .nil]]]] [.f (.sub .i64) [.v 7,.k (.int 1)],.f .setAt [.v 8,.v 7,.f .at [.v 8,.f (.sub .i64) [.v 7,.k (.int 1)]]]]]) [.f (.sub .i64) [.f .len [.f .app [.v 4,.f .mklist [.f .mkrow [.k (.int 0),.k .nil]]]],.k (.int 1)],.f .app [.v 4,.f .mklist [.f .mkrow [.k (.int 0),.k .nil]]]] [.f (.sub .i64) [.v 7,.k (.int 1)],.f .setAt [.v 8,.v 7,.f .at [.v 8,.f (.sub .i64) [.v 7,.k (.int 1)]]]] 1) true,(.term 5 (.f .ltI [.fold 5 (.f .iota [.wh 5 (.f .ite [.f .ltI [.v 7,.f .len [.v 4]],.f .ltI [.f (.get 0) [.f .at [.v 4,.v 7]],.f (.get 0) [.v 3]],.k (.bool false)]) [.k (.int 0)] [.f (.add .i64) [.v 7,.k (.int 1)]]]) [.k (.int 0)] [.f (.add .i64) [.v 7,.k (.int 1)]] 0,.v 7]) [.f (.sub .i64) [.f .len [.f .app [.v 4,.f .mklist [.f .mkrow [.k (.int 0),.k .nil]]]],.k (.int 1)],.f .app [.v 4,.f .mklist [.f .mkrow [.k (.int 0),.k .nil]]]] [.f (.sub .i64) [.v 7,.k (.int 1)],.f .setAt [.v 8,.v 7,.f .at [.v 8,.f (.sub .i64) [.v 7,.k (.int 1)]]]]),.all (.f .iotaS [.wh 5 (.f .ltI [.fold 5 (.f .iota [.wh 5 (.f .ite [.f .ltI [.v 7,.f .len [.v 4]],.f .ltI [.f (.get 0) [.f .at [.v 4,.v 7]],.f (.get 0) [.v 3]],.k (.bool false)]) [.k (.int 0)] [.f (.add .i64) [.v 7,.k (.int 1)]]]) [.k (.int 0)] [.f (.add .i64) [.v 7,.k (.int 1)]] 0,.v 7]) [.f (.sub .i64) [.f .len [.f .app [.v 4,.f .mklist [.f .mkrow [.k (.int 0),.k .nil]]]],.k (.int 1)],.f .app [.v 4,.f .mklist [.f .mkrow [.k (.int 0),.k .nil]]]] [.f (.sub .i64) [.v 7,.k (.int 1)],.f .setAt [.v 8,.v 7,.f .at [.v 8,.f (.sub .i64) [.v 7,.k (.int 1)]]]]]) [.f (.sub .i64) [.f .len [.f .app [.v 4,.f .mklist [.f .mkrow [.k (.int 0),.k .nil]]]],.k (.int 1)],.f .app [.v 4,.f .mklist [.f .mkrow [.k (.int 0),.k .nil]]]] [.f (.sub .i64) [.v 7,.k (.int 1)],.f .setAt [.v 8,.v 7,.f .at [.v 8,.f (.sub .i64) [.v 7,.k (.int 1)]]]] [.when (.f .ltI [.fold 5 (.f .iota [.wh 5 (.f .ite [.f .ltI [.v 7,.f .len [.v 4]],.f .ltI [.f (.get 0) [.f .at [.v 4,.v 7]],.f (.get 0) [.v 3]],.k (.bool false)]) [.k (.int 0)] [.f (.add .i64) [.v 7,.k (.int 1)]]]) [.k (.int 0)] [.f (.add .i64) [.v 7,.k (.int 1)]] 0,.v 7]) true [.idx (.v 7) (.v 8) true,.idx (.v 7) (.v 8) true,.idx (.f (.sub .i64) [.v 7,.k (.int 1)]) (.v 8) true,.idx (.f (.sub .i64) [.v 7,.k (.int 1)]) (.v 8) true]],.room (.f .app [.v 4,.f .mklist [.f .mkrow [.k (.int 0),.k .nil]]]) 32],.when (.f .ltI [.f (.get 0) [.v 3],.f (.ext 51) [.v 0]]) false [.when (.f .ltI [.fold 5 (.f .iota [.wh 5 (.f .ite [.f .ltI [.v 7,.f .len [.v 4]],.f .ltI [.f (.get 0) [.f .at [.v 4,.v 7]],.f (.get 0) [.v 3]],.k (.bool false)]) [.k (.int 0)] [.f (.add .i64) [.v 7,.k (.int 1)]]]) [.k (.int 0)] [.f (.add .i64) [.v 7,.k (.int 1)]] 0,.f .len [.v 4]]) true [.idx (.fold 5 (.f .iota [.wh 5 (.f .ite [.f .ltI [.v 7,.f .len [.v 4]],.f .ltI [.f (.get 0) [.f .at [.v 4,.v 7]],.f (.get 0) [.v 3]],.k (.bool false)]) [.k (.int 0)] [.f (.add .i64) [.v 7,.k (.int 1)]]]) [.k (.int 0)] [.f (.add .i64) [.v 7,.k (.int 1)]] 0) (.v 4) true,.idx (.fold 5 (.f .iota [.wh 5 (.f .ite [.f .ltI [.v 7,.f .len [.v 4]],.f .ltI [.f (.get 0) [.f .at [.v 4,.v 7]],.f (.get 0) [.v 3]],.k (.bool false)]) [.k (.int 0)] [.f (.add .i64) [.v 7,.k (.int 1)]]]) [.k (.int 0)] [.f (.add .i64) [.v 7,.k (.int 1)]] 0) (.v 4) true]],(.term 5 (.f .ite [.f .ltI [.v 7,.f .len [.v 4]],.f .ltI [.f (.get 0) [.f .at [.v 4,.v 7]],.f (.get 0) [.v 3]],.k (.bool false)]) [.k (.int 0)] [.f (.add .i64) [.v 7,.k (.int 1)]]),.all (.f .iotaS [.wh 5 (.f .ite [.f .ltI [.v 7,.f .len [.v 4]],.f .ltI [.f (.get 0) [.f .at [.v 4,.v 7]],.f (.get 0) [.v 3]],.k (.bool false)]) [.k (.int 0)] [.f (.add .i64) [.v 7,.k (.int 1)]]]) [.k (.int 0)] [.f (.add .i64) [.v 7,.k (.int 1)]] [.when (.f .ltI [.v 7,.f .len [.v 4]]) true [.idx (.v 7) (.v 4) true,.idx (.v 7) (.v 4) true]]],.idx (.f .imin [.f .len [.v 1],.k (.int 32767)]) (.v 1) false,.pre 51 [.v 0]]
def de42:DE:=(.f .ite [.f .ite [.f .eqI [.f (.get 0) [.v 0],.k (.int 8)],.f .eqI [.f (.get 0) [.v 0],.k (.int 8)],.f .eqI [.f (.get 0) [.v 0],.k (.int 9)]],.f .mkrow [.k (.int 0),.f .take [.f (.get 1) [.v 2],.f .imin [.f .len [.f (.get 1) [.v 2]],.k (.int 32767)]],.f (.ext 56) [.v 0,.v 1,.v 2],.k .nil,.k .nil],.f .ite [.f .eqI [.f (.get 0) [.v 0],.k (.int 10)],.f .mkrow [.f (.get 0) [.f (.ext 43) [.f (.get 7) [.v 0],.v 1,.v 2]],.f (.get 1) [.f (.ext 43) [.f (.get 7) [.v 0],.v 1,.v 2]],.f (.ext 56) [.v 0,.v 1,.v 2],.f (.get 3) [.f (.ext 43) [.f (.get 7) [.v 0],.v 1,.v 2]],.f (.get 4) [.f (.ext 43) [.f (.get 7) [.v 0],.v 1,.v 2]]],.f .ite [.f .eqI [.f (.get 0) [.v 0],.k (.int 11)],.f .mkrow [.k (.int 0),.k .nil,.f .ite [.f (.ext 56) [.v 0,.v 1,.v 2],.k (.bool true),.f .ite [.f .leI [.k (.int 0),.f (.get 4) [.v 0]],.f .eqI [.f .len [.f (.get 3) [.v 2]],.k (.int 0)],.k (.bool false)]],.fold 3 (.f .take [.f (.get 3) [.v 2],.f .imin [.f .len [.f (.get 3) [.v 2]],.k (.int 32767)]]) [.k .nil] [.f .app [.v 5,.f .mklist [.f (.ext 42) [.f .mkrow [.f (.get 6) [.v 0],.f (.get 1) [.v 0],.f (.get 2) [.v 0],.k (.int (-1)),.k (.int (-1)),.f (.get 5) [.v 0],.f (.get 6) [.v 0],.f (.get 7) [.v 0]],.v 1,.v 4]]]] 0,.k .nil],.f .mkrow [.f (.get 0) [.v 2],.f (.get 1) [.v 2],.k (.bool false),.k .nil,.k .nil]]]])
def ob42:List Ob:=[.when (.f .ite [.f .eqI [.f (.get 0) [.v 0],.k (.int 8)],.f .eqI [.f (.get 0) [.v 0],.k (.int 8)],.f .eqI [.f (.get 0) [.v 0],.k (.int 9)]]) true [.idx (.f .imin [.f .len [.f (.get 1) [.v 2]],.k (.int 32767)]) (.f (.get 1) [.v 2]) false],.when (.f .ite [.f .eqI [.f (.get 0) [.v 0],.k (.int 8)],.f .eqI [.f (.get 0) [.v 0],.k (.int 8)],.f .eqI [.f (.get 0) [.v 0],.k (.int 9)]]) false [.when (.f .eqI [.f (.get 0) [.v 0],.k (.int 10)]) true [.pre 43 [.f (.get 7) [.v 0],.v 1,.v 2]],.when (.f .eqI [.f (.get 0) [.v 0],.k (.int 10)]) false [.when (.f .eqI [.f (.get 0) [.v 0],.k (.int 11)]) true [.all (.f .take [.f (.get 3) [.v 2],.f .imin [.f .len [.f (.get 3) [.v 2]],.k (.int 32767)]]) [.k .nil] [.f .app [.v 5,.f .mklist [.f (.ext 42) [.f .mkrow [.f (.get 6) [.v 0],.f (.get 1) [.v 0],.f (.get 2) [.v 0],.k (.int (-1)),.k (.int (-1)),.f (.get 5) [.v 0],.f (.get 6) [.v 0],.f (.get 7) [.v 0]],.v 1,.v 4]]]] [.room (.f .app [.v 5,.f .mklist [.f (.ext 42) [.f .mkrow [.f (.get 6) [.v 0],.f (.get 1) [.v 0],.f (.get 2) [.v 0],.k (.int (-1)),.k (.int (-1)),.f (.get 5) [.v 0],.f (.get 6) [.v 0],.f (.get 7) [.v 0]],.v 1,.v 4]]]) 88,.pre 42 [.f .mkrow [.f (.get 6) [.v 0],.f (.get 1) [.v 0],.f (.get 2) [.v 0],.k (.int (-1)),.k (.int (-1)),.f (.get 5) [.v 0],.f (.get 6) [.v 0],.f (.get 7) [.v 0]],.v 1,.v 4]],.idx (.f .imin [.f .len [.f (.get 3) [.v 2]],.k (.int 32767)]) (.f (.get 3) [.v 2]) false]]],.pre 56 [.v 0,.v 1,.v 2]]
def de43:DE:=(.f .mkrow [.k (.int 0),.k .nil,.k (.bool false),.fold 3 (.v 0) [.k .nil] [.f .app [.v 5,.f .mklist [.f (.ext 42) [.v 4,.v 1,.f (.ext 40) [.v 2,.v 3]]]]] 0,.fold 3 (.f (.ext 41) [.v 0,.f (.get 4) [.v 2]]) [.k .nil] [.f .app [.v 5,.f .mklist [.f .mkrow [.f (.get 0) [.v 4],.f .take [.f (.get 1) [.v 4],.f .imin [.f .len [.f (.get 1) [.v 4]],.k (.int 32767)]]]]]] 0])
def ob43:List Ob:=[.all (.f (.ext 41) [.v 0,.f (.get 4) [.v 2]]) [.k .nil] [.f .app [.v 5,.f .mklist [.f .mkrow [.f (.get 0) [.v 4],.f .take [.f (.get 1) [.v 4],.f .imin [.f .len [.f (.get 1) [.v 4]],.k (.int 32767)]]]]]] [.room (.f .app [.v 5,.f .mklist [.f .mkrow [.f (.get 0) [.v 4],.f .take [.f (.get 1) [.v 4],.f .imin [.f .len [.f (.get 1) [.v 4]],.k (.int 32767)]]]]]) 32,.idx (.f .imin [.f .len [.f (.get 1) [.v 4]],.k (.int 32767)]) (.f (.get 1) [.v 4]) false],.pre 41 [.v 0,.f (.get 4) [.v 2]],.all (.v 0) [.k .nil] [.f .app [.v 5,.f .mklist [.f (.ext 42) [.v 4,.v 1,.f (.ext 40) [.v 2,.v 3]]]]] [.room (.f .app [.v 5,.f .mklist [.f (.ext 42) [.v 4,.v 1,.f (.ext 40) [.v 2,.v 3]]]]) 88,.pre 42 [.v 4,.v 1,.f (.ext 40) [.v 2,.v 3]],.pre 40 [.v 2,.v 3]]]
def de44:DE:=(.f .mkrow [.f (.get 0) [.v 0],.f (.get 1) [.v 0],.f (.get 2) [.v 0],.fold 1 (.f (.get 3) [.v 0]) [.k .nil] [.f .app [.v 3,.f .mklist [.f (.ext 44) [.v 2]]]] 0,.fold 1 (.f (.get 4) [.v 0]) [.k .nil] [.f .app [.v 3,.f .mklist [.f .mkrow [.f (.get 0) [.v 2],.f (.get 1) [.v 2]]]]] 0])
def ob44:List Ob:=[.all (.f (.get 4) [.v 0]) [.k .nil] [.f .app [.v 3,.f .mklist [.f .mkrow [.f (.get 0) [.v 2],.f (.get 1) [.v 2]]]]] [.room (.f .app [.v 3,.f .mklist [.f .mkrow [.f (.get 0) [.v 2],.f (.get 1) [.v 2]]]]) 32],.all (.f (.get 3) [.v 0]) [.k .nil] [.f .app [.v 3,.f .mklist [.f (.ext 44) [.v 2]]]] [.room (.f .app [.v 3,.f .mklist [.f (.ext 44) [.v 2]]]) 88,.pre 44 [.v 2]]]
def de45:DE:=(.fold 2 (.f .iota [.wh 2 (.f .leI [.k (.int 0),.v 4]) [.f (.sub .i64) [.v 1,.k (.int 1)],.k .nil] [.f (.sub .i64) [.v 4,.k (.int 1)],.f .app [.v 5,.f .mkbytes [.f (.wrap .u8) [.f (.shr .i64) [.v 0,.f (.mul .i64) [.k (.int 8),.v 4]]]]]]]) [.f (.sub .i64) [.v 1,.k (.int 1)],.k .nil] [.f (.sub .i64) [.v 4,.k (.int 1)],.f .app [.v 5,.f .mkbytes [.f (.wrap .u8) [.f (.shr .i64) [.v 0,.f (.mul .i64) [.k (.int 8),.v 4]]]]]] 1)
def ob45:List Ob:=[(.term 2 (.f .leI [.k (.int 0),.v 4]) [.f (.sub .i64) [.v 1,.k (.int 1)],.k .nil] [.f (.sub .i64) [.v 4,.k (.int 1)],.f .app [.v 5,.f .mkbytes [.f (.wrap .u8) [.f (.shr .i64) [.v 0,.f (.mul .i64) [.k (.int 8),.v 4]]]]]]),.all (.f .iotaS [.wh 2 (.f .leI [.k (.int 0),.v 4]) [.f (.sub .i64) [.v 1,.k (.int 1)],.k .nil] [.f (.sub .i64) [.v 4,.k (.int 1)],.f .app [.v 5,.f .mkbytes [.f (.wrap .u8) [.f (.shr .i64) [.v 0,.f (.mul .i64) [.k (.int 8),.v 4]]]]]]]) [.f (.sub .i64) [.v 1,.k (.int 1)],.k .nil] [.f (.sub .i64) [.v 4,.k (.int 1)],.f .app [.v 5,.f .mkbytes [.f (.wrap .u8) [.f (.shr .i64) [.v 0,.f (.mul .i64) [.k (.int 8),.v 4]]]]]] [.when (.f .leI [.k (.int 0),.v 4]) true [.room (.f .app [.v 5,.f .mkbytes [.f (.wrap .u8) [.f (.shr .i64) [.v 0,.f (.mul .i64) [.k (.int 8),.v 4]]]]]) 1,(.ge0 (.f (.mul .i64) [.k (.int 8),.v 4]))]]]
def de46:DE:=(.f .app [.fold 1 (.f .iota [.wh 1 (.f .ltI [.k (.int 127),.v 4]) [.k .nil,.v 0] [.f .app [.v 3,.f .mkbytes [.f (.bor .u8) [.f (.wrap .u8) [.f (.band .u64) [.v 4,.k (.int 127)]],.k (.int 128)]]],.f (.shr .u64) [.v 4,.k (.int 7)]]]) [.k .nil,.v 0] [.f .app [.v 3,.f .mkbytes [.f (.bor .u8) [.f (.wrap .u8) [.f (.band .u64) [.v 4,.k (.int 127)]],.k (.int 128)]]],.f (.shr .u64) [.v 4,.k (.int 7)]] 0,.f .mkbytes [.f (.wrap .u8) [.fold 1 (.f .iota [.wh 1 (.f .ltI [.k (.int 127),.v 4]) [.k .nil,.v 0] [.f .app [.v 3,.f .mkbytes [.f (.bor .u8) [.f (.wrap .u8) [.f (.band .u64) [.v 4,.k (.int 127)]],.k (.int 128)]]],.f (.shr .u64) [.v 4,.k (.int 7)]]]) [.k .nil,.v 0] [.f .app [.v 3,.f .mkbytes [.f (.bor .u8) [.f (.wrap .u8) [.f (.band .u64) [.v 4,.k (.int 127)]],.k (.int 128)]]],.f (.shr .u64) [.v 4,.k (.int 7)]] 1]]])
def ob46:List Ob:=[.room (.f .app [.fold 1 (.f .iota [.wh 1 (.f .ltI [.k (.int 127),.v 4]) [.k .nil,.v 0] [.f .app [.v 3,.f .mkbytes [.f (.bor .u8) [.f (.wrap .u8) [.f (.band .u64) [.v 4,.k (.int 127)]],.k (.int 128)]]],.f (.shr .u64) [.v 4,.k (.int 7)]]]) [.k .nil,.v 0] [.f .app [.v 3,.f .mkbytes [.f (.bor .u8) [.f (.wrap .u8) [.f (.band .u64) [.v 4,.k (.int 127)]],.k (.int 128)]]],.f (.shr .u64) [.v 4,.k (.int 7)]] 0,.f .mkbytes [.f (.wrap .u8) [.fold 1 (.f .iota [.wh 1 (.f .ltI [.k (.int 127),.v 4]) [.k .nil,.v 0] [.f .app [.v 3,.f .mkbytes [.f (.bor .u8) [.f (.wrap .u8) [.f (.band .u64) [.v 4,.k (.int 127)]],.k (.int 128)]]],.f (.shr .u64) [.v 4,.k (.int 7)]]]) [.k .nil,.v 0] [.f .app [.v 3,.f .mkbytes [.f (.bor .u8) [.f (.wrap .u8) [.f (.band .u64) [.v 4,.k (.int 127)]],.k (.int 128)]]],.f (.shr .u64) [.v 4,.k (.int 7)]] 1]]]) 1,(.term 1 (.f .ltI [.k (.int 127),.v 4]) [.k .nil,.v 0] [.f .app [.v 3,.f .mkbytes [.f (.bor .u8) [.f (.wrap .u8) [.f (.band .u64) [.v 4,.k (.int 127)]],.k (.int 128)]]],.f (.shr .u64) [.v 4,.k (.int 7)]]),.all (.f .iotaS [.wh 1 (.f .ltI [.k (.int 127),.v 4]) [.k .nil,.v 0] [.f .app [.v 3,.f .mkbytes [.f (.bor .u8) [.f (.wrap .u8) [.f (.band .u64) [.v 4,.k (.int 127)]],.k (.int 128)]]],.f (.shr .u64) [.v 4,.k (.int 7)]]]) [.k .nil,.v 0] [.f .app [.v 3,.f .mkbytes [.f (.bor .u8) [.f (.wrap .u8) [.f (.band .u64) [.v 4,.k (.int 127)]],.k (.int 128)]]],.f (.shr .u64) [.v 4,.k (.int 7)]] [.when (.f .ltI [.k (.int 127),.v 4]) true [.room (.f .app [.v 3,.f .mkbytes [.f (.bor .u8) [.f (.wrap .u8) [.f (.band .u64) [.v 4,.k (.int 127)]],.k (.int 128)]]]) 1]]]
def de47:DE:=(.f .ite [.f .not [.v 2],.fold 4 (.v 0) [.k .nil] [.f .ite [.f .ite [.f .ltI [.f (.get 4) [.v 5],.k (.int 0)],.f (.ext 57) [.v 5,.v 1],.k (.bool false)],.f .app [.v 6,.f (.ext 49) [.v 5,.v 1,.v 2,.f (.ext 40) [.v 3,.v 4]]],.v 6]] 0,.f .app [.f .app [.fold 4 (.v 0) [.k .nil] [.f .ite [.f .ite [.f .ltI [.f (.get 4) [.v 5],.k (.int 0)],.f (.ext 57) [.v 5,.v 1],.k (.bool false)],.f .app [.v 6,.f (.ext 49) [.v 5,.v 1,.v 2,.f (.ext 40) [.v 3,.v 4]]],.v 6]] 0,.f (.ext 46) [.f (.wrap .u64) [.fold 4 (.f (.ext 41) [.v 0,.f (.get 4) [.v 3]]) [.fold 4 (.f .iota [.f (.wrap .i64) [.f (.ext 51) [.v 0]]]) [.k (.int 0),.k .nil] [.fold 8 (.v 0) [.v 7,.v 6] [.f .ite [.f .ite [.f .eqI [.f (.get 4) [.v 9],.v 4],.f .not [.f (.ext 50) [.v 9,.f (.ext 40) [.v 3,.v 8]]],.k (.bool false)],.f .app [.f .app [.f .app [.v 10,.f (.ext 46) [.f (.wrap .u64) [.v 4]]],.f (.ext 46) [.f (.wrap .u64) [.f .len [.f (.ext 49) [.v 9,.v 1,.v 2,.f (.ext 40) [.v 3,.v 8]]]]]],.f (.ext 49) [.v 9,.v 1,.v 2,.f (.ext 40) [.v 3,.v 8]]],.v 10],.f .ite [.f .ite [.f .eqI [.f (.get 4) [.v 9],.v 4],.f .not [.f (.ext 50) [.v 9,.f (.ext 40) [.v 3,.v 8]]],.k (.bool false)],.f (.add .i64) [.v 11,.k (.int 1)],.v 11]] 1,.fold 8 (.v 0) [.v 7,.v 6] [.f .ite [.f .ite [.f .eqI [.f (.get 4) [.v 9],.v 4],.f .not [.f (.ext 50) [.v 9,.f (.ext 40) [.v 3,.v 8]]],.k (.bool false)],.f .app [.f .app [.f .app [.v 10,.f (.ext 46) [.f (.wrap .u64) [.v 4]]],.f (.ext 46) [.f (.wrap .u64) [.f .len [.f (.ext 49) [.v 9,.v 1,.v 2,.f (.ext 40) [.v 3,.v 8]]]]]],.f (.ext 49) [.v 9,.v 1,.v 2,.f (.ext 40) [.v 3,.v 8]]],.v 10],.f .ite [.f .ite [.f .eqI [.f (.get 4) [.v 9],.v 4],.f .not [.f (.ext 50) [.v 9,.f (.ext 40) [.v 3,.v 8]]],.k (.bool false)],.f (.add .i64) [.v 11,.k (.int 1)],.v 11]] 0] 1,.fold 4 (.f .iota [.f (.wrap .i64) [.f (.ext 51) [.v 0]]]) [.k (.int 0),.k .nil] [.fold 8 (.v 0) [.v 7,.v 6] [.f .ite [.f .ite [.f .eqI [.f (.get 4) [.v 9],.v 4],.f .not [.f (.ext 50) [.v 9,.f (.ext 40) [.v 3,.v 8]]],.k (.bool false)],.f .app [.f .app [.f .app [.v 10,.f (.ext 46) [.f (.wrap .u64) [.v 4]]],.f (.ext 46) [.f (.wrap .u64) [.f .len [.f (.ext 49) [.v 9,.v 1,.v 2,.f (.ext 40) [.v 3,.v 8]]]]]],.f (.ext 49) [.v 9,.v 1,.v 2,.f (.ext 40) [.v 3,.v 8]]],.v 10],.f .ite [.f .ite [.f .eqI [.f (.get 4) [.v 9],.v 4],.f .not [.f (.ext 50) [.v 9,.f (.ext 40) [.v 3,.v 8]]],.k (.bool false)],.f (.add .i64) [.v 11,.k (.int 1)],.v 11]] 1,.fold 8 (.v 0) [.v 7,.v 6] [.f .ite [.f .ite [.f .eqI [.f (.get 4) [.v 9],.v 4],.f .not [.f (.ext 50) [.v 9,.f (.ext 40) [.v 3,.v 8]]],.k (.bool false)],.f .app [.f .app [.f .app [.v 10,.f (.ext 46) [.f (.wrap .u64) [.v 4]]],.f (.ext 46) [.f (.wrap .u64) [.f .len [.f (.ext 49) [.v 9,.v 1,.v 2,.f (.ext 40) [.v 3,.v 8]]]]]],.f (.ext 49) [.v 9,.v 1,.v 2,.f (.ext 40) [.v 3,.v 8]]],.v 10],.f .ite [.f .ite [.f .eqI [.f (.get 4) [.v 9],.v 4],.f .not [.f (.ext 50) [.v 9,.f (.ext 40) [.v 3,.v 8]]],.k (.bool false)],.f (.add .i64) [.v 11,.k (.int 1)],.v 11]] 0] 0] [.f .app [.f .app [.f .app [.v 6,.f (.ext 46) [.f (.wrap .u64) [.f (.get 0) [.v 5]]]],.f (.ext 46) [.f (.wrap .u64) [.f .len [.f .take [.f (.get 1) [.v 5],.f .imin [.f .len [.f (.get 1) [.v 5]],.k (.int 32767)]]]]]],.f .take [.f (.get 1) [.v 5],.f .imin [.f .len [.f (.get 1) [.v 5]],.k (.int 32767)]]],.f (.add .i64) [.v 7,.k (.int 1)]] 1]]],.fold 4 (.f (.ext 41) [.v 0,.f (.get 4) [.v 3]]) [.fold 4 (.f .iota [.f (.wrap .i64) [.f (.ext 51) [.v 0]]]) [.k (.int 0),.k .nil] [.fold 8 (.v 0) [.v 7,.v 6] [.f .ite [.f .ite [.f .eqI [.f (.get 4) [.v 9],.v 4],.f .not [.f (.ext 50) [.v 9,.f (.ext 40) [.v 3,.v 8]]],.k (.bool false)],.f .app [.f .app [.f .app [.v 10,.f (.ext 46) [.f (.wrap .u64) [.v 4]]],.f (.ext 46) [.f (.wrap .u64) [.f .len [.f (.ext 49) [.v 9,.v 1,.v 2,.f (.ext 40) [.v 3,.v 8]]]]]],.f (.ext 49) [.v 9,.v 1,.v 2,.f (.ext 40) [.v 3,.v 8]]],.v 10],.f .ite [.f .ite [.f .eqI [.f (.get 4) [.v 9],.v 4],.f .not [.f (.ext 50) [.v 9,.f (.ext 40) [.v 3,.v 8]]],.k (.bool false)],.f (.add .i64) [.v 11,.k (.int 1)],.v 11]] 1,.fold 8 (.v 0) [.v 7,.v 6] [.f .ite [.f .ite [.f .eqI [.f (.get 4) [.v 9],.v 4],.f .not [.f (.ext 50) [.v 9,.f (.ext 40) [.v 3,.v 8]]],.k (.bool false)],.f .app [.f .app [.f .app [.v 10,.f (.ext 46) [.f (.wrap .u64) [.v 4]]],.f (.ext 46) [.f (.wrap .u64) [.f .len [.f (.ext 49) [.v 9,.v 1,.v 2,.f (.ext 40) [.v 3,.v 8]]]]]],.f (.ext 49) [.v 9,.v 1,.v 2,.f (.ext 40) [.v 3,.v 8]]],.v 10],.f .ite [.f .ite [.f .eqI [.f (.get 4) [.v 9],.v 4],.f .not [.f (.ext 50) [.v 9,.f (.ext 40) [.v 3,.v 8]]],.k (.bool false)],.f (.add .i64) [.v 11,.k (.int 1)],.v 11]] 0] 1,.fold 4 (.f .iota [.f (.wrap .i64) [.f (.ext 51) [.v 0]]]) [.k (.int 0),.k .nil] [.fold 8 (.v 0) [.v 7,.v 6] [.f .ite [.f .ite [.f .eqI [.f (.get 4) [.v 9],.v 4],.f .not [.f (.ext 50) [.v 9,.f (.ext 40) [.v 3,.v 8]]],.k (.bool false)],.f .app [.f .app [.f .app [.v 10,.f (.ext 46) [.f (.wrap .u64) [.v 4]]],.f (.ext 46) [.f (.wrap .u64) [.f .len [.f (.ext 49) [.v 9,.v 1,.v 2,.f (.ext 40) [.v 3,.v 8]]]]]],.f (.ext 49) [.v 9,.v 1,.v 2,.f (.ext 40) [.v 3,.v 8]]],.v 10],.f .ite [.f .ite [.f .eqI [.f (.get 4) [.v 9],.v 4],.f .not [.f (.ext 50) [.v 9,.f (.ext 40) [.v 3,.v 8]]],.k (.bool false)],.f (.add .i64) [.v 11,.k (.int 1)],.v 11]] 1,.fold 8 (.v 0) [.v 7,.v 6] [.f .ite [.f .ite [.f .eqI [.f (.get 4) [.v 9],.v 4],.f .not [.f (.ext 50) [.v 9,.f (.ext 40) [.v 3,.v 8]]],.k (.bool false)],.f .app [.f .app [.f .app [.v 10,.f (.ext 46) [.f (.wrap .u64) [.v 4]]],.f (.ext 46) [.f (.wrap .u64) [.f .len [.f (.ext 49) [.v 9,.v 1,.v 2,.f (.ext 40) [.v 3,.v 8]]]]]],.f (.ext 49) [.v 9,.v 1,.v 2,.f (.ext 40) [.v 3,.v 8]]],.v 10],.f .ite [.f .ite [.f .eqI [.f (.get 4) [.v 9],.v 4],.f .not [.f (.ext 50) [.v 9,.f (.ext 40) [.v 3,.v 8]]],.k (.bool false)],.f (.add .i64) [.v 11,.k (.int 1)],.v 11]] 0] 0] [.f .app [.f .app [.f .app [.v 6,.f (.ext 46) [.f (.wrap .u64) [.f (.get 0) [.v 5]]]],.f (.ext 46) [.f (.wrap .u64) [.f .len [.f .take [.f (.get 1) [.v 5],.f .imin [.f .len [.f (.get 1) [.v 5]],.k (.int 32767)]]]]]],.f .take [.f (.get 1) [.v 5],.f .imin [.f .len [.f (.get 1) [.v 5]],.k (.int 32767)]]],.f (.add .i64) [.v 7,.k (.int 1)]] 0]])
def ob47:List Ob:=[.when (.f .not [.v 2]) false [.room (.f .app [.f .app [.fold 4 (.v 0) [.k .nil] [.f .ite [.f .ite [.f .ltI [.f (.get 4) [.v 5],.k (.int 0)],.f (.ext 57) [.v 5,.v 1],.k (.bool false)],.f .app [.v 6,.f (.ext 49) [.v 5,.v 1,.v 2,.f (.ext 40) [.v 3,.v 4]]],.v 6]] 0,.f (.ext 46) [.f (.wrap .u64) [.fold 4 (.f (.ext 41) [.v 0,.f (.get 4) [.v 3]]) [.fold 4 (.f .iota [.f (.wrap .i64) [.f (.ext 51) [.v 0]]]) [.k (.int 0),.k .nil] [.fold 8 (.v 0) [.v 7,.v 6] [.f .ite [.f .ite [.f .eqI [.f (.get 4) [.v 9],.v 4],.f .not [.f (.ext 50) [.v 9,.f (.ext 40) [.v 3,.v 8]]],.k (.bool false)],.f .app [.f .app [.f .app [.v 10,.f (.ext 46) [.f (.wrap .u64) [.v 4]]],.f (.ext 46) [.f (.wrap .u64) [.f .len [.f (.ext 49) [.v 9,.v 1,.v 2,.f (.ext 40) [.v 3,.v 8]]]]]],.f (.ext 49) [.v 9,.v 1,.v 2,.f (.ext 40) [.v 3,.v 8]]],.v 10],.f .ite [.f .ite [.f .eqI [.f (.get 4) [.v 9],.v 4],.f .not [.f (.ext 50) [.v 9,.f (.ext 40) [.v 3,.v 8]]],.k (.bool false)],.f (.add .i64) [.v 11,.k (.int 1)],.v 11]] 1,.fold 8 (.v 0) [.v 7,.v 6] [.f .ite [.f .ite [.f .eqI [.f (.get 4) [.v 9],.v 4],.f .not [.f (.ext 50) [.v 9,.f (.ext 40) [.v 3,.v 8]]],.k (.bool false)],.f .app [.f .app [.f .app [.v 10,.f (.ext 46) [.f (.wrap .u64) [.v 4]]],.f (.ext 46) [.f (.wrap .u64) [.f .len [.f (.ext 49) [.v 9,.v 1,.v 2,.f (.ext 40) [.v 3,.v 8]]]]]],.f (.ext 49) [.v 9,.v 1,.v 2,.f (.ext 40) [.v 3,.v 8]]],.v 10],.f .ite [.f .ite [.f .eqI [.f (.get 4) [.v 9],.v 4],.f .not [.f (.ext 50) [.v 9,.f (.ext 40) [.v 3,.v 8]]],.k (.bool false)],.f (.add .i64) [.v 11,.k (.int 1)],.v 11]] 0] 1,.fold 4 (.f .iota [.f (.wrap .i64) [.f (.ext 51) [.v 0]]]) [.k (.int 0),.k .nil] [.fold 8 (.v 0) [.v 7,.v 6] [.f .ite [.f .ite [.f .eqI [.f (.get 4) [.v 9],.v 4],.f .not [.f (.ext 50) [.v 9,.f (.ext 40) [.v 3,.v 8]]],.k (.bool false)],.f .app [.f .app [.f .app [.v 10,.f (.ext 46) [.f (.wrap .u64) [.v 4]]],.f (.ext 46) [.f (.wrap .u64) [.f .len [.f (.ext 49) [.v 9,.v 1,.v 2,.f (.ext 40) [.v 3,.v 8]]]]]],.f (.ext 49) [.v 9,.v 1,.v 2,.f (.ext 40) [.v 3,.v 8]]],.v 10],.f .ite [.f .ite [.f .eqI [.f (.get 4) [.v 9],.v 4],.f .not [.f (.ext 50) [.v 9,.f (.ext 40) [.v 3,.v 8]]],.k (.bool false)],.f (.add .i64) [.v 11,.k (.int 1)],.v 11]] 1,.fold 8 (.v 0) [.v 7,.v 6] [.f .ite [.f .ite [.f .eqI [.f (.get 4) [.v 9],.v 4],.f .not [.f (.ext 50) [.v 9,.f (.ext 40) [.v 3,.v 8]]],.k (.bool false)],.f .app [.f .app [.f .app [.v 10,.f (.ext 46) [.f (.wrap .u64) [.v 4]]],.f (.ext 46) [.f (.wrap .u64) [.f .len [.f (.ext 49) [.v 9,.v 1,.v 2,.f (.ext 40) [.v 3,.v 8]]]]]],.f (.ext 49) [.v 9,.v 1,.v 2,.f (.ext 40) [.v 3,.v 8]]],.v 10],.f .ite [.f .ite [.f .eqI [.f (.get 4) [.v 9],.v 4],.f .not [.f (.ext 50) [.v 9,.f (.ext 40) [.v 3,.v 8]]],.k (.bool false)],.f (.add .i64) [.v 11,.k (.int 1)],.v 11]] 0] 0] [.f .app [.f .app [.f .app [.v 6,.f (.ext 46) [.f (.wrap .u64) [.f (.get 0) [.v 5]]]],.f (.ext 46) [.f (.wrap .u64) [.f .len [.f .take [.f (.get 1) [.v 5],.f .imin [.f .len [.f (.get 1) [.v 5]],.k (.int 32767)]]]]]],.f .take [.f (.get 1) [.v 5],.f .imin [.f .len [.f (.get 1) [.v 5]],.k (.int 32767)]]],.f (.add .i64) [.v 7,.k (.int 1)]] 1]]],.fold 4 (.f (.ext 41) [.v 0,.f (.get 4) [.v 3]]) [.fold 4 (.f .iota [.f (.wrap .i64) [.f (.ext 51) [.v 0]]]) [.k (.int 0),.k .nil] [.fold 8 (.v 0) [.v 7,.v 6] [.f .ite [.f .ite [.f .eqI [.f (.get 4) [.v 9],.v 4],.f .not [.f (.ext 50) [.v 9,.f (.ext 40) [.v 3,.v 8]]],.k (.bool false)],.f .app [.f .app [.f .app [.v 10,.f (.ext 46) [.f (.wrap .u64) [.v 4]]],.f (.ext 46) [.f (.wrap .u64) [.f .len [.f (.ext 49) [.v 9,.v 1,.v 2,.f (.ext 40) [.v 3,.v 8]]]]]],.f (.ext 49) [.v 9,.v 1,.v 2,.f (.ext 40) [.v 3,.v 8]]],.v 10],.f .ite [.f .ite [.f .eqI [.f (.get 4) [.v 9],.v 4],.f .not [.f (.ext 50) [.v 9,.f (.ext 40) [.v 3,.v 8]]],.k (.bool false)],.f (.add .i64) [.v 11,.k (.int 1)],.v 11]] 1,.fold 8 (.v 0) [.v 7,.v 6] [.f .ite [.f .ite [.f .eqI [.f (.get 4) [.v 9],.v 4],.f .not [.f (.ext 50) [.v 9,.f (.ext 40) [.v 3,.v 8]]],.k (.bool false)],.f .app [.f .app [.f .app [.v 10,.f (.ext 46) [.f (.wrap .u64) [.v 4]]],.f (.ext 46) [.f (.wrap .u64) [.f .len [.f (.ext 49) [.v 9,.v 1,.v 2,.f (.ext 40) [.v 3,.v 8]]]]]],.f (.ext 49) [.v 9,.v 1,.v 2,.f (.ext 40) [.v 3,.v 8]]],.v 10],.f .ite [.f .ite [.f .eqI [.f (.get 4) [.v 9],.v 4],.f .not [.f (.ext 50) [.v 9,.f (.ext 40) [.v 3,.v 8]]],.k (.bool false)],.f (.add .i64) [.v 11,.k (.int 1)],.v 11]] 0] 1,.fold 4 (.f .iota [.f (.wrap .i64) [.f (.ext 51) [.v 0]]]) [.k (.int 0),.k .nil] [.fold 8 (.v 0) [.v 7,.v 6] [.f .ite [.f .ite [.f .eqI [.f (.get 4) [.v 9],.v 4],.f .not [.f (.ext 50) [.v 9,.f (.ext 40) [.v 3,.v 8]]],.k (.bool false)],.f .app [.f .app [.f .app [.v 10,.f (.ext 46) [.f (.wrap .u64) [.v 4]]],.f (.ext 46) [.f (.wrap .u64) [.f .len [.f (.ext 49) [.v 9,.v 1,.v 2,.f (.ext 40) [.v 3,.v 8]]]]]],.f (.ext 49) [.v 9,.v 1,.v 2,.f (.ext 40) [.v 3,.v 8]]],.v 10],.f .ite [.f .ite [.f .eqI [.f (.get 4) [.v 9],.v 4],.f .not [.f (.ext 50) [.v 9,.f (.ext 40) [.v 3,.v 8]]],.k (.bool false)],.f (.add .i64) [.v 11,.k (.int 1)],.v 11]] 1,.fold 8 (.v 0) [.v 7,.v 6] [.f .ite [.f .ite [.f .eqI [.f (.get 4) [.v 9],.v 4],.f .not [.f (.ext 50) [.v 9,.f (.ext 40) [.v 3,.v 8]]],.k (.bool false)],.f .app [.f .app [.f .app [.v 10,.f (.ext 46) [.f (.wrap .u64) [.v 4]]],.f (.ext 46) [.f (.wrap .u64) [.f .len [.f (.ext 49) [.v 9,.v 1,.v 2,.f (.ext 40) [.v 3,.v 8]]]]]],.f (.ext 49) [.v 9,.v 1,.v 2,.f (.ext 40) [.v 3,.v 8]]],.v 10],.f .ite [.f .ite [.f .eqI [.f (.get 4) [.v 9],.v 4],.f .not [.f (.ext 50) [.v 9,.f (.ext 40) [.v 3,.v 8]]],.k (.bool false)],.f (.add .i64) [.v 11,.k (.int 1)],.v 11]] 0] 0] [.f .app [.f .app [.f .app [.v 6,.f (.ext 46) [.f (.wrap .u64) [.f (.get 0) [.v 5]]]],.f (.ext 46) [.f (.wrap .u64) [.f .len [.f .take [.f (.get 1) [.v 5],.f .imin [.f .len [.f (.get 1) [.v 5]],.k (.int 32767)]]]]]],.f .take [.f (.get 1) [.v 5],.f .imin [.f .len [.f (.get 1) [.v 5]],.k (.int 32767)]]],.f (.add .i64) [.v 7,.k (.int 1)]] 0]) 1,.room (.f .app [.fold 4 (.v 0) [.k .nil] [.f .ite [.f .ite [.f .ltI [.f (.get 4) [.v 5],.k (.int 0)],.f (.ext 57) [.v 5,.v 1],.k (.bool false)],.f .app [.v 6,.f (.ext 49) [.v 5,.v 1,.v 2,.f (.ext 40) [.v 3,.v 4]]],.v 6]] 0,.f (.ext 46) [.f (.wrap .u64) [.fold 4 (.f (.ext 41) [.v 0,.f (.get 4) [.v 3]]) [.fold 4 (.f .iota [.f (.wrap .i64) [.f (.ext 51) [.v 0]]]) [.k (.int 0),.k .nil] [.fold 8 (.v 0) [.v 7,.v 6] [.f .ite [.f .ite [.f .eqI [.f (.get 4) [.v 9],.v 4],.f .not [.f (.ext 50) [.v 9,.f (.ext 40) [.v 3,.v 8]]],.k (.bool false)],.f .app [.f .app [.f .app [.v 10,.f (.ext 46) [.f (.wrap .u64) [.v 4]]],.f (.ext 46) [.f (.wrap .u64) [.f .len [.f (.ext 49) [.v 9,.v 1,.v 2,.f (.ext 40) [.v 3,.v 8]]]]]],.f (.ext 49) [.v 9,.v 1,.v 2,.f (.ext 40) [.v 3,.v 8]]],.v 10],.f .ite [.f .ite [.f .eqI [.f (.get 4) [.v 9],.v 4],.f .not [.f (.ext 50) [.v 9,.f (.ext 40) [.v 3,.v 8]]],.k (.bool false)],.f (.add .i64) [.v 11,.k (.int 1)],.v 11]] 1,.fold 8 (.v 0) [.v 7,.v 6] [.f .ite [.f .ite [.f .eqI [.f (.get 4) [.v 9],.v 4],.f .not [.f (.ext 50) [.v 9,.f (.ext 40) [.v 3,.v 8]]],.k (.bool false)],.f .app [.f .app [.f .app [.v 10,.f (.ext 46) [.f (.wrap .u64) [.v 4]]],.f (.ext 46) [.f (.wrap .u64) [.f .len [.f (.ext 49) [.v 9,.v 1,.v 2,.f (.ext 40) [.v 3,.v 8]]]]]],.f (.ext 49) [.v 9,.v 1,.v 2,.f (.ext 40) [.v 3,.v 8]]],.v 10],.f .ite [.f .ite [.f .eqI [.f (.get 4) [.v 9],.v 4],.f .not [.f (.ext 50) [.v 9,.f (.ext 40) [.v 3,.v 8]]],.k (.bool false)],.f (.add .i64) [.v 11,.k (.int 1)],.v 11]] 0] 1,.fold 4 (.f .iota [.f (.wrap .i64) [.f (.ext 51) [.v 0]]]) [.k (.int 0),.k .nil] [.fold 8 (.v 0) [.v 7,.v 6] [.f .ite [.f .ite [.f .eqI [.f (.get 4) [.v 9],.v 4],.f .not [.f (.ext 50) [.v 9,.f (.ext 40) [.v 3,.v 8]]],.k (.bool false)],.f .app [.f .app [.f .app [.v 10,.f (.ext 46) [.f (.wrap .u64) [.v 4]]],.f (.ext 46) [.f (.wrap .u64) [.f .len [.f (.ext 49) [.v 9,.v 1,.v 2,.f (.ext 40) [.v 3,.v 8]]]]]],.f (.ext 49) [.v 9,.v 1,.v 2,.f (.ext 40) [.v 3,.v 8]]],.v 10],.f .ite [.f .ite [.f .eqI [.f (.get 4) [.v 9],.v 4],.f .not [.f (.ext 50) [.v 9,.f (.ext 40) [.v 3,.v 8]]],.k (.bool false)],.f (.add .i64) [.v 11,.k (.int 1)],.v 11]] 1,.fold 8 (.v 0) [.v 7,.v 6] [.f .ite [.f .ite [.f .eqI [.f (.get 4) [.v 9],.v 4],.f .not [.f (.ext 50) [.v 9,.f (.ext 40) [.v 3,.v 8]]],.k (.bool false)],.f .app [.f .app [.f .app [.v 10,.f (.ext 46) [.f (.wrap .u64) [.v 4]]],.f (.ext 46) [.f (.wrap .u64) [.f .len [.f (.ext 49) [.v 9,.v 1,.v 2,.f (.ext 40) [.v 3,.v 8]]]]]],.f (.ext 49) [.v 9,.v 1,.v 2,.f (.ext 40) [.v 3,.v 8]]],.v 10],.f .ite [.f .ite [.f .eqI [.f (.get 4) [.v 9],.v 4],.f .not [.f (.ext 50) [.v 9,.f (.ext 40) [.v 3,.v 8]]],.k (.bool false)],.f (.add .i64) [.v 11,.k (.int 1)],.v 11]] 0] 0] [.f .app [.f .app [.f .app [.v 6,.f (.ext 46) [.f (.wrap .u64) [.f (.get 0) [.v 5]]]],.f (.ext 46) [.f (.wrap .u64) [.f .len [.f .take [.f (.get 1) [.v 5],.f .imin [.f .len [.f (.get 1) [.v 5]],.k (.int 32767)]]]]]],.f .take [.f (.get 1) [.v 5],.f .imin [.f .len [.f (.get 1) [.v 5]],.k (.int 32767)]]],.f (.add .i64) [.v 7,.k (.int 1)]] 1]]]) 1,.pre 46 [.f (.wrap .u64) [.fold 4 (.f (.ext 41) [.v 0,.f (.get 4) [.v 3]]) [.fold 4 (.f .iota [.f (.wrap .i64) [.f (.ext 51) [.v 0]]]) [.k (.int 0),.k .nil] [.fold 8 (.v 0) [.v 7,.v 6] [.f .ite [.f .ite [.f .eqI [.f (.get 4) [.v 9],.v 4],.f .not [.f (.ext 50) [.v 9,.f (.ext 40) [.v 3,.v 8]]],.k (.bool false)],.f .app [.f .app [.f .app [.v 10,.f (.ext 46) [.f (.wrap .u64) [.v 4]]],.f (.ext 46) [.f (.wrap .u64) [.f .len [.f (.ext 49) [.v 9,.v 1,.v 2,.f (.ext 40) [.v 3,.v 8]]]]]],.f (.ext 49) [.v 9,.v 1,.v 2,.f (.ext 40) [.v 3,.v 8]]],.v 10],.f .ite [.f .ite [.f .eqI [.f (.get 4) [.v 9],.v 4],.f .not [.f (.ext 50) [.v 9,.f (.ext 40) [.v 3,.v 8]]],.k (.bool false)],.f (.add .i64) [.v 11,.k (.int 1)],.v 11]] 1,.fold 8 (.v 0) [.v 7,.v 6] [.f .ite [.f .ite [.f .eqI [.f (.get 4) [.v 9],.v 4],.f .not [.f (.ext 50) [.v 9,.f (.ext 40) [.v 3,.v 8]]],.k (.bool false)],.f .app [.f .app [.f .app [.v 10,.f (.ext 46) [.f (.wrap .u64) [.v 4]]],.f (.ext 46) [.f (.wrap .u64) [.f .len [.f (.ext 49) [.v 9,.v 1,.v 2,.f (.ext 40) [.v 3,.v 8]]]]]],.f (.ext 49) [.v 9,.v 1,.v 2,.f (.ext 40) [.v 3,.v 8]]],.v 10],.f .ite [.f .ite [.f .eqI [.f (.get 4) [.v 9],.v 4],.f .not [.f (.ext 50) [.v 9,.f (.ext 40) [.v 3,.v 8]]],.k (.bool false)],.f (.add .i64) [.v 11,.k (.int 1)],.v 11]] 0] 1,.fold 4 (.f .iota [.f (.wrap .i64) [.f (.ext 51) [.v 0]]]) [.k (.int 0),.k .nil] [.fold 8 (.v 0) [.v 7,.v 6] [.f .ite [.f .ite [.f .eqI [.f (.get 4) [.v 9],.v 4],.f .not [.f (.ext 50) [.v 9,.f (.ext 40) [.v 3,.v 8]]],.k (.bool false)],.f .app [.f .app [.f .app [.v 10,.f (.ext 46) [.f (.wrap .u64) [.v 4]]],.f (.ext 46) [.f (.wrap .u64) [.f .len [.f (.ext 49) [.v 9,.v 1,.v 2,.f (.ext 40) [.v 3,.v 8]]]]]],.f (.ext 49) [.v 9,.v 1,.v 2,.f (.ext 40) [.v 3,.v 8]]],.v 10],.f .ite [.f .ite [.f .eqI [.f (.get 4) [.v 9],.v 4],.f .not [.f (.ext 50) [.v 9,.f (.ext 40) [.v 3,.v 8]]],.k (.bool false)],.f (.add .i64) [.v 11,.k (.int 1)],.v 11]] 1,.fold 8 (.v 0) [.v 7,.v 6] [.f .ite [.f .ite [.f .eqI [.f (.get 4) [.v 9],.v 4],.f .not [.f (.ext 50) [.v 9,.f (.ext 40) [.v 3,.v 8]]],.k (.bool false)],.f .app [.f .app [.f .app [.v 10,.f (.ext 46) [.f (.wrap .u64) [.v 4]]],.f (.ext 46) [.f (.wrap .u64) [.f .len [.f (.ext 49) [.v 9,.v 1,.v 2,.f (.ext 40) [.v 3,.v 8]]]]]],.f (.ext 49) [.v 9,.v 1,.v 2,.f (.ext 40) [.v 3,.v 8]]],.v 10],.f .ite [.f .ite [.f .eqI [.f (.get 4) [.v 9],.v 4],.f .not [.f (.ext 50) [.v 9,.f (.ext 40) [.v 3,.v 8]]],.k (.bool false)],.f (.add .i64) [.v 11,.k (.int 1)],.v 11]] 0] 0] [.f .app [.f .app [.f .app [.v 6,.f (.ext 46) [.f (.wrap .u64) [.f (.get 0) [.v 5]]]],.f (.ext 46) [.f (.wrap .u64) [.f .len [.f .take [.f (.get 1) [.v 5],.f .imin [.f .len [.f (.get 1) [.v 5]],.k (.int 32767)]]]]]],.f .take [.f (.get 1) [.v 5],.f .imin [.f .len [.f (.get 1) [.v 5]],.k (.int 32767)]]],.f (.add .i64) [.v 7,.k (.int 1)]] 1]],.all (.f (.ext 41) [.v 0,.f (.get 4) [.v 3]]) [.fold 4 (.f .iota [.f (.wrap .i64) [.f (.ext 51) [.v 0]]]) [.k (.int 0),.k .nil] [.fold 8 (.v 0) [.v 7,.v 6] [.f .ite [.f .ite [.f .eqI [.f (.get 4) [.v 9],.v 4],.f .not [.f (.ext 50) [.v 9,.f (.ext 40) [.v 3,.v 8]]],.k (.bool false)],.f .app [.f .app [.f .app [.v 10,.f (.ext 46) [.f (.wrap .u64) [.v 4]]],.f (.ext 46) [.f (.wrap .u64) [.f .len [.f (.ext 49) [.v 9,.v 1,.v 2,.f (.ext 40) [.v 3,.v 8]]]]]],.f (.ext 49) [.v 9,.v 1,.v 2,.f (.ext 40) [.v 3,.v 8]]],.v 10],.f .ite [.f .ite [.f .eqI [.f (.get 4) [.v 9],.v 4],.f .not [.f (.ext 50) [.v 9,.f (.ext 40) [.v 3,.v 8]]],.k (.bool false)],.f (.add .i64) [.v 11,.k (.int 1)],.v 11]] 1,.fold 8 (.v 0) [.v 7,.v 6] [.f .ite [.f .ite [.f .eqI [.f (.get 4) [.v 9],.v 4],.f .not [.f (.ext 50) [.v 9,.f (.ext 40) [.v 3,.v 8]]],.k (.bool false)],.f .app [.f .app [.f .app [.v 10,.f (.ext 46) [.f (.wrap .u64) [.v 4]]],.f (.ext 46) [.f (.wrap .u64) [.f .len [.f (.ext 49) [.v 9,.v 1,.v 2,.f (.ext 40) [.v 3,.v 8]]]]]],.f (.ext 49) [.v 9,.v 1,.v 2,.f (.ext 40) [.v 3,.v 8]]],.v 10],.f .ite [.f .ite [.f .eqI [.f (.get 4) [.v 9],.v 4],.f .not [.f (.ext 50) [.v 9,.f (.ext 40) [.v 3,.v 8]]],.k (.bool false)],.f (.add .i64) [.v 11,.k (.int 1)],.v 11]] 0] 1,.fold 4 (.f .iota [.f (.wrap .i64) [.f (.ext 51) [.v 0]]]) [.k (.int 0),.k .nil] [.fold 8 (.v 0) [.v 7,.v 6] [.f .ite [.f .ite [.f .eqI [.f (.get 4) [.v 9],.v 4],.f .not [.f (.ext 50) [.v 9,.f (.ext 40) [.v 3,.v 8]]],.k (.bool false)],.f .app [.f .app [.f .app [.v 10,.f (.ext 46) [.f (.wrap .u64) [.v 4]]],.f (.ext 46) [.f (.wrap .u64) [.f .len [.f (.ext 49) [.v 9,.v 1,.v 2,.f (.ext 40) [.v 3,.v 8]]]]]],.f (.ext 49) [.v 9,.v 1,.v 2,.f (.ext 40) [.v 3,.v 8]]],.v 10],.f .ite [.f .ite [.f .eqI [.f (.get 4) [.v 9],.v 4],.f .not [.f (.ext 50) [.v 9,.f (.ext 40) [.v 3,.v 8]]],.k (.bool false)],.f (.add .i64) [.v 11,.k (.int 1)],.v 11]] 1,.fold 8 (.v 0) [.v 7,.v 6] [.f .ite [.f .ite [.f .eqI [.f (.get 4) [.v 9],.v 4],.f .not [.f (.ext 50) [.v 9,.f (.ext 40) [.v 3,.v 8]]],.k (.bool false)],.f .app [.f .app [.f .app [.v 10,.f (.ext 46) [.f (.wrap .u64) [.v 4]]],.f (.ext 46) [.f (.wrap .u64) [.f .len [.f (.ext 49) [.v 9,.v 1,.v 2,.f (.ext 40) [.v 3,.v 8]]]]]],.f (.ext 49) [.v 9,.v 1,.v 2,.f (.ext 40) [.v 3,.v 8]]],.v 10],.f .ite [.f .ite [.f .eqI [.f (.get 4) [.v 9],.v 4],.f .not [.f (.ext 50) [.v 9,.f (.ext 40) [.v 3,.v 8]]],.k (.bool false)],.f (.add .i64) [.v 11,.k (.int 1)],.v 11]] 0] 0] [.f .app [.f .app [.f .app [.v 6,.f (.ext 46) [.f (.wrap .u64) [.f (.get 0) [.v 5]]]],.f (.ext 46) [.f (.wrap .u64) [.f .len [.f .take [.f (.get 1) [.v 5],.f .imin [.f .len [.f (.get 1) [.v 5]],.k (.int 32767)]]]]]],.f .take [.f (.get 1) [.v 5],.f .imin [.f .len [.f (.get 1) [.v 5]],.k (.int 32767)]]],.f (.add .i64) [.v 7,.k (.int 1)]] [.room (.f .app [.f .app [.f .app [.v 6,.f (.ext 46) [.f (.wrap .u64) [.f (.get 0) [.v 5]]]],.f (.ext 46) [.f (.wrap .u64) [.f .len [.f .take [.f (.get 1) [.v 5],.f .imin [.f .len [.f (.get 1) [.v 5]],.k (.int 32767)]]]]]],.f .take [.f (.get 1) [.v 5],.f .imin [.f .len [.f (.get 1) [.v 5]],.k (.int 32767)]]]) 1,.room (.f .app [.f .app [.v 6,.f (.ext 46) [.f (.wrap .u64) [.f (.get 0) [.v 5]]]],.f (.ext 46) [.f (.wrap .u64) [.f .len [.f .take [.f (.get 1) [.v 5],.f .imin [.f .len [.f (.get 1) [.v 5]],.k (.int 32767)]]]]]]) 1,.pre 46 [.f (.wrap .u64) [.f .len [.f .take [.f (.get 1) [.v 5],.f .imin [.f .len [.f (.get 1) [.v 5]],.k (.int 32767)]]]]],.room (.f .app [.v 6,.f (.ext 46) [.f (.wrap .u64) [.f (.get 0) [.v 5]]]]) 1,.pre 46 [.f (.wrap .u64) [.f (.get 0) [.v 5]]],.idx (.f .imin [.f .len [.f (.get 1) [.v 5]],.k (.int 32767)]) (.f (.get 1) [.v 5]) false],.pre 41 [.v 0,.f (.get 4) [.v 3]],.all (.f .iota [.f (.wrap .i64) [.f (.ext 51) [.v 0]]]) [.k (.int 0),.k .nil] [.fold 8 (.v 0) [.v 7,.v 6] [.f .ite [.f .ite [.f .eqI [.f (.get 4) [.v 9],.v 4],.f .not [.f (.ext 50) [.v 9,.f (.ext 40) [.v 3,.v 8]]],.k (.bool false)],.f .app [.f .app [.f .app [.v 10,.f (.ext 46) [.f (.wrap .u64) [.v 4]]],.f (.ext 46) [.f (.wrap .u64) [.f .len [.f (.ext 49) [.v 9,.v 1,.v 2,.f (.ext 40) [.v 3,.v 8]]]]]],.f (.ext 49) [.v 9,.v 1,.v 2,.f (.ext 40) [.v 3,.v 8]]],.v 10],.f .ite [.f .ite [.f .eqI [.f (.get 4) [.v 9],.v 4],.f .not [.f (.ext 50) [.v 9,.f (.ext 40) [.v 3,.v 8]]],.k (.bool false)],.f (.add .i64) [.v 11,.k (.int 1)],.v 11]] 1,.fold 8 (.v 0) [.v 7,.v 6] [.f .ite [.f .ite [.f .eqI [.f (.get 4) [.v 9],.v 4],.f .not [.f (.ext 50) [.v 9,.f (.ext 40) [.v 3,.v 8]]],.k (.bool false)],.f .app [.f .app [.f .app [.v 10,.f (.ext 46) [.f (.wrap .u64) [.v 4]]],.f (.ext 46) [.f (.wrap .u64) [.f .len [.f (.ext 49) [.v 9,.v 1,.v 2,.f (.ext 40) [.v 3,.v 8]]]]]],.f (.ext 49) [.v 9,.v 1,.v 2,.f (.ext 40) [.v 3,.v 8]]],.v 10],.f .ite [.f .ite [.f .eqI [.f (.get 4) [.v 9],.v 4],.f .not [.f (.ext 50) [.v 9,.f (.ext 40) [.v 3,.v 8]]],.k (.bool false)],.f (.add .i64) [.v 11,.k (.int 1)],.v 11]] 0] [.all (.v 0) [.v 7,.v 6] [.f .ite [.f .ite [.f .eqI [.f (.get 4) [.v 9],.v 4],.f .not [.f (.ext 50) [.v 9,.f (.ext 40) [.v 3,.v 8]]],.k (.bool false)],.f .app [.f .app [.f .app [.v 10,.f (.ext 46) [.f (.wrap .u64) [.v 4]]],.f (.ext 46) [.f (.wrap .u64) [.f .len [.f (.ext 49) [.v 9,.v 1,.v 2,.f (.ext 40) [.v 3,.v 8]]]]]],.f (.ext 49) [.v 9,.v 1,.v 2,.f (.ext 40) [.v 3,.v 8]]],.v 10],.f .ite [.f .ite [.f .eqI [.f (.get 4) [.v 9],.v 4],.f .not [.f (.ext 50) [.v 9,.f (.ext 40) [.v 3,.v 8]]],.k (.bool false)],.f (.add .i64) [.v 11,.k (.int 1)],.v 11]] [.when (.f .ite [.f .eqI [.f (.get 4) [.v 9],.v 4],.f .not [.f (.ext 50) [.v 9,.f (.ext 40) [.v 3,.v 8]]],.k (.bool false)]) true [.room (.f .app [.f .app [.f .app [.v 10,.f (.ext 46) [.f (.wrap .u64) [.v 4]]],.f (.ext 46) [.f (.wrap .u64) [.f .len [.f (.ext 49) [.v 9,.v 1,.v 2,.f (.ext 40) [.v 3,.v 8]]]]]],.f (.ext 49) [.v 9,.v 1,.v 2,.f (.ext 40) [.v 3,.v 8]]]) 1,.room (.f .app [.f .app [.v 10,.f (.ext 46) [.f (.wrap .u64) [.v 4]]],.f (.ext 46) [.f (.wrap .u64) [.f .len [.f (.ext 49) [.v 9,.v 1,.v 2,.f (.ext 40) [.v 3,.v 8]]]]]]) 1,.pre 46 [.f (.wrap .u64) [.f .len [.f (.ext 49) [.v 9,.v 1,.v 2,.f (.ext 40) [.v 3,.v 8]]]]],.room (.f .app [.v 10,.f (.ext 46) [.f (.wrap .u64) [.v 4]]]) 1,.pre 46 [.f (.wrap .u64) [.v 4]],.pre 49 [.v 9,.v 1,.v 2,.f (.ext 40) [.v 3,.v 8]],.pre 40 [.v 3,.v 8]],.when (.f .eqI [.f (.get 4) [.v 9],.v 4]) true [.pre 50 [.v 9,.f (.ext 40) [.v 3,.v 8]],.pre 40 [.v 3,.v 8]]]],.pre 51 [.v 0]],.all (.v 0) [.k .nil] [.f .ite [.f .ite [.f .ltI [.f (.get 4) [.v 5],.k (.int 0)],.f (.ext 57) [.v 5,.v 1],.k (.bool false)],.f .app [.v 6,.f (.ext 49) [.v 5,.v 1,.v 2,.f (.ext 40) [.v 3,.v 4]]],.v 6]] [.when (.f .ite [.f .ltI [.f (.get 4) [.v 5],.k (.int 0)],.f (.ext 57) [.v 5,.v 1],.k (.bool false)]) true [.room (.f .app [.v 6,.f (.ext 49) [.v 5,.v 1,.v 2,.f (.ext 40) [.v 3,.v 4]]]) 1,.pre 49 [.v 5,.v 1,.v 2,.f (.ext 40) [.v 3,.v 4]],.pre 40 [.v 3,.v 4]],.when (.f .ltI [.f (.get 4) [.v 5],.k (.int 0)]) true [.pre 57 [.v 5,.v 1]]]]
def de48:DE:=(.f .ite [.f .eqI [.v 0,.k (.int 0)],.f .mkbytes [.f (.wrap .u8) [.f (.band .i64) [.f (.get 0) [.v 5],.k (.int 1)]]],.f .ite [.f .eqI [.v 0,.k (.int 7)],.f .copy [.f .zeros [.k (.int 16)],.f (.get 1) [.v 5]],.f .ite [.f .eqI [.v 0,.k (.int 8)],.f .app [.f (.ext 53) [.v 4,.v 2,.f .len [.f .ite [.v 2,.k .nil,.f .take [.f (.get 1) [.v 5],.f .imin [.f .len [.f (.get 1) [.v 5]],.k (.int 32767)]]]],.k (.int 2)],.f .ite [.v 2,.k .nil,.f .take [.f (.get 1) [.v 5],.f .imin [.f .len [.f (.get 1) [.v 5]],.k (.int 32767)]]]],.f .ite [.f .eqI [.v 0,.k (.int 9)],.f .app [.f (.ext 53) [.v 4,.v 2,.f .len [.f .ite [.v 2,.k .nil,.f .take [.f (.get 1) [.v 5],.f .imin [.f .len [.f (.get 1) [.v 5]],.k (.int 32767)]]]],.k (.int 4)],.f .ite [.v 2,.k .nil,.f .take [.f (.get 1) [.v 5],.f .imin [.f .len [.f (.get 1) [.v 5]],.k (.int 32767)]]]],.f .ite [.f .eqI [.v 0,.k (.int 10)],.f (.ext 47) [.v 1,.v 3,.v 4,.v 5],.f (.ext 45) [.f (.get 0) [.v 5],.f (.ext 55) [.v 0]]]]]]])
def ob48:List Ob:=[.when (.f .eqI [.v 0,.k (.int 0)]) false [.when (.f .eqI [.v 0,.k (.int 7)]) true [.cap (.k (.int 16)) 1],.when (.f .eqI [.v 0,.k (.int 7)]) false [.when (.f .eqI [.v 0,.k (.int 8)]) true [.room (.f .app [.f (.ext 53) [.v 4,.v 2,.f .len [.f .ite [.v 2,.k .nil,.f .take [.f (.get 1) [.v 5],.f .imin [.f .len [.f (.get 1) [.v 5]],.k (.int 32767)]]]],.k (.int 2)],.f .ite [.v 2,.k .nil,.f .take [.f (.get 1) [.v 5],.f .imin [.f .len [.f (.get 1) [.v 5]],.k (.int 32767)]]]]) 1,.pre 53 [.v 4,.v 2,.f .len [.f .ite [.v 2,.k .nil,.f .take [.f (.get 1) [.v 5],.f .imin [.f .len [.f (.get 1) [.v 5]],.k (.int 32767)]]]],.k (.int 2)],.idx (.f .imin [.f .len [.f (.get 1) [.v 5]],.k (.int 32767)]) (.f (.get 1) [.v 5]) false],.when (.f .eqI [.v 0,.k (.int 8)]) false [.when (.f .eqI [.v 0,.k (.int 9)]) true [.room (.f .app [.f (.ext 53) [.v 4,.v 2,.f .len [.f .ite [.v 2,.k .nil,.f .take [.f (.get 1) [.v 5],.f .imin [.f .len [.f (.get 1) [.v 5]],.k (.int 32767)]]]],.k (.int 4)],.f .ite [.v 2,.k .nil,.f .take [.f (.get 1) [.v 5],.f .imin [.f .len [.f (.get 1) [.v 5]],.k (.int 32767)]]]]) 1,.pre 53 [.v 4,.v 2,.f .len [.f .ite [.v 2,.k .nil,.f .take [.f (.get 1) [.v 5],.f .imin [.f .len [.f (.get 1) [.v 5]],.k (.int 32767)]]]],.k (.int 4)],.idx (.f .imin [.f .len [.f (.get 1) [.v 5]],.k (.int 32767)]) (.f (.get 1) [.v 5]) false],.when (.f .eqI [.v 0,.k (.int 9)]) false [.when (.f .eqI [.v 0,.k (.int 10)]) true [.pre 47 [.v 1,.v 3,.v 4,.v 5]],.when (.f .eqI [.v 0,.k (.int 10)]) false [.pre 45 [.f (.get 0) [.v 5],.f (.ext 55) [.v 0]],.pre 55 [.v 0]]]]]]]
def de49:DE:=(.f .ite [.f .eqI [.f (.get 0) [.v 0],.k (.int 11)],.fold 4 (.f .ite [.f (.ext 56) [.v 0,.v 1,.v 3],.k .nil,.f .take [.f (.get 3) [.v 3],.f .imin [.f .len [.f (.get 3) [.v 3]],.k (.int 32767)]]]) [.f (.ext 53) [.v 2,.f (.ext 56) [.v 0,.v 1,.v 3],.f .len [.f .ite [.f (.ext 56) [.v 0,.v 1,.v 3],.k .nil,.f .take [.f (.get 3) [.v 3],.f .imin [.f .len [.f (.get 3) [.v 3]],.k (.int 32767)]]]],.k (.int 4)]] [.f .app [.v 6,.f (.ext 48) [.f (.get 6) [.v 0],.f (.get 7) [.v 0],.k (.bool false),.v 1,.v 2,.v 5]]] 0,.f .ite [.f .ite [.f .eqI [.f (.get 0) [.v 0],.k (.int 10)],.f .leI [.k (.int 0),.f (.get 3) [.v 0]],.k (.bool false)],.f .ite [.f (.ext 56) [.v 0,.v 1,.v 3],.f (.ext 45) [.k (.int (-1)),.k (.int 1)],.f .app [.f (.ext 45) [.k (.int 1),.k (.int 1)],.f (.ext 47) [.f (.get 7) [.v 0],.v 1,.v 2,.v 3]]],.f (.ext 48) [.f (.get 0) [.v 0],.f (.get 7) [.v 0],.f (.ext 56) [.v 0,.v 1,.v 3],.v 1,.v 2,.v 3]]])
def ob49:List Ob:=[.when (.f .eqI [.f (.get 0) [.v 0],.k (.int 11)]) true [.all (.f .ite [.f (.ext 56) [.v 0,.v 1,.v 3],.k .nil,.f .take [.f (.get 3) [.v 3],.f .imin [.f .len [.f (.get 3) [.v 3]],.k (.int 32767)]]]) [.f (.ext 53) [.v 2,.f (.ext 56) [.v 0,.v 1,.v 3],.f .len [.f .ite [.f (.ext 56) [.v 0,.v 1,.v 3],.k .nil,.f .take [.f (.get 3) [.v 3],.f .imin [.f .len [.f (.get 3) [.v 3]],.k (.int 32767)]]]],.k (.int 4)]] [.f .app [.v 6,.f (.ext 48) [.f (.get 6) [.v 0],.f (.get 7) [.v 0],.k (.bool false),.v 1,.v 2,.v 5]]] [.room (.f .app [.v 6,.f (.ext 48) [.f (.get 6) [.v 0],.f (.get 7) [.v 0],.k (.bool false),.v 1,.v 2,.v 5]]) 1,.pre 48 [.f (.get 6) [.v 0],.f (.get 7) [.v 0],.k (.bool false),.v 1,.v 2,.v 5]],.pre 53 [.v 2,.f (.ext 56) [.v 0,.v 1,.v 3],.f .len [.f .ite [.f (.ext 56) [.v 0,.v 1,.v 3],.k .nil,.f .take [.f (.get 3) [.v 3],.f .imin [.f .len [.f (.get 3) [.v 3]],.k (.int 32767)]]]],.k (.int 4)],.idx (.f .imin [.f .len [.f (.get 3) [.v 3]],.k (.int 32767)]) (.f (.get 3) [.v 3]) false],.when (.f .eqI [.f (.get 0) [.v 0],.k (.int 11)]) false [.when (.f .ite [.f .eqI [.f (.get 0) [.v 0],.k (.int 10)],.f .leI [.k (.int 0),.f (.get 3) [.v 0]],.k (.bool false)]) true [.when (.f (.ext 56) [.v 0,.v 1,.v 3]) true [.pre 45 [.k (.int (-1)),.k (.int 1)]],.when (.f (.ext 56) [.v 0,.v 1,.v 3]) false [.room (.f .app [.f (.ext 45) [.k (.int 1),.k (.int 1)],.f (.ext 47) [.f (.get 7) [.v 0],.v 1,.v 2,.v 3]]) 1,.pre 47 [.f (.get 7) [.v 0],.v 1,.v 2,.v 3],.pre 45 [.k (.int 1),.k (.int 1)]]],.when (.f .ite [.f .eqI [.f (.get 0) [.v 0],.k (.int 10)],.f .leI [.k (.int 0),.f (.get 3) [.v 0]],.k (.bool false)]) false [.pre 48 [.f (.get 0) [.v 0],.f (.get 7) [.v 0],.f (.ext 56) [.v 0,.v 1,.v 3],.v 1,.v 2,.v 3]]],.pre 56 [.v 0,.v 1,.v 3]]
def de50:DE:=(.f .ite [.f .eqI [.f (.get 0) [.v 0],.k (.int 0)],.f .eqI [.f (.band .i64) [.f (.get 0) [.v 1],.k (.int 1)],.f (.get 5) [.v 0]],.f .ite [.f .eqI [.f (.get 0) [.v 0],.k (.int 7)],.f .ite [.fold 2 (.f (.get 1) [.v 1]) [.k (.bool false)] [.f .ite [.v 4,.k (.bool true),.f .ite [.f .ltI [.v 2,.k (.int 16)],.f .neI [.f (.get 0) [.v 3],.k (.int 0)],.k (.bool false)]]] 0,.k (.bool false),.k (.bool true)],.f .ite [.f .ite [.f .eqI [.f (.get 0) [.v 0],.k (.int 8)],.f .eqI [.f (.get 0) [.v 0],.k (.int 8)],.f .eqI [.f (.get 0) [.v 0],.k (.int 9)]],.f .ite [.f .leI [.k (.int 0),.f (.get 3) [.v 0]],.f (.get 2) [.v 1],.f .eqI [.f .len [.f (.get 1) [.v 1]],.k (.int 0)]],.f .ite [.f .eqI [.f (.get 0) [.v 0],.k (.int 11)],.f .eqI [.f .len [.f (.get 3) [.v 1]],.k (.int 0)],.f .ite [.f .eqI [.f (.get 0) [.v 0],.k (.int 10)],.f .ite [.fold 2 (.f (.get 7) [.v 0]) [.k (.bool false)] [.f .ite [.v 4,.k (.bool true),.f .not [.f (.ext 50) [.v 3,.f (.ext 40) [.v 1,.v 2]]]]] 0,.k (.bool false),.f .eqI [.f .len [.f (.ext 41) [.f (.get 7) [.v 0],.f (.get 4) [.v 1]]],.k (.int 0)]],.f (.ext 52) [.f (.ext 45) [.f (.get 0) [.v 1],.f (.ext 55) [.f (.get 0) [.v 0]]],.f (.ext 45) [.f (.get 5) [.v 0],.f (.ext 55) [.f (.get 0) [.v 0]]]]]]]]])
def ob50:List Ob:=[.when (.f .eqI [.f (.get 0) [.v 0],.k (.int 0)]) false [.when (.f .eqI [.f (.get 0) [.v 0],.k (.int 7)]) true [.all (.f (.get 1) [.v 1]) [.k (.bool false)] [.f .ite [.v 4,.k (.bool true),.f .ite [.f .ltI [.v 2,.k (.int 16)],.f .neI [.f (.get 0) [.v 3],.k (.int 0)],.k (.bool false)]]] [.when (.v 4) false []]],.when (.f .eqI [.f (.get 0) [.v 0],.k (.int 7)]) false [.when (.f .ite [.f .eqI [.f (.get 0) [.v 0],.k (.int 8)],.f .eqI [.f (.get 0) [.v 0],.k (.int 8)],.f .eqI [.f (.get 0) [.v 0],.k (.int 9)]]) false [.when (.f .eqI [.f (.get 0) [.v 0],.k (.int 11)]) false [.when (.f .eqI [.f (.get 0) [.v 0],.k (.int 10)]) true [.when (.fold 2 (.f (.get 7) [.v 0]) [.k (.bool false)] [.f .ite [.v 4,.k (.bool true),.f .not [.f (.ext 50) [.v 3,.f (.ext 40) [.v 1,.v 2]]]]] 0) false [.pre 41 [.f (.get 7) [.v 0],.f (.get 4) [.v 1]]],.all (.f (.get 7) [.v 0]) [.k (.bool false)] [.f .ite [.v 4,.k (.bool true),.f .not [.f (.ext 50) [.v 3,.f (.ext 40) [.v 1,.v 2]]]]] [.when (.v 4) false [.pre 50 [.v 3,.f (.ext 40) [.v 1,.v 2]],.pre 40 [.v 1,.v 2]]]],.when (.f .eqI [.f (.get 0) [.v 0],.k (.int 10)]) false [.pre 52 [.f (.ext 45) [.f (.get 0) [.v 1],.f (.ext 55) [.f (.get 0) [.v 0]]],.f (.ext 45) [.f (.get 5) [.v 0],.f (.ext 55) [.f (.get 0) [.v 0]]]],.pre 45 [.f (.get 5) [.v 0],.f (.ext 55) [.f (.get 0) [.v 0]]],.pre 55 [.f (.get 0) [.v 0]],.pre 45 [.f (.get 0) [.v 1],.f (.ext 55) [.f (.get 0) [.v 0]]],.pre 55 [.f (.get 0) [.v 0]]]]]]]]
def de51:DE:=(.fold 1 (.v 0) [.k (.int 0)] [.f .ite [.f .leI [.k (.int 0),.f (.get 4) [.v 2]],.f .imax [.v 3,.f (.add .u32) [.f (.wrap .u32) [.f (.get 4) [.v 2]],.k (.int 1)]],.v 3]] 0)
def ob51:List Ob:=[.all (.v 0) [.k (.int 0)] [.f .ite [.f .leI [.k (.int 0),.f (.get 4) [.v 2]],.f .imax [.v 3,.f (.add .u32) [.f (.wrap .u32) [.f (.get 4) [.v 2]],.k (.int 1)]],.v 3]] []]
def de52:DE:=(.f .ite [.f .neI [.f .len [.v 0],.f .len [.v 1]],.k (.bool false),.f .ite [.fold 2 (.v 0) [.k (.bool false)] [.f .ite [.v 4,.k (.bool true),.f .neI [.f (.get 0) [.v 3],.f (.get 0) [.f .at [.v 1,.v 2]]]]] 0,.k (.bool false),.k (.bool true)]])
def ob52:List Ob:=[.when (.f .neI [.f .len [.v 0],.f .len [.v 1]]) false [.all (.v 0) [.k (.bool false)] [.f .ite [.v 4,.k (.bool true),.f .neI [.f (.get 0) [.v 3],.f (.get 0) [.f .at [.v 1,.v 2]]]]] [.when (.v 4) false [.idx (.v 2) (.v 1) true]]]]
def de53:DE:=(.f .ite [.f .ite [.v 0,.v 1,.k (.bool false)],.f .mkbytes [.k (.int 0)],.f .ite [.f .ite [.v 0,.k (.bool true),.k (.bool false)],.f (.ext 46) [.f (.add .u64) [.f (.wrap .u64) [.v 2],.k (.int 1)]],.f .ite [.v 1,.f (.ext 45) [.k (.int (-1)),.v 3],.f (.ext 45) [.v 2,.v 3]]]])
def ob53:List Ob:=[.when (.f .ite [.v 0,.v 1,.k (.bool false)]) false [.when (.f .ite [.v 0,.k (.bool true),.k (.bool false)]) true [.pre 46 [.f (.add .u64) [.f (.wrap .u64) [.v 2],.k (.int 1)]]],.when (.f .ite [.v 0,.k (.bool true),.k (.bool false)]) false [.when (.v 1) true [.pre 45 [.k (.int (-1)),.v 3]],.when (.v 1) false [.pre 45 [.v 2,.v 3]]]]]
def de54:DE:=(.f .ite [.f .ltI [.k (.int 2147483647),.f .len [.f (.get 1) [.v 0]]],.k (.bool false),.f .ite [.f .ltI [.k (.int 2147483647),.f .len [.f (.get 3) [.v 0]]],.k (.bool false),.f .ite [.f .not [.f .ite [.f .ltI [.k (.int 2147483647),.f .len [.f (.get 4) [.v 0]]],.k (.bool false),.f .ite [.fold 1 (.f (.get 4) [.v 0]) [.k (.bool false)] [.f .ite [.v 3,.k (.bool true),.f .not [.f .ite [.f .ltI [.k (.int 2147483647),.f .len [.f (.get 1) [.v 2]]],.k (.bool false),.k (.bool true)]]]] 0,.k (.bool false),.k (.bool true)]]],.k (.bool false),.k (.bool true)]]])
def ob54:List Ob:=[.when (.f .ltI [.k (.int 2147483647),.f .len [.f (.get 1) [.v 0]]]) false [.when (.f .ltI [.k (.int 2147483647),.f .len [.f (.get 3) [.v 0]]]) false [.when (.f .ltI [.k (.int 2147483647),.f .len [.f (.get 4) [.v 0]]]) false [.all (.f (.get 4) [.v 0]) [.k (.bool false)] [.f .ite [.v 3,.k (.bool true),.f .not [.f .ite [.f .ltI [.k (.int 2147483647),.f .len [.f (.get 1) [.v 2]]],.k (.bool false),.k (.bool true)]]]] [.when (.v 3) false []]]]]]
def de55:DE:=(.f .ite [.f .eqI [.v 0,.k (.int 1)],.k (.int 1),.f .ite [.f .ite [.f .eqI [.v 0,.k (.int 2)],.f .eqI [.v 0,.k (.int 2)],.f .eqI [.v 0,.k (.int 5)]],.k (.int 2),.f .ite [.f .eqI [.v 0,.k (.int 3)],.k (.int 4),.k (.int 8)]]])
def ob55:List Ob:=[]
def de56:DE:=(.f .ite [.f (.get 2) [.v 2],.f .ite [.f .leI [.k (.int 0),.f (.get 3) [.v 0]],.f .leI [.f (.get 3) [.v 0],.v 1],.k (.bool false)],.k (.bool false)])
def ob56:List Ob:=[]
def de57:DE:=(.f .ite [.f .leI [.f (.get 1) [.v 0],.v 1],.f .ite [.f .ltI [.f (.get 2) [.v 0],.k (.int 0)],.k (.bool true),.f .leI [.v 1,.f (.get 2) [.v 0]]],.k (.bool false)])
def ob57:List Ob:=[]
def de58:DE:=(.f .tmod [.f (.wrap .i64) [.v 0],.f (.add .i64) [.v 1,.k (.int 1)]])
def ob58:List Ob:=[(.nz (.f (.add .i64) [.v 1,.k (.int 1)]))]
def de59:DE:=(.f .ite [.f .leI [.k (.int 0),.f (.get 1) [.v 0]],.f (.ext 47) [.f (.get 0) [.v 0],.v 1,.f .leI [.f (.get 1) [.v 0],.v 1],.v 2],.f (.ext 47) [.f (.get 0) [.v 0],.v 1,.k (.bool false),.v 2]])
def ob59:List Ob:=[.when (.f .leI [.k (.int 0),.f (.get 1) [.v 0]]) true [.pre 47 [.f (.get 0) [.v 0],.v 1,.f .leI [.f (.get 1) [.v 0],.v 1],.v 2]],.when (.f .leI [.k (.int 0),.f (.get 1) [.v 0]]) false [.pre 47 [.f (.get 0) [.v 0],.v 1,.k (.bool false),.v 2]]]
def de60:DE:=(.f .app [.f (.ext 45) [.v 1,.k (.int 2)],.f (.ext 59) [.v 0,.v 1,.v 2]])
def ob60:List Ob:=[.room (.f .app [.f (.ext 45) [.v 1,.k (.int 2)],.f (.ext 59) [.v 0,.v 1,.v 2]]) 1,.pre 59 [.v 0,.v 1,.v 2],.pre 45 [.v 1,.k (.int 2)]]
end Go.Mx
namespace Go.Mx
open Go Go.Dx
mutual
def wF:Fl->Nat
 | .mk k _ _ _ _ _ _ s=>wFs s+1+(if k=11 then 1 else 0)
def wFs:Option (List Fl)->Nat
 | none=>0
 | some l=>wFl l+1
def wFl:List Fl->Nat
 | []=>0
 | f::r=>wF f+wFl r
end
mutual
def wfF:Fl->Bool
 | .mk k _ _ _ g _ o s=>decide (g<=1000)&&(decide (k≠11) || decide (o≠11))&&wfFs s
def wfFs:Option (List Fl)->Bool
 | none=>true
 | some l=>decide (l.length<=1000)&&wfFl l
def wfFl:List Fl->Bool
 | []=>true
 | f::r=>wfF f&&wfFl r
end
mutual
def wT:T->Nat
 | .mk _ _ _ l _=>wTo l+1
def wTo:Option (List T)->Nat
 | none=>0
 | some l=>wTl l
def wTl:List T->Nat
 | []=>0
 | t::r=>wT t+wTl r
end
mutual
def smT:T->Bool
 | .mk _ _ _ l u=>smTo l&&decide ((u.getD []).length<=40000)
def smTo:Option (List T)->Bool
 | none=>true
 | some l=>decide (l.length<=40000)&&smTl l
def smTl:List T->Bool
 | []=>true
 | t::r=>smT t&&smTl r
end
theorem wF_mem:∀ {l:List Fl} {f:Fl},f∈l->wF f<=wFl l
 | g::r,f,h=>by
  simp only[wFl];rcases List.mem_cons.1 h with rfl|h
  ·omega
  ·have:=wF_mem h;omega
theorem zUG(f:Fl):wFs f.sub<wF f:=by cases f;simp only[Fl.sub,wF];omega
theorem yJE{f:Fl}(h:wfF f=true):wfFs f.sub=true:=by
 cases f;simp only[wfF,baZ] at h;exact h.2
theorem xUG:∀ {l:List Fl},wfFl l=true -> ∀f∈l,wfF f=true
 | [],_,f,h=>by cases h
 | g::r,hw,f,h=>by
  simp only[wfFl,baZ] at hw;rcases List.mem_cons.1 h with rfl|h
  ·exact hw.1
  ·exact xUG hw.2 f h
theorem wT_mem:∀ {l:List T} {t:T},t∈l->wT t<=wTl l
 | g::r,f,h=>by
  simp only[wTl];rcases List.mem_cons.1 h with rfl|h
  ·omega
  ·have:=wT_mem h;omega
theorem qLI:∀ {l:List T},smTl l=true -> ∀f∈l,smT f=true
 | [],_,f,h=>by cases h
 | g::r,hw,f,h=>by
  simp only[smTl,baZ] at hw;rcases List.mem_cons.1 h with rfl|h
  ·exact hw.1
  ·exact qLI hw.2 f h
def lim:Nat:=1099511627776
def meas:Nat->List D->Nat
 | 42,[f,_,_]=>wF (toF f)
 | 43,[fs,_,_]=>wFs (decF fs)
 | 44,[t]=>wT (toT t)
 | 47,[fs,_,_,_]=>3*wFs (decF fs)
 | 48,[_,fs,_,_,_,_]=>3*wFs (decF fs)+1
 | 49,[f,_,_,_]=>3*wFs (toF f).sub+2
 | 50,[f,_]=>wF (toF f)
 | _,_=>0
def yMA(k:Nat):Bool:=k==42 || k==43 || k==44 || k==47 || k==48 || k==49 || k==50
def side:Nat->List D->Prop
 | 1,[_,i]=>0<=i.asInt
 | 40,[_,i]=>0<=i.asInt
 | 12,[o,s]=>s.len<2147483648/\o.asStr.length+s.len+5<=lim
 | 16,[o,s]=>s.len<2147483648/\o.asStr.length+s.len+5<=lim
 | 14,[o,s]=>s.deref.len<2147483648/\o.asStr.length+s.deref.len+5<=lim
 | 18,[o,s]=>s.len<2147483648/\o.asStr.length+s.len+5<=lim
 | 20,[o,n]=>0<=n.asInt/\n.asInt<2147483648/\o.asStr.length+5<=lim
 | 22,[o,n,_]=>0<=n.asInt/\n.asInt<2147483648/\o.asStr.length+5<=lim
 | 41,[fs,_]=>wfFs (decF fs)=true
 | 51,[fs]=>wfFs (decF fs)=true
 | 42,[f,_,_]=>wfF (toF f)=true
 | 43,[fs,_,_]=>wfFs (decF fs)=true
 | 44,[t]=>smT (toT t)=true
 | 45,[_,n]=>0<=n.asInt/\n.asInt<=8
 | 47,[fs,v,x,t]=>wfFs (decF fs)=true/\(zCB (decF fs) v.asInt x.asBool (toT t)).length<=lim
 | 48,[k,fs,b,v,x,t]=>wfFs (decF fs)=true/\(qDB k.asInt b.asBool x.asBool (toT t) (zCB (decF fs) v.asInt x.asBool (toT t))).length<=lim
 | 49,[f,v,x,t]=>wfF (toF f)=true/\(field (toF f) v.asInt x.asBool (toT t)).length<=lim
 | 50,[f,_]=>wfF (toF f)=true
 | 53,[_,_,n,s]=>0<=n.asInt/\n.asInt<=40000/\(s.asInt=2∨s.asInt=4)
 | 58,[n,m]=>0<=n.asInt/\0<=m.asInt/\m.asInt<=1000
 | 59,[.row [fs,fx],v,t]=>wfFs (decF fs)=true/\(zCB (decF fs) v.asInt (zIB fx.asInt v.asInt) (toT t)).length<=lim
 | 60,[.row [fs,fx],v,t]=>wfFs (decF fs)=true/\(zCB (decF fs) v.asInt (zIB fx.asInt v.asInt) (toT t)).length+2<=lim
 | 100,[v,t]=>(0<=v.asInt/\v.asInt<=1)/\(X 100 [v,t]).len<=lim
 | 300,[m,u]=>u = .nil/\(mapL m).length<=100000 /\ ∀x∈mapL m,x.2.len<=lim
 | 301,[u]=>(u.rows.map fun r=>(r.cells.getD 0 .nil).asInt).Pairwise (· < ·)/\u.rows.length<=100000
 | 303,[fs,_,_,_,_]=>wfFs (decF fs)=true
 | 304,[f,_,_,_,_]=>wfF (toF f)=true
 | 25,[m,o]=>(X 25 [m,o]).len<=lim /\ ∀x∈mapL m,x.2.len<4294967296
 | 61,[s]=>∃b,s = .bytes b/\1<=b.length
 | 62,[s]=>∃b,s = .bytes b/\1<=b.length
 | 63,[s]=>∃b,s = .bytes b/\2<=b.length
 | 64,[s]=>∃b,s = .bytes b/\2<=b.length
 | 65,[s]=>∃b,s = .bytes b/\4<=b.length
 | 66,[s]=>∃b,s = .bytes b/\8<=b.length
 | 67,[s]=>∃b,s = .bytes b/\16<=b.length
 | 68,[s]=>∃b,s = .bytes b/\4<=b.length
 | 69,[s]=>∃b,s = .bytes b/\8<=b.length
 | 70,[s]=>∃n r,s = .bytes (zOA n++r)/\n<4294967296
 | 71,[s,l]=>∃b,s = .bytes b/\0<=l.asInt/\l.asInt.toNat<=b.length
 | 72,[s]=>∃v r,s = .bytes (zSA (v.length:Nat) 2++(v++r))/\v.length<=Most
 | 73,[s]=>∃v r,s = .bytes (zOA (v.length+1)++(v++r))/\v.length<=Most
 | 74,[s]=>(∃r,s = .bytes (zSA (-1) 2++r)) ∨ ∃v r,s = .bytes (zSA (v.length:Nat) 2++(v++r))/\v.length<=Most
 | 75,[s]=>(∃r,s = .bytes (zOA 0++r)) ∨ ∃v r,s = .bytes (zOA (v.length+1)++(v++r))/\v.length<=Most
 | 76,[s]=>∃v r,s = .bytes (zSA (v.length:Nat) 4++(v++r))/\v.length<=Most
 | 77,[s]=>∃v r,s = .bytes (zOA (v.length+1)++(v++r))/\v.length<=Most
 | 78,[s]=>(∃r,s = .bytes (zSA (-1) 4++r)) ∨ ∃v r,s = .bytes (zSA (v.length:Nat) 4++(v++r))/\v.length<=Most
 | 79,[s]=>(∃r,s = .bytes (zOA 0++r)) ∨ ∃v r,s = .bytes (zOA (v.length+1)++(v++r))/\v.length<=Most
 | 80,[s]=>∃n r,s = .bytes (zSA n 4++r) /\ -1<=n/\n<=(r.length:Nat)/\n<2147483648
 | 81,[s]=>∃n r,s = .bytes (zOA n++r)/\(n:Int)-1<=(r.length:Nat)/\n<2147483648
 | 82,[s]=>∃u r,s = .bytes (zOA u.length++((u.map fun x:Tg=>tagB x.key.toNat (x.val.getD [])).flatten++r))/\xAK u
 | 86,[_,s]=>∃b,s = .bytes b/\8<=b.length
 | 87,[_,s]=>∃b,s = .bytes b/\4<=b.length
 | 401,[t]=>ptS S401 t
 | 402,[t]=>ptS S402 t
 | 309,[_,_,_,_,i,_,b]=>i.asStr.length+b.asStr.length+100<=lim
 | 24,_=>True
 | 26,_=>True
 | 28,_=>True
 | 31,_=>True
 | 46,_=>True
 | 52,_=>True
 | 54,_=>True
 | 55,_=>True
 | 56,_=>True
 | 305,_=>True
 | 306,_=>True
 | 307,_=>True
 | 308,_=>True
 | 57,_=>True
 | k,ds=>(X k ds).len<=lim
def Pre(n k:Nat)(ds:List D):Prop:=(yMA k=true->meas k ds<n)/\side k ds
theorem qQH(f y1 y2:D):meas 42 [f,y1,y2]=(wF (toF f)):=rfl
theorem yMK(fs y1 y2:D):meas 43 [fs,y1,y2]=(wFs (decF fs)):=rfl
theorem yNK(t:D):meas 44 [t]=(wT (toT t)):=rfl
theorem zMF(fs y1 y2 y3:D):meas 47 [fs,y1,y2,y3]=(3*wFs (decF fs)):=rfl
theorem qRH(y1 fs y2 y3 y4 y5:D):meas 48 [y1,fs,y2,y3,y4,y5]=(3*wFs (decF fs)+1):=rfl
theorem qSH(f y1 y2 y3:D):meas 49 [f,y1,y2,y3]=(3*wFs (toF f).sub+2):=rfl
theorem qTH(f y1:D):meas 50 [f,y1]=(wF (toF f)):=rfl
theorem yDE(y1 i:D):side 40 [y1,i]=(0<=i.asInt):=rfl
theorem qFK(o s:D):side 12 [o,s]=(s.len<2147483648/\o.asStr.length+s.len+5<=lim):=rfl
theorem qGK(o s:D):side 16 [o,s]=(s.len<2147483648/\o.asStr.length+s.len+5<=lim):=rfl
theorem side_14(o s:D):side 14 [o,s]=(s.deref.len<2147483648/\o.asStr.length+s.deref.len+5<=lim):=rfl
theorem side_18(o s:D):side 18 [o,s]=(s.len<2147483648/\o.asStr.length+s.len+5<=lim):=rfl
theorem side_20(o n:D):side 20 [o,n]=(0<=n.asInt/\n.asInt<2147483648/\o.asStr.length+5<=lim):=rfl
theorem side_22(o n y1:D):side 22 [o,n,y1]=(0<=n.asInt/\n.asInt<2147483648/\o.asStr.length+5<=lim):=rfl
theorem yRF(fs y1:D):side 41 [fs,y1]=(wfFs (decF fs)=true):=rfl
theorem zUI(fs:D):side 51 [fs]=(wfFs (decF fs)=true):=rfl
theorem zRI(f y1 y2:D):side 42 [f,y1,y2]=(wfF (toF f)=true):=rfl
theorem qHK(fs y1 y2:D):side 43 [fs,y1,y2]=(wfFs (decF fs)=true):=rfl
theorem qIK(t:D):side 44 [t]=(smT (toT t)=true):=rfl
theorem zQC(y1 n:D):side 45 [y1,n]=(0<=n.asInt/\n.asInt<=8):=rfl
theorem ySF(fs v x t:D):side 47 [fs,v,x,t]=(wfFs (decF fs)=true/\(zCB (decF fs) v.asInt x.asBool (toT t)).length<=lim):=rfl
theorem zSI(k fs b v x t:D):side 48 [k,fs,b,v,x,t]=(wfFs (decF fs)=true/\(qDB k.asInt b.asBool x.asBool (toT t) (zCB (decF fs) v.asInt x.asBool (toT t))).length<=lim):=rfl
theorem zTI(f v x t:D):side 49 [f,v,x,t]=(wfF (toF f)=true/\(field (toF f) v.asInt x.asBool (toT t)).length<=lim):=rfl
theorem yTF(f y1:D):side 50 [f,y1]=(wfF (toF f)=true):=rfl
theorem yEE(y1 y2 n s:D):side 53 [y1,y2,n,s]=(0<=n.asInt/\n.asInt<=40000/\(s.asInt=2∨s.asInt=4)):=rfl
theorem qJK(n m:D):side 58 [n,m]=(0<=n.asInt/\0<=m.asInt/\m.asInt<=1000):=rfl
theorem qKK(fs fx v t:D):side 59 [.row [fs,fx],v,t]=(wfFs (decF fs)=true/\(zCB (decF fs) v.asInt (zIB fx.asInt v.asInt) (toT t)).length<=lim):=rfl
theorem side_60(fs fx v t:D):side 60 [.row [fs,fx],v,t]=(wfFs (decF fs)=true/\(zCB (decF fs) v.asInt (zIB fx.asInt v.asInt) (toT t)).length+2<=lim):=rfl
theorem zero_d:T.zero.d = .row [.int 0,.nil,.bool false,.nil,.nil]:=by simp[T.zero,T.d,encB,encT,encU]
theorem at_encT(l:Option (List T))(i:Nat)(h:i<(l.getD []).length):(encT l).rows.getD i .nil=((l.getD []).getD i T.zero).d:=by
 rw[yFC];simp[List.getD_eq_getElem?_getD,h]
theorem ev40(t:T)(i:Int)(hi:0<=i)(n:Nat):zCA X (Pre n) ob40 [t.d,.int i]/\de40.eval X [t.d,.int i]=X 40 [t.d,.int i]:=by
 have e:(t.l.getD [])=t.L:=rfl;constructor
 ·simp only[ob40,zCA,Ob.holds,DE.eval,zDA,Fn.eval,gzZ,gsZ,zWA,D.asInt,D.asBool,xEA,e,if_true];refine⟨fun h=>⟨⟨hi,?_⟩,trivial⟩,trivial⟩
  have:=of_decide_eq_true h
  omega
 ·simp only[de40,X_40,yOA,DE.eval,zDA,Fn.eval,gzZ,gsZ,zWA,D.asInt,D.asBool,xEA,at',e];by_cases h:i<(t.L.length:Int)
  ·simp only[h,decide_true,if_true];exact at_encT t.l i.toNat (by show _<t.L.length;omega)
  ·simp only[h,decide_false,if_false,zero_d,bfZ]
theorem ev1(t:T)(i:Int)(hi:0<=i)(n:Nat):zCA X (Pre n) ob1 [t.d,.int i]/\de1.eval X [t.d,.int i]=X 1 [t.d,.int i]:=ev40 t i hi n
theorem ev56(f:Fl)(v:Int)(t:T):de56.eval X [f.d,.int v,t.d]=X 56 [f.d,.int v,t.d]:=by
 simp only[de56,X_56,yOA,xPA,DE.eval,zDA,Fn.eval,gzZ,gsZ,zWA,yBA,D.asInt,D.asBool,Mx.null];cases t.null <;> by_cases h:0<=f.null <;> by_cases h2:f.null<=v <;> simp[h,h2]
theorem ev57(f:Fl)(v:Int):de57.eval X [f.d,.int v]=X 57 [f.d,.int v]:=by
 simp only[de57,X_57,xPA,DE.eval,zDA,Fn.eval,gzZ,gsZ,yBA,D.asInt,D.asBool,has];by_cases h:f.frm<=v <;> by_cases h2:f.to<0 <;> by_cases h3:v<=f.to <;> simp[h,h2,h3]
theorem ev55(k:Int):de55.eval X [.int k]=X 55 [.int k]:=by
 simp only[de55,X_55,DE.eval,zDA,Fn.eval,gzZ,D.asInt,D.asBool,xFF];by_cases h1:k=1 <;> by_cases h2:k=2 <;> by_cases h5:k=5 <;> by_cases h3:k=3 <;> simp[h1,h2,h5,h3]
end Go.Mx
namespace Go.Mx
open Go Go.Dx
def rdU(r:D):Prop:=∃x s b,r = .row [x,encB s,.bool b]/\(s.getD []).length<=1000000
def isRd(k:Nat):Bool:=decide (361<=k)&&decide (k<=382)
def zOB(k:Nat)(ds:List D):Prop:=if isRd k=true then (match ds with|r::_=>rdU r|[]=>False) else side k ds
def addF:DE->Bool->List (DE×Bool)->List (DE×Bool)
 | .f .not [a],b,F=>addF a (!b) F
 | .f .ite [c,.k (.bool true),y],false,F=>addF c false (addF y false F)
 | .f .ite [c,x,.k (.bool false)],true,F=>addF c true (addF x true F)
 | e,b,F=>(e,b)::F
def hasF(e:DE)(b:Bool):List (DE×Bool)->Bool
 | []=>false
 | p::r=>(p.2==b&&p.1.beq e) || hasF e b r
def contra(F:List (DE×Bool)):Bool:=F.any fun p=>hasF p.1 (!p.2) F
def FOk(X:Nat->List D->D)(J:List D)(F:List (DE×Bool)):Prop:=∀p∈F,(p.1.eval X J).asBool=p.2
section
variable {X:Nat->List D->D} {J:List D}
theorem addF_ok:∀(e:DE) (b:Bool) (F:List (DE×Bool)),(e.eval X J).asBool=b->FOk X J F->FOk X J (addF e b F):=by
 intro e b F
 fun_induction addF e b F with
 | case1 a b F ih =>
  intro h hF;refine ih ?_ hF;have h':(!(a.eval X J).asBool)=b:=h;rw[<- h',Bool.not_not]
 | case2 c y F ih1 ih2 =>
  intro h hF
  have:(DE.f .ite [c,.k (.bool true),y]).eval X J=if (c.eval X J).asBool then .bool true else y.eval X J:=rfl
  rw[this] at h;cases hc:(c.eval X J).asBool with
  | true=>rw[hc] at h;simp[D.asBool] at h
  | false =>
   rw[hc] at h;simp only[bfZ,if_false] at h
   first
    | exact ih2 hc (ih1 h hF)
    | exact ih1 hc (ih2 h hF)
 | case3 c x F ih1 ih2 =>
  intro h hF
  have:(DE.f .ite [c,x,.k (.bool false)]).eval X J=if (c.eval X J).asBool then x.eval X J else .bool false:=rfl
  rw[this] at h;cases hc:(c.eval X J).asBool with
  | false=>rw[hc] at h;simp[D.asBool] at h
  | true =>
   rw[hc] at h;simp only[if_true] at h
   first
    | exact ih2 hc (ih1 h hF)
    | exact ih1 hc (ih2 h hF)
 | case4 b F e =>
  intro h hF p hp;rcases List.mem_cons.1 hp with rfl|hp
  ·exact h
  ·exact hF p hp
theorem qXE{e:DE}{b:Bool}:∀ {F:List (DE×Bool)},hasF e b F=true->FOk X J F->(e.eval X J).asBool=b
 | p::r,h,hF=>by
  simp only[hasF,Bool.or_eq_true,baZ,beq_iff_eq] at h;rcases h with⟨h1,h2⟩|h
  ·rw[<- DE.beq_eq h2,<- h1];exact hF p List.mem_cons_self
  ·exact qXE h fun q hq=>hF q (List.mem_cons_of_mem _ hq)
theorem qSJ{F:List (DE×Bool)}(h:contra F=true)(hF:FOk X J F):False:=by
 obtain⟨p,hp,h1⟩:=List.any_eq_true.1 h;have h2:=qXE h1 hF;have h3:=hF p hp;rw[h3] at h2;cases hb:p.2 <;> rw[hb] at h2 <;> cases h2
end
abbrev KT:=Option (Nat×DE×List Nat×List (Nat×List D))
def KtOk(X:Nat->List D->D)(J:List D):KT->Prop
 | none=>True
 | some (lv,l,G,Z)=>∃k:Nat,J.getD lv .nil = .int k/\k<(l.eval X J).asInt.toNat/\(∀j∈G,(l.eval X J).asInt.toNat<=(J.getD j .nil).len) /\ ∀p∈Z,(J.getD p.1 .nil).rows.getD k .nil = .row p.2
def qDJ:DE->Option Nat
 | .v j=>some j
 | .f .setAt [x,_,_]=>qDJ x
 | .f (.setCells _) [x,_,_]=>qDJ x
 | _=>none
theorem baseV_ok{X:Nat->List D->D}{J:List D}:∀ {e:DE} {j:Nat},qDJ e=some j->(e.eval X J).len=(J.getD j .nil).len:=by
 intro e
 fun_induction qDJ e with
 | case1 i=>intro j h;cases h;simp[DE.eval]
 | case2 x a b ih =>
  intro j h;show ((x.eval X J).setAtD _ _).len=_;rw[yQF];exact ih h
 | case3 o x a b ih =>
  intro j h;show ((x.eval X J).setCellsD o _ _).len=_;rw[qWC];exact ih h
 | case4=>intro j h;cases h
def yYG(i:Nat):DE->Bool
 | .v j=>j==i
 | .f .setAt [x,_,_]=>yYG i x
 | .f (.setCells _) [x,_,_]=>yYG i x
 | .f .ite [_,x,y]=>yYG i x&&yYG i y
 | _=>false
theorem keeps_ok{X:Nat->List D->D}{J:List D}{i:Nat}:∀ {e:DE},yYG i e=true->(J.getD i .nil).len<=(e.eval X J).len:=by
 intro e
 fun_induction yYG i e with
 | case1 j=>intro h;simp only[beq_iff_eq] at h;subst h;simp[DE.eval]
 | case2 x a b ih =>
  intro h;show _<=((x.eval X J).setAtD _ _).len;rw[yQF];exact ih h
 | case3 o x a b ih =>
  intro h;show _<=((x.eval X J).setCellsD o _ _).len;rw[qWC];exact ih h
 | case4 c x y ihx ihy =>
  intro h;simp only[baZ] at h;show _<=(if (c.eval X J).asBool then x.eval X J else y.eval X J).len;split
  ·exact ihx h.1
  ·exact ihy h.2
 | case5=>intro h;cases h
def zOK(l:DE):DE->Bool
 | .f .repl [l',_]=>l'.beq l
 | .f .app [.k .nil,.f .repl [l',_]]=>l'.beq l
 | .f .ite [.f .ltI [.k (.int 0),l'],x,_]=>l'.beq l&&(match x with
  | .f .repl [l2,_]=>l2.beq l
  | .f .app [.k .nil,.f .repl [l2,_]]=>l2.beq l
  | _=>false)
 | _=>false
theorem fromR{X:Nat->List D->D}{J:List D}{l z:DE}:(l.eval X J).asInt.toNat<=((DE.f .repl [l,z]).eval X J).len:=by
 show _<=(List.replicate _ _).length;rw[List.length_replicate];exact Nat.le_refl _
theorem fromA{X:Nat->List D->D}{J:List D}{l z:DE}:(l.eval X J).asInt.toNat<=((DE.f .app [.k .nil,.f .repl [l,z]]).eval X J).len:=by
 show _<=(D.appd .nil (.list (List.replicate (l.eval X J).asInt.toNat (z.eval X J)))).len;cases hn:(l.eval X J).asInt.toNat with
 | zero=>exact Nat.zero_le _
 | succ n =>
  rw[List.replicate_succ];simp[D.appd,D.len]
theorem fromL_ok{X:Nat->List D->D}{J:List D}{l:DE}(hl:0<(l.eval X J).asInt):∀ {e:DE},zOK l e=true->(l.eval X J).asInt.toNat<=(e.eval X J).len:=by
 intro e h;unfold zOK at h;split at h
 ·rw[DE.beq_eq h];exact fromR
 ·rw[DE.beq_eq h];exact fromA
 ·rename_i l' x y;rw[baZ] at h;have e1:=DE.beq_eq h.1;subst e1;have hc:((DE.f .ltI [.k (.int 0),l']).eval X J).asBool=true:=by
   show decide ((0:Int)<_)=true;simpa using hl
  show _<=(if ((DE.f .ltI [.k (.int 0),l']).eval X J).asBool then x.eval X J else y.eval X J).len;rw[hc];simp only[if_true];have h2:=h.2;split at h2
  ·rw[DE.beq_eq h2];exact fromR
  ·rw[DE.beq_eq h2];exact fromA
  ·cases h2
 ·cases h
def yQE(l:DE):Nat->List DE->List DE->List Nat
 | i,e::is,b::bs=>if zOK l e&&yYG i b then i::yQE l (i+1) is bs else yQE l (i+1) is bs
 | _,_,_=>[]
def zOf(l:DE):DE->Option (List D)
 | .f .repl [l',.k (.row z)]=>if l'.beq l then some z else none
 | .f .app [.k .nil,.f .repl [l',.k (.row z)]]=>if l'.beq l then some z else none
 | .f .ite [.f .ltI [.k (.int 0),l'],x,_]=>if l'.beq l then (match x with
  | .f .repl [l2,.k (.row z)]=>if l2.beq l then some z else none
  | .f .app [.k .nil,.f .repl [l2,.k (.row z)]]=>if l2.beq l then some z else none
  | _=>none) else none
 | _=>none
def xVD(lv i:Nat):DE->Bool
 | .v j=>j==i
 | .f .setAt [x,.v n,_]=>n==lv&&xVD lv i x
 | .f (.setCells _) [x,.v n,_]=>n==lv&&xVD lv i x
 | .f .ite [_,x,y]=>xVD lv i x&&xVD lv i y
 | _=>false
def zIx(lv:Nat)(l:DE):Nat->List DE->List DE->List (Nat×List D)
 | i,e::is,b::bs=>match zOf l e with
  | some z=>if xVD lv i b then (i,z)::zIx lv l (i+1) is bs else zIx lv l (i+1) is bs
  | none=>zIx lv l (i+1) is bs
 | _,_,_=>[]
def zVH(lv:Nat)(src:DE)(is bs:List DE):KT×List (DE×Bool) :=
 match src with
 | .f .iota [l]=>if l.shut lv then (some (lv,l,yQE l (lv+2) is bs,zIx lv l (lv+2) is bs),[(.f .ltI [.k (.int 0),l],true)]) else (none,[])
 | _=>(none,[])
def nzOk(ge:Int)(env:List A)(E:Nat->List A->A)(T:TT)(F:List (DE×Bool))(e:DE):Bool :=
 (match e with
  | .f (.ext 399) [.k (.int n)]=>n==ge
  | e=>match abs E T env e with
   | .int lo hi=>decide (0<lo) || decide (hi<0)
   | _=>false) || contra F
def idxOk(env:List A)(E:Nat->List A->A)(T:TT)(F:List (DE×Bool))(K:KT)(e d:DE)(b:Bool):Bool :=
 (match e with
  | .k (.int c)=>decide (0<=c)&&((c==0 && !b) || F.any fun p=>!p.2&&match p.1 with
   | .f .ltI [.f .len [d'],.k (.int m)]=>d'.beq d&&(if b then decide (c<m) else decide (c<=m))
   | _=>false)
  | .f .len [x]=>b&&match d with
   | .f .app [x',.f .mklist (_::_)]=>x'.beq x&&(match abs E T env x with | .nil=>true | .list _ _=>true|_=>false)
   | _=>false
  | .v i=>b&&match K,qDJ d with
   | some (lv,_,G,_),some j=>i==lv&&G.elem j
   | _,_=>false
  | _=>false) ||
 (!b&&hasF (.f .ltI [.f .len [d],e]) false F&&hasF (.f .ltI [e,.k (.int 0)]) false F)
def preOk(env:List A)(E:Nat->List A->A)(T:TT)(F:List (DE×Bool))(k:Nat)(l:List DE):Bool :=
 if isRd k then
  match abss E T env l with
  | .row [_,s,.bool]::_=>s.le (.oct 1000000)
  | _=>false
 else if k=300 then
  match abss E T env l with
  | [.map n m,.nil]=>decide (n<=100000)&&decide (m<=lim)
  | [.nil,.nil]=>true
  | _=>false
 else if k=301 then
  match l with
  | [.f (.ext 300) [m,.k .nil]]=>match abs E T env m with
   | .map n _=>decide (n<=100000)
   | .nil=>true
   | _=>false
  | _=>false
 else false
def zCJ(env:List A)(E:Nat->List A->A)(T:TT)(lv L c:Nat):DE->Option Nat
 | .v j=>some j
 | .f (.setCells off) [x,.v n,v]=>match qDG (abs E T env v) with
  | some xs=>if n==lv&&decide (off+xs.length<=L)&&(decide (c<off) || decide (off+xs.length<=c)) then zCJ env E T lv L c x else none
  | none=>none
 | _=>none
def yPG(env:List A)(E:Nat->List A->A)(T:TT)(K:KT):DE->Bool
 | .f (.get c) [.f .at [x,.v n]]=>match K with
  | some (lv,_,_,Z)=>n==lv&&Z.any fun p=>(match p.2.getD c (.int 0) with | .nil=>true|_=>false)&&zCJ env E T lv p.2.length c x==some p.1
  | none=>false
 | _=>false
structure Sx where
 ge:Int
 E:Nat->List A->A
 tab:List Nm
 cs:List (Nat×Cert)
mutual
def okOb(S:Sx)(T:TT)(env:List A)(F:List (DE×Bool))(K:KT)(last:Option Nat):Ob->Bool
 | .room d n=>match lenA (abs S.E T env d) with
  | some m=>decide (m*n<=LIM)&&decide (m<=maxLen)
  | none=>false
 | .cap d n=>match abs S.E T env d with
  | .int lo hi=>(decide (0<=lo) || hasF (.f .ltI [.k (.int 0),d]) true F)&&decide (hi.toNat*n<=LIM)&&decide (hi.toNat<=maxLen)
  | _=>false
 | .nz e=>nzOk S.ge env S.E T F e
 | .ge0 e=>match abs S.E T env e with
  | .int lo _=>decide (0<=lo)
  | _=>false
 | .idx e d b=>idxOk env S.E T F K e d b
 | .pre k l=>preOk env S.E T F k l
 | .all s i b os=>match last with
  | some n=>match qCH n S.tab,lk n S.cs with
   | some m,some c=>m.src.beq s&&zRB m.is i&&zRB m.bs b&&A.les env c.env &&
    zKH S T c.all (zVH m.lv s i b).2 (zVH m.lv s i b).1 none os
   | _,_=>false
  | none=>false
 | .term _ _ _ _=>false
 | .defn n lv s i b=>match qCH n S.tab with
  | some m=>m.lv==lv&&env.length==lv&&m.src.beq s&&zRB m.is i&&zRB m.bs b
  | none=>false
 | .when c b os=>(match c,b with
  | .f .not [.f .isNil [d]],true=>yPG env S.E T K d
  | _,_=>false) || zKH S T env (addF c b F) K none os
def zKH(S:Sx)(T:TT)(env:List A)(F:List (DE×Bool))(K:KT)(last:Option Nat):List Ob->Bool
 | []=>true
 | o::r=>okOb S T env F K last o&&zKH S T env F K (match o with | .defn n _ _ _ _=>some n|_=>none) r
end
section
variable {X:Nat->List D->D} {J:List D} {env:List A} {E:Nat->List A->A} {T:TT} {F:List (DE×Bool)} {K:KT}
theorem nzOk_ok{ge:Int}(hE:XOk X E)(hT:TOk X T)(h399:(X 399 [.int ge]).asInt≠0)(hδ:A.gs env J)(hF:FOk X J F){e:DE}(h:nzOk ge env E T F e=true):(e.eval X J).asInt≠0:=by
 unfold nzOk at h;rw[Bool.or_eq_true] at h;rcases h with h|h
 ·split at h
  ·rename_i n;rw[beq_iff_eq] at h;subst h;show (Fn.eval X (.ext 399) [.int n]).asInt≠0;rw[zNA];exact h399
  ·have:=xSB hE hT hδ e
   split at h
   ·rename_i lo hi ha;rw[ha] at this;obtain⟨n,hn,h1,h2⟩:=this;rw[hn];simp only[Bool.or_eq_true,dtZ] at h;show n≠0;omega
   ·cases h
 ·exact(qSJ h hF).elim
theorem yZG{d:DE}{c:DE}(hF:((DE.f .ltI [.f .len [d],c]).eval X J).asBool=false):(c.eval X J).asInt<=(d.eval X J).len:=by
 have h1:decide ((((d.eval X J).len:Nat):Int)<(c.eval X J).asInt)=false:=hF;simpa using h1
theorem idxOk_ok(hE:XOk X E)(hT:TOk X T)(hδ:A.gs env J)(hF:FOk X J F)(hK:KtOk X J K){e d:DE}{b:Bool}(h:idxOk env E T F K e d b=true):(Ob.idx e d b).holds X zOB J:=by
 simp only[Ob.holds];unfold idxOk at h;rw[Bool.or_eq_true] at h;rcases h with h|h
 ·split at h
  ·rename_i c;rw[baZ,Bool.or_eq_true,dtZ] at h;obtain⟨h0,h⟩:=h;have he:((DE.k (.int c)).eval X J).asInt=c:=rfl;rw[he];refine⟨h0,?_⟩;rcases h with h|h
   ·simp only[baZ,beq_iff_eq,Bool.not_eq_true'] at h;obtain⟨rfl,rfl⟩:=h
    simp
   ·obtain⟨p,hp,h1⟩:=List.any_eq_true.1 h;rw[baZ] at h1;have h2:=h1.2;have hpf:=hF p hp;rw[show p.2=false by simpa using h1.1] at hpf;split at h2
    ·rename_i d' m hp1;rw[baZ] at h2;rw[hp1] at hpf;have h4:m<=(d'.eval X J).len:=yZG hpf;rw[DE.beq_eq h2.1] at h4;have h3:=h2.2;cases b <;> simp only[bfZ,if_false,if_true,dtZ] at h3 ⊢ <;> omega
    ·cases h2
  ·rename_i x;rw[baZ] at h;obtain⟨rfl,h⟩:=h;split at h
   ·rename_i x' y ys;rw[baZ] at h;have e1:=DE.beq_eq h.1;subst e1;have hx:=xSB hE hT hδ x';have h2:=h.2;simp only[if_true];show (0:Int)<=(((x'.eval X J).len:Nat):Int)/\(((x'.eval X J).len:Nat):Int).toNat<((x'.eval X J).appd (Fn.eval X .mklist (zDA X (y::ys) J))).len;rw[qHA];refine⟨by omega,?_⟩;rw[Int.toNat_natCast];have hcase:x'.eval X J = .nil ∨ ∃l,x'.eval X J = .list l:=by
     split at h2
     ·rename_i ha;rw[ha] at hx;exact .inl hx
     ·rename_i ha;rw[ha] at hx
      rcases hx with hx|⟨l,hx,_⟩
      ·exact .inl hx
      ·exact .inr ⟨l,hx⟩
     ·cases h2
    rcases hcase with hx|⟨l,hx⟩
    ·rw[hx];simp[D.appd,D.len,zDA]
    ·rw[hx];simp[D.appd,D.len,zDA]
   ·cases h
  ·rename_i i;rw[baZ] at h;obtain⟨rfl,h⟩:=h;split at h
   ·rename_i lv l G Z j hb;rw[baZ,beq_iff_eq] at h;obtain⟨rfl,hj⟩:=h;obtain⟨k,hk1,hk2,hk3,_⟩:=hK;have hi:(DE.v i).eval X J = .int k:=by simp only[DE.eval];exact hk1
    rw[hi,baseV_ok hb]
    have:=hk3 j (by simpa using hj)
    simp only[D.asInt,if_true];omega
   ·cases h
  ·cases h
 ·simp only[baZ,Bool.not_eq_true'] at h;obtain⟨⟨rfl,h1⟩,h2⟩:=h;have h3:=yZG (qXE h1 hF);have h4:=qXE h2 hF;have h5:decide ((e.eval X J).asInt<(0:Int))=false:=h4;simp only[decide_eq_false_iff_not] at h5;simp only[bfZ,if_false];omega
theorem keys_map(l:List (Int×D)):((D.list (l.map fun x=>.row [.int x.1,D.appd .nil x.2])).rows.map fun r=>(r.cells.getD 0 .nil).asInt)=l.map (·.1):=by
 show ((l.map fun x=>D.row [.int x.1,D.appd .nil x.2]).map fun r=>(r.cells.getD 0 .nil).asInt)=_;rw[List.map_map];rfl
theorem preOk_ok(hE:XOk X E)(hT:TOk X T)(h300:X 300=Go.Mx.X 300)(hδ:A.gs env J){k:Nat}{l:List DE}(h:preOk env E T F k l=true):zOB k (zDA X l J):=by
 unfold preOk at h;have hl:=xYE hE hT hδ l;split at h
 ·rename_i hk;unfold zOB;rw[if_pos hk];split at h
  ·rename_i x s y ha;rw[ha] at hl;obtain⟨d,r,hd,⟨ds,rfl,hds⟩,_⟩:=hl;obtain⟨a0,a1,a2,rfl,_,h1,⟨b,rfl⟩⟩:=gs3 hds;rw[hd];rcases A.le_ok h h1 with rfl|⟨s',rfl,h3⟩
   ·exact⟨a0,none,b,rfl,Nat.zero_le _⟩
   ·exact⟨a0,some s',b,rfl,h3⟩
  ·cases h
 ·split at h
  ·rename_i hk;subst hk;split at h
   ·rename_i n m ha;rw[ha] at hl;obtain⟨d,u,hd,h1,h2⟩:=gs2 hl;rw[hd];simp only[baZ,dtZ] at h;cases h2;show D.nil = .nil/\_/\_;refine⟨rfl,?_⟩;rcases h1 with rfl|⟨q,rfl,h3,_,_,h4⟩
    ·exact⟨by simp[mapL],by simp[mapL]⟩
    ·refine⟨by simp only[mapL];omega,fun x hx=>?_⟩;rcases h4 x hx with e|⟨s,e,hs⟩
     ·rw[e];simp[D.len]
     ·rw[e];simp only[D.len];omega
   ·rename_i ha;rw[ha] at hl;obtain⟨d,u,hd,h1,h2⟩:=gs2 hl;rw[hd];cases h1;cases h2
    show D.nil = .nil/\_/\_;exact⟨rfl,by simp[mapL],by simp[mapL]⟩
   ·cases h
  ·split at h
   ·rename_i hk;subst hk;split at h
    ·rename_i m;have hm:=xSB hE hT hδ m;have hev:zDA X [DE.f (.ext 300) [m,.k .nil]] J=[X 300 [m.eval X J,.nil]]:=by
      simp only[zDA,DE.eval];rw[zNA]
     rw[hev,h300];show ((Go.Mx.X 300 [m.eval X J,.nil]).rows.map fun r=>(r.cells.getD 0 .nil).asInt).Pairwise (· < ·)/\_;have key:∀q:List (Int×D),mapL (m.eval X J)=q->q.length<=100000->(q.map (·.1)).Pairwise (· < ·) ->
       ((Go.Mx.X 300 [m.eval X J,.nil]).rows.map fun r=>(r.cells.getD 0 .nil).asInt).Pairwise (· < ·)/\(Go.Mx.X 300 [m.eval X J,.nil]).rows.length<=100000:=by
      intro q hq hn hs;have hX:Go.Mx.X 300 [m.eval X J,.nil]=if (mapL (m.eval X J)).isEmpty then .nil else D.appd .nil (.list ((mapL (m.eval X J)).map fun x=>.row [.int x.1,D.appd .nil x.2])):=rfl
      rw[hX,hq];cases q with
      | nil=>exact⟨by simp[D.rows],by simp[D.rows]⟩
      | cons a r =>
       have:D.appd .nil (.list ((a::r).map fun x=>.row [.int x.1,D.appd .nil x.2])) = .list ((a::r).map fun x=>.row [.int x.1,D.appd .nil x.2]):=rfl
       simp only[List.isEmpty_cons,bfZ,if_false];rw[this,keys_map];exact⟨hs,by simpa[D.rows] using hn⟩
     split at h
     ·rename_i n mm ha;rw[ha] at hm;rw[dtZ] at h;rcases hm with hm|⟨q,hm,h3,h4,_,_⟩
      ·exact key [] (by rw[hm];rfl) (by simp) (by simp)
      ·exact key q (by rw[hm];rfl) (by omega) h4
     ·rename_i ha;rw[ha] at hm;exact key [] (by rw[hm];rfl) (by simp) (by simp)
     ·cases h
    ·cases h
   ·cases h
theorem yEI{X:Nat->List D->D}{J:List D}{l:DE}{z:List D}{i:Nat}(hi:i<(l.eval X J).asInt.toNat):((DE.f .repl [l,.k (.row z)]).eval X J).rows.getD i .nil = .row z:=by
 show (List.replicate (l.eval X J).asInt.toNat (D.row z)).getD i .nil=_;rw[List.getD_eq_getElem?_getD,List.getElem?_replicate,if_pos hi];rfl
theorem zTL{X:Nat->List D->D}{J:List D}{l:DE}{z:List D}{i:Nat}(hi:i<(l.eval X J).asInt.toNat):((DE.f .app [.k .nil,.f .repl [l,.k (.row z)]]).eval X J).rows.getD i .nil = .row z:=by
 have:=yEI (X:=X) (z:=z) hi
 show (D.appd .nil ((DE.f .repl [l,.k (.row z)]).eval X J)).rows.getD i .nil=_;have e:(DE.f .repl [l,.k (.row z)]).eval X J = .list (List.replicate (l.eval X J).asInt.toNat (D.row z)):=rfl;rw[e] at this ⊢;cases hn:(l.eval X J).asInt.toNat with
 | zero=>omega
 | succ n=>rw[hn] at this;rw[List.replicate_succ] at this ⊢;exact this
theorem zOf_ok{X:Nat->List D->D}{J:List D}{l e:DE}{z:List D}(hl:0<(l.eval X J).asInt)(h:zOf l e=some z){i:Nat}(hi:i<(l.eval X J).asInt.toNat):(e.eval X J).rows.getD i .nil = .row z:=by
 unfold zOf at h;split at h
 ·split at h
  ·rename_i hb;cases h;rw[DE.beq_eq hb];exact yEI hi
  ·cases h
 ·split at h
  ·rename_i hb;cases h;rw[DE.beq_eq hb];exact zTL hi
  ·cases h
 ·rename_i l' x y;split at h
  ·rename_i hb;have e1:=DE.beq_eq hb;subst e1;have hc:((DE.f .ltI [.k (.int 0),l']).eval X J).asBool=true:=by
    show decide ((0:Int)<_)=true;simpa using hl
   show (if ((DE.f .ltI [.k (.int 0),l']).eval X J).asBool then x.eval X J else y.eval X J).rows.getD i .nil=_;rw[hc];simp only[if_true];split at h
   ·split at h
    ·rename_i hb;cases h;rw[DE.beq_eq hb];exact yEI hi
    ·cases h
   ·split at h
    ·rename_i hb;cases h;rw[DE.beq_eq hb];exact zTL hi
    ·cases h
   ·cases h
  ·cases h
 ·cases h
theorem yZJ{a x:D}{n i:Nat}(h:i≠n):(a.setAtD n x).rows.getD i .nil=a.rows.getD i .nil:=by
 cases a with
 | bytes s =>
  simp only[D.setAtD,D.rows,List.getD_eq_getElem?_getD,List.getElem?_map,List.getElem?_set,if_neg (Ne.symm h)]
 | list l=>simp only[D.setAtD,D.rows,List.getD_eq_getElem?_getD,List.getElem?_set,if_neg (Ne.symm h)]
 | _=>rfl
theorem xNG{off:Nat}{a x:D}{n i:Nat}(h:i≠n):(a.setCellsD off n x).rows.getD i .nil=a.rows.getD i .nil:=by
 cases a with
 | list l=>simp only[D.setCellsD,D.rows,List.getD_eq_getElem?_getD,List.getElem?_set,if_neg (Ne.symm h)]
 | _=>rfl
theorem xZJ{X:Nat->List D->D}{J:List D}{lv n j:Nat}(hn:J.getD lv .nil = .int n):∀ {e:DE},xVD lv j e=true -> ∀ {i:Nat},i≠n->(e.eval X J).rows.getD i .nil=(J.getD j .nil).rows.getD i .nil:=by
 intro e;have hnv:((DE.v lv).eval X J).asInt.toNat=n:=by simp only[DE.eval];rw[hn];rfl
 fun_induction xVD lv j e with
 | case1 i=>intro h i hi;simp only[beq_iff_eq] at h;subst h;simp only[DE.eval]
 | case2 x m v ih =>
  intro h i hi;simp only[baZ,beq_iff_eq] at h;obtain⟨rfl,h⟩:=h;show ((x.eval X J).setAtD ((DE.v m).eval X J).asInt.toNat _).rows.getD i .nil=_;rw[hnv,yZJ hi];exact ih h hi
 | case3 o x m v ih =>
  intro h i hi;simp only[baZ,beq_iff_eq] at h;obtain⟨rfl,h⟩:=h;show ((x.eval X J).setCellsD o ((DE.v m).eval X J).asInt.toNat _).rows.getD i .nil=_;rw[hnv,xNG hi];exact ih h hi
 | case4 c x y ihx ihy =>
  intro h i hi;simp only[baZ] at h;show (if (c.eval X J).asBool then x.eval X J else y.eval X J).rows.getD i .nil=_;split
  ·exact ihx h.1 hi
  ·exact ihy h.2 hi
 | case5=>intro h;cases h
theorem zSL{lv:Nat}{l:DE}:∀ {is bs:List DE} {i:Nat} {p:Nat×List D},p∈zIx lv l i is bs -> ∃q e b,p.1=i+q/\is[q]? = some e/\bs[q]? = some b/\zOf l e=some p.2/\xVD lv p.1 b=true
 | e::is,b::bs,i,p,h=>by
  have next:p∈zIx lv l (i+1) is bs -> ∃q e' b',p.1=i+q/\(e::is)[q]? = some e'/\(b::bs)[q]? = some b'/\zOf l e'=some p.2/\xVD lv p.1 b'=true:=fun h=>by
   obtain⟨q,e',b',h0,h1,h2,h3,h4⟩:=zSL h;exact⟨q+1,e',b',by omega,by simpa using h1,by simpa using h2,h3,h4⟩
  simp only[zIx] at h;split at h
  ·rename_i z hz;split at h
   ·rename_i ha;rcases List.mem_cons.1 h with rfl|h
    ·exact⟨0,e,b,rfl,rfl,rfl,hz,ha⟩
    ·exact next h
   ·exact next h
  ·exact next h
 | [],_,_,_,h=>by simp[zIx] at h
 | _::_,[],_,_,h=>by simp[zIx] at h
theorem zRL{X:Nat->List D->D}{J:List D}{env:List A}{E:Nat->List A->A}{T:TT}(hE:XOk X E)(hT:TOk X T)(hδ:A.gs env J){lv L c n j:Nat}{z:List D}(hn:J.getD lv .nil = .int n)(hL:z.length=L)(hz:(J.getD j .nil).rows.getD n .nil = .row z) :
  ∀ {x:DE},zCJ env E T lv L c x=some j -> ∃cs:List D,(x.eval X J).rows.getD n .nil = .row cs/\cs.length=L/\cs.getD c .nil=z.getD c .nil:=by
 intro x;have hnv:((DE.v lv).eval X J).asInt.toNat=n:=by simp only[DE.eval];rw[hn];rfl
 fun_induction zCJ env E T lv L c x with
 | case1 i=>intro h;cases h;simp only[DE.eval];exact⟨z,hz,hL,rfl⟩
 | case2 off x m v xs hxs hc ih =>
  intro h;simp only[baZ,Bool.or_eq_true,beq_iff_eq,dtZ] at hc;obtain⟨⟨rfl,hoff⟩,hcc⟩:=hc;obtain⟨cs,h1,h2,h3⟩:=ih h;have hlen:=ySE (qJE hxs (xSB hE hT hδ v));show ∃cs,((x.eval X J).setCellsD off ((DE.v m).eval X J).asInt.toNat (v.eval X J)).rows.getD n .nil = .row cs/\_;rw[hnv];generalize hv:(v.eval X J).cells=ys at hlen;cases hx:x.eval X J with
  | list l =>
   rw[hx] at h1;have h1:l.getD n .nil = .row cs:=h1;have hlt:n<l.length:=by
    by_cases hh:n<l.length
    ·exact hh
    ·rw[List.getD_eq_getElem?_getD,List.getElem?_eq_none (by omega)] at h1;cases h1
   refine⟨cs.take off++ys++cs.drop (off+ys.length),?_,?_,?_⟩
   ·show (l.set n ((l.getD n .nil).putCells off (v.eval X J).cells)).getD n .nil=_;rw[List.getD_eq_getElem?_getD,List.getElem?_set,if_pos rfl,if_pos hlt,h1,hv];rfl
   ·simp only[List.length_append,List.length_take,List.length_drop];omega
   ·rw[<- h3];simp only[List.getD_eq_getElem?_getD];rcases hcc with hcc|hcc
    ·rw[List.append_assoc,List.getElem?_append_left (by rw[List.length_take];omega),List.getElem?_take,if_pos hcc]
    ·rw[List.getElem?_append_right (by simp only[List.length_append,List.length_take];omega),List.getElem?_drop]
     congr 2
     simp only[List.length_append,List.length_take];omega
  | _=>rw[hx] at h1;exact⟨cs,h1,h2,h3⟩
 | case3=>intro h;cases h
 | case4=>intro h;cases h
 | case5=>intro h;cases h
theorem qFH{X:Nat->List D->D}{J:List D}{env:List A}{E:Nat->List A->A}{T:TT}{K:KT}(hE:XOk X E)(hT:TOk X T)(hδ:A.gs env J)(hK:KtOk X J K){d:DE}(h:yPG env E T K d=true):(d.eval X J).isNil=true:=by
 unfold yPG at h;split at h
 ·rename_i c x n;split at h
  ·rename_i lv l G Z;rw[baZ,beq_iff_eq] at h;obtain⟨rfl,h⟩:=h;obtain⟨p,hp,h⟩:=List.any_eq_true.1 h;rw[baZ,beq_iff_eq] at h;obtain⟨h1,h2⟩:=h;obtain⟨k,hk1,_,_,hk4⟩:=hK;obtain⟨cs,e1,e2,e3⟩:=zRL hE hT hδ hk1 rfl (hk4 p hp) h2;have hz:p.2.getD c .nil = .nil:=by
    split at h1
    ·rename_i hh;rw[List.getD_eq_getElem?_getD] at hh ⊢;cases hg:p.2[c]? with
     | none=>rfl
     | some v=>rw[hg] at hh;simpa using hh
    ·cases h1
   have hnv:((DE.v n).eval X J).asInt.toNat=k:=by simp only[DE.eval];rw[hk1];rfl
   show (((x.eval X J).rows.getD ((DE.v n).eval X J).asInt.toNat .nil).cells.getD c .nil).isNil=true;rw[hnv,e1];show (cs.getD c .nil).isNil=true;rw[e3,hz];rfl
  ·cases h
 ·cases h
theorem qNF{l:DE}:∀ {is bs:List DE} {i j:Nat},j∈yQE l i is bs -> ∃q e b,j=i+q/\is[q]? = some e/\bs[q]? = some b/\zOK l e=true/\yYG j b=true
 | e::is,b::bs,i,j,h=>by
  have next:j∈yQE l (i+1) is bs -> ∃q e' b',j=i+q/\(e::is)[q]? = some e'/\(b::bs)[q]? = some b'/\zOK l e'=true/\yYG j b'=true:=fun h=>by
   obtain⟨q,e',b',rfl,h1,h2,h3,h4⟩:=qNF h;exact⟨q+1,e',b',by omega,by simpa using h1,by simpa using h2,h3,h4⟩
  simp only[yQE] at h;split at h
  ·rename_i hh;rw[baZ] at hh;rcases List.mem_cons.1 h with rfl|h
   ·exact⟨0,e,b,rfl,rfl,rfl,hh.1,hh.2⟩
   ·exact next h
  ·exact next h
 | [],_,_,_,h=>by simp[yQE] at h
 | _::_,[],_,_,h=>by simp[yQE] at h
theorem xUK{m:Nm}(hlv:J.length=m.lv){k:Nat}(hk:k<(m.src.eval X J).rows.length)(row:D) :
  KtOk X (J++(.int k::row::accK X m J k)) (zVH m.lv m.src m.is m.bs).1/\FOk X (J++(.int k::row::accK X m J k)) (zVH m.lv m.src m.is m.bs).2:=by
 unfold zVH;split
 ·rename_i l hs;split
  ·rename_i hsh;have htk:J.take m.lv=J:=by rw[<- hlv];exact List.take_length
   have hle:∀(k:Nat) (y:D),l.eval X (J++(.int k::y::accK X m J k))=l.eval X J:=fun k y=>by
    refine xCA (n:=m.lv) ?_ hsh;rw[List.take_append_of_le_length (by omega)]
   have hrows:(m.src.eval X J).rows.length=(l.eval X J).asInt.toNat:=by
    rw[hs];show ((List.range (l.eval X J).asInt.toNat).map _).length=_;rw[List.length_map,List.length_range]
   have hpos:0<(l.eval X J).asInt:=by omega
   have hget:∀(k:Nat) (y:D) (q:Nat),(J++(D.int k::y::accK X m J k)).getD (m.lv+2+q) .nil=(accK X m J k).getD q .nil:=fun k y q=>by
    rw[List.getD_eq_getElem?_getD,List.getElem?_append_right (by omega),hlv,show m.lv+2+q-m.lv=q+2 by omega];simp[List.getD_eq_getElem?_getD]
   refine⟨⟨k,?_,by rw[hle];omega,fun j hj=>?_,fun p hp=>?_⟩,?_⟩
   ·rw[List.getD_eq_getElem?_getD,List.getElem?_append_right (by omega),hlv,Nat.sub_self];rfl
   ·obtain⟨q,e,b,rfl,h1,h2,h3,h4⟩:=qNF hj;rw[hle,hget];have main:∀k,k<=(m.src.eval X J).rows.length->(l.eval X J).asInt.toNat<=((accK X m J k).getD q .nil).len:=by
     intro k
     induction k with
     | zero =>
      intro _
      have:accK X m J 0=zDA X m.is J:=by simp[accK,zQA]
      rw[this,List.getD_eq_getElem?_getD,yFB h1];exact fromL_ok hpos h3
     | succ k ih =>
      intro hk';rw[xZE (by omega),htk,List.getD_eq_getElem?_getD,yFB h2];have h5:=ih (by omega);have h6:=keeps_ok (X:=X) (J:=J++(.int k::(m.src.eval X J).rows.getD k .nil::accK X m J k)) h4;rw[hget] at h6;exact Nat.le_trans h5 h6
    exact main k (by omega)
   ·obtain⟨q,e,b,hq,h1,h2,h3,h4⟩:=zSL hp;rw[hq,hget];have main:∀k,k<=(m.src.eval X J).rows.length -> ∀i,k<=i->i<(l.eval X J).asInt.toNat->((accK X m J k).getD q .nil).rows.getD i .nil = .row p.2:=by
     intro k
     induction k with
     | zero =>
      intro _ i _ hi
      have:accK X m J 0=zDA X m.is J:=by simp[accK,zQA]
      have e1:(zDA X m.is J).getD q .nil=e.eval X J:=by rw[List.getD_eq_getElem?_getD,yFB h1];rfl
      rw[this,e1];exact zOf_ok hpos h3 hi
     | succ k ih =>
      intro hk' i hki hi;rw[xZE (by omega),htk];have e1:(zDA X m.bs (J++(.int k::(m.src.eval X J).rows.getD k .nil::accK X m J k))).getD q .nil=b.eval X (J++(.int k::(m.src.eval X J).rows.getD k .nil::accK X m J k)):=by rw[List.getD_eq_getElem?_getD,yFB h2];rfl
      rw[e1];have h5:=ih (by omega) i (by omega) hi;have h6:=xZJ (X:=X) (J:=J++(.int k::(m.src.eval X J).rows.getD k .nil::accK X m J k)) (lv:=m.lv) (n:=k) (by
       rw[List.getD_eq_getElem?_getD,List.getElem?_append_right (by omega),hlv,Nat.sub_self];rfl) h4 (i:=i) (by omega)
      rw[hq,hget] at h6;exact h6.trans h5
    exact main k (by omega) k (Nat.le_refl _) (by omega)
   ·intro p hp;simp only[List.mem_singleton] at hp;subst hp
    show decide ((0:Int)<(l.eval X (J++(.int k::row::accK X m J k))).asInt)=true
    have:=hle k row
    rw[this];simpa using hpos
  ·exact⟨trivial,fun p hp=>by cases hp⟩
 ·exact⟨trivial,fun p hp=>by cases hp⟩
end
structure XOb (S:Sx) (X:Nat->List D->D):Prop where
 e:XOk X S.E
 tab:∀m∈S.tab,∀args,X m.n args = .row (zZD X m args)
 cs:qEG S.E S.tab S.cs=true
 h399:(X 399 [.int S.ge]).asInt≠0
 h300:X 300=Go.Mx.X 300
theorem qHF{X:Nat->List D->D}{J:List D}:∀ {n:Nat},n<=J.length->zDA X (yJG n) J=J.take n
 | 0,_=>by simp[yJG,zDA]
 | n+1,h=>by
  have e1:zDA X (yJG n++[.v n]) J=zDA X (yJG n) J++[J.getD n .nil]:=by
   rw[qWA];simp[zDA,DE.eval]
  show zDA X (yJG n++[.v n]) J=_;rw[e1,qHF (by omega),List.take_add_one,List.getD_eq_getElem?_getD,List.getElem?_eq_getElem (by omega)];rfl
theorem qOJ{E:Nat->List A->A}{tab:List Nm}{n:Nat}{m:Nm}{c:Cert}(hm:qCH n tab=some m):∀ {cs:List (Nat×Cert)},lk n cs=some c->qEG E tab cs=true -> ∃r,qEG E tab r=true/\chkN E (ttOf r) m c=true
 | (k,c')::r,h,hcs=>by
  simp only[qEG,baZ] at hcs;by_cases hk:k=n
  ·subst hk;rw[zIA] at h;cases h;have h2:=hcs.2;rw[hm] at h2;exact⟨r,hcs.1,h2⟩
  ·rw[zHA hk] at h;exact qOJ hm h hcs.1
section
variable {X:Nat->List D->D} {S:Sx}
mutual
theorem okOb_ok(hS:XOb S X):∀(o:Ob) {env:List A} {F:List (DE×Bool)} {K:KT} {last:Option Nat} {J:List D},A.gs env J->FOk X J F->KtOk X J K->okOb S (ttOf S.cs) env F K last o=true->o.holds X zOB J
 | .room d n,env,F,K,last,J,hδ,hF,hK,h=>by
  have hT:=(zXB hS.e hS.tab hS.cs).1;simp only[okOb] at h;split at h
  ·rename_i m hm;simp only[baZ,dtZ] at h
   have:=zHF hm (xSB hS.e hT hδ d)
   exact⟨Nat.le_trans (Nat.mul_le_mul_right _ this) h.1,by omega⟩
  ·cases h
 | .cap d n,env,F,K,last,J,hδ,hF,hK,h=>by
  have hT:=(zXB hS.e hS.tab hS.cs).1;simp only[okOb] at h;have hd:=xSB hS.e hT hδ d;split at h
  ·rename_i lo hi ha;rw[ha] at hd;obtain⟨v,hv,h1,h2⟩:=hd;simp only[baZ,Bool.or_eq_true,dtZ] at h;obtain⟨⟨h0,h3⟩,h4⟩:=h;simp only[Ob.holds];rw[hv];show 0<=v/\v.toNat*n<=LIM/\v.toNat<=maxLen;have hvh:v.toNat<=hi.toNat:=by omega
   refine⟨?_,Nat.le_trans (Nat.mul_le_mul_right _ hvh) h3,by omega⟩;rcases h0 with h0|h0
   ·omega
   ·have h5:decide ((0:Int)<(d.eval X J).asInt)=true:=qXE h0 hF;rw[hv] at h5;have h6:(0:Int)<v:=of_decide_eq_true h5;omega
  ·cases h
 | .nz e,env,F,K,last,J,hδ,hF,hK,h=>by
  have hT:=(zXB hS.e hS.tab hS.cs).1;simp only[okOb] at h;exact nzOk_ok hS.e hT hS.h399 hδ hF h
 | .ge0 e,env,F,K,last,J,hδ,hF,hK,h=>by
  have hT:=(zXB hS.e hS.tab hS.cs).1;simp only[okOb] at h;have hd:=xSB hS.e hT hδ e;split at h
  ·rename_i lo hi ha;rw[ha] at hd;obtain⟨v,hv,h1,h2⟩:=hd;rw[dtZ] at h;simp only[Ob.holds];rw[hv];show 0<=v;omega
  ·cases h
 | .idx e d b,env,F,K,last,J,hδ,hF,hK,h=>by
  have hT:=(zXB hS.e hS.tab hS.cs).1;simp only[okOb] at h;exact idxOk_ok hS.e hT hδ hF hK h
 | .pre k l,env,F,K,last,J,hδ,hF,hK,h=>by
  have hT:=(zXB hS.e hS.tab hS.cs).1;simp only[okOb] at h;exact preOk_ok hS.e hT hS.h300 hδ h
 | .term _ _ _ _,env,F,K,last,J,hδ,hF,hK,h=>by simp[okOb] at h
 | .defn n lv s i b,env,F,K,last,J,hδ,hF,hK,h=>by
  simp only[okOb] at h;split at h
  ·rename_i m hm;obtain⟨k1,k2⟩:=zME hm;simp only[baZ,beq_iff_eq] at h;obtain⟨⟨⟨⟨h1,h2⟩,h3⟩,h4⟩,h5⟩:=h;subst k2;have hlen:J.length=lv:=by rw[<- ySE hδ];exact h2
   have e:=hS.tab m k1 J;simp only[Ob.holds];rw[qHF (by omega),List.take_of_length_le (by omega),e];unfold zZD;rw[h1,DE.beq_eq h3,xBA h4,xBA h5,List.take_of_length_le (by omega)]
  ·cases h
 | .when c b os,env,F,K,last,J,hδ,hF,hK,h=>by
  have hT:=(zXB hS.e hS.tab hS.cs).1;simp only[okOb] at h;intro hc;rw[Bool.or_eq_true] at h;rcases h with h|h
  ·split at h
   ·rename_i d;have h1:=qFH hS.e hT hδ hK h;have h2:(!(d.eval X J).isNil)=true:=hc;rw[h1] at h2;cases h2
   ·cases h
  ·exact xQB hS os hδ (addF_ok c b F hc hF) hK h
 | .all s i b os,env,F,K,last,J,hδ,hF,hK,h=>by
  have hT:=zXB hS.e hS.tab hS.cs;simp only[okOb] at h;split at h
  ·split at h
   ·rename_i m c hm hc;simp only[baZ] at h;obtain⟨⟨⟨⟨h1,h2⟩,h3⟩,h4⟩,h5⟩:=h;have e1:=DE.beq_eq h1;have e2:=xBA h2;have e3:=xBA h3;subst e1;subst e2;subst e3
    have hdm:=A.les_ok h4 hδ;intro k hk;obtain⟨r,hr1,hr2⟩:=qOJ hm hc hS.cs;obtain⟨hlv,hR,hb⟩:=qPJ hS.e (zXB hS.e hS.tab hr1).1 hr2 hdm;have hg:=(hb k (Nat.le_of_lt hk)).2 hk;have htk:J.take m.lv=J:=List.take_of_length_le (by omega);have hro:=xUK (X:=X) hlv hk ((m.src.eval X J).rows.getD k .nil)
    have:=xQB hS os hg hro.2 hro.1 h5
    unfold accK at this;rw[htk] at this;exact this
   ·cases h
  ·cases h
theorem xQB(hS:XOb S X):∀(os:List Ob) {env:List A} {F:List (DE×Bool)} {K:KT} {last:Option Nat} {J:List D},A.gs env J->FOk X J F->KtOk X J K->zKH S (ttOf S.cs) env F K last os=true->zCA X zOB os J
 | [],_,_,_,_,_,_,_,_,_=>trivial
 | o::r,env,F,K,last,J,hδ,hF,hK,h=>by
  simp only[zKH,baZ] at h;exact⟨okOb_ok hS o hδ hF hK h.1,xQB hS r hδ hF hK h.2⟩
end
end
end Go.Mx
namespace Go.Mx
open Go Go.Dx
section
variable {ge:Int}
def r0:DE:=.f .mkrow [.k .nil,.f (.get 1) [.v 0],.f (.get 2) [.v 0]]
def deU361:DE:=(.f .ite [.f .ltI [.f .len [.f (.get 1) [.v 0]],.k (.int 1)],.f .mkrow [.k (.bool false),.k .nil,.k (.bool true)],.f .mkrow [.f .neI [.f (.get 0) [.f .at [.f (.get 1) [.v 0],.k (.int 0)]],.k (.int 0)],.f .drop [.f (.get 1) [.v 0],.k (.int 1)],.f (.get 2) [.v 0]]])
def obU361:List Ob:=[.when (.f .ltI [.f .len [.f (.get 1) [.v 0]],.k (.int 1)]) false [.idx (.k (.int 1)) (.f (.get 1) [.v 0]) false,.idx (.k (.int 0)) (.f (.get 1) [.v 0]) true]]
def deU362:DE:=(.f .ite [.f .ltI [.f .len [.f (.get 1) [.v 0]],.k (.int 1)],.f .mkrow [.k (.int 0),.k .nil,.k (.bool true)],.f .mkrow [.f (.wrap .i8) [.f (.get 0) [.f .at [.f (.get 1) [.v 0],.k (.int 0)]]],.f .drop [.f (.get 1) [.v 0],.k (.int 1)],.f (.get 2) [.v 0]]])
def obU362:List Ob:=[.when (.f .ltI [.f .len [.f (.get 1) [.v 0]],.k (.int 1)]) false [.idx (.k (.int 1)) (.f (.get 1) [.v 0]) false,.idx (.k (.int 0)) (.f (.get 1) [.v 0]) true]]
def deU363:DE:=(.f .ite [.f .ltI [.f .len [.f (.get 1) [.v 0]],.k (.int 2)],.f .mkrow [.k (.int 0),.k .nil,.k (.bool true)],.f .mkrow [.f (.wrap .i16) [.f (.bor .u16) [.f (.wrap .u16) [.f (.get 0) [.f .at [.f (.get 1) [.v 0],.k (.int 1)]]],.f (.shl .u16) [.f (.wrap .u16) [.f (.get 0) [.f .at [.f (.get 1) [.v 0],.k (.int 0)]]],.k (.int 8)]]],.f .drop [.f (.get 1) [.v 0],.k (.int 2)],.f (.get 2) [.v 0]]])
def obU363:List Ob:=[.when (.f .ltI [.f .len [.f (.get 1) [.v 0]],.k (.int 2)]) false [.idx (.k (.int 2)) (.f (.get 1) [.v 0]) false,.idx (.k (.int 0)) (.f (.get 1) [.v 0]) true,.idx (.k (.int 1)) (.f (.get 1) [.v 0]) true,.idx (.k (.int 1)) (.f (.get 1) [.v 0]) true]]
def yOI:DE:=(.f .ite [.f .ltI [.f .len [.f (.get 1) [.v 0]],.k (.int 4)],.f .mkrow [.k (.int 0),.k .nil,.k (.bool true)],.f .mkrow [.f (.wrap .i32) [.f (.ext 87) [.f .mkrow [],.f (.get 1) [.v 0]]],.f .drop [.f (.get 1) [.v 0],.k (.int 4)],.f (.get 2) [.v 0]]])
def obU365:List Ob:=[.when (.f .ltI [.f .len [.f (.get 1) [.v 0]],.k (.int 4)]) false [.idx (.k (.int 4)) (.f (.get 1) [.v 0]) false,.pre 87 [.f .mkrow [],.f (.get 1) [.v 0]]]]
def deU366:DE:=(.f .mkrow [.f (.wrap .i64) [.f (.get 0) [.f (.ext 369) [r0]]],.f (.get 1) [.f (.ext 369) [r0]],.f (.get 2) [.f (.ext 369) [r0]]])
def obU366:List Ob:=[.pre 369 [r0]]
def deU367:DE:=(.f .mkrow [.f .mkrow [.f .ite [.f .ltI [.k (.int 0),.f .len [.f (.get 0) [.f (.ext 371) [r0,.k (.int 16)]]]],.f (.get 0) [.f .at [.f (.get 0) [.f (.ext 371) [r0,.k (.int 16)]],.k (.int 0)]],.k (.int 0)],.f .ite [.f .ltI [.k (.int 1),.f .len [.f (.get 0) [.f (.ext 371) [r0,.k (.int 16)]]]],.f (.get 0) [.f .at [.f (.get 0) [.f (.ext 371) [r0,.k (.int 16)]],.k (.int 1)]],.k (.int 0)],.f .ite [.f .ltI [.k (.int 2),.f .len [.f (.get 0) [.f (.ext 371) [r0,.k (.int 16)]]]],.f (.get 0) [.f .at [.f (.get 0) [.f (.ext 371) [r0,.k (.int 16)]],.k (.int 2)]],.k (.int 0)],.f .ite [.f .ltI [.k (.int 3),.f .len [.f (.get 0) [.f (.ext 371) [r0,.k (.int 16)]]]],.f (.get 0) [.f .at [.f (.get 0) [.f (.ext 371) [r0,.k (.int 16)]],.k (.int 3)]],.k (.int 0)],.f .ite [.f .ltI [.k (.int 4),.f .len [.f (.get 0) [.f (.ext 371) [r0,.k (.int 16)]]]],.f (.get 0) [.f .at [.f (.get 0) [.f (.ext 371) [r0,.k (.int 16)]],.k (.int 4)]],.k (.int 0)],.f .ite [.f .ltI [.k (.int 5),.f .len [.f (.get 0) [.f (.ext 371) [r0,.k (.int 16)]]]],.f (.get 0) [.f .at [.f (.get 0) [.f (.ext 371) [r0,.k (.int 16)]],.k (.int 5)]],.k (.int 0)],.f .ite [.f .ltI [.k (.int 6),.f .len [.f (.get 0) [.f (.ext 371) [r0,.k (.int 16)]]]],.f (.get 0) [.f .at [.f (.get 0) [.f (.ext 371) [r0,.k (.int 16)]],.k (.int 6)]],.k (.int 0)],.f .ite [.f .ltI [.k (.int 7),.f .len [.f (.get 0) [.f (.ext 371) [r0,.k (.int 16)]]]],.f (.get 0) [.f .at [.f (.get 0) [.f (.ext 371) [r0,.k (.int 16)]],.k (.int 7)]],.k (.int 0)],.f .ite [.f .ltI [.k (.int 8),.f .len [.f (.get 0) [.f (.ext 371) [r0,.k (.int 16)]]]],.f (.get 0) [.f .at [.f (.get 0) [.f (.ext 371) [r0,.k (.int 16)]],.k (.int 8)]],.k (.int 0)],.f .ite [.f .ltI [.k (.int 9),.f .len [.f (.get 0) [.f (.ext 371) [r0,.k (.int 16)]]]],.f (.get 0) [.f .at [.f (.get 0) [.f (.ext 371) [r0,.k (.int 16)]],.k (.int 9)]],.k (.int 0)],.f .ite [.f .ltI [.k (.int 10),.f .len [.f (.get 0) [.f (.ext 371) [r0,.k (.int 16)]]]],.f (.get 0) [.f .at [.f (.get 0) [.f (.ext 371) [r0,.k (.int 16)]],.k (.int 10)]],.k (.int 0)],.f .ite [.f .ltI [.k (.int 11),.f .len [.f (.get 0) [.f (.ext 371) [r0,.k (.int 16)]]]],.f (.get 0) [.f .at [.f (.get 0) [.f (.ext 371) [r0,.k (.int 16)]],.k (.int 11)]],.k (.int 0)],.f .ite [.f .ltI [.k (.int 12),.f .len [.f (.get 0) [.f (.ext 371) [r0,.k (.int 16)]]]],.f (.get 0) [.f .at [.f (.get 0) [.f (.ext 371) [r0,.k (.int 16)]],.k (.int 12)]],.k (.int 0)],.f .ite [.f .ltI [.k (.int 13),.f .len [.f (.get 0) [.f (.ext 371) [r0,.k (.int 16)]]]],.f (.get 0) [.f .at [.f (.get 0) [.f (.ext 371) [r0,.k (.int 16)]],.k (.int 13)]],.k (.int 0)],.f .ite [.f .ltI [.k (.int 14),.f .len [.f (.get 0) [.f (.ext 371) [r0,.k (.int 16)]]]],.f (.get 0) [.f .at [.f (.get 0) [.f (.ext 371) [r0,.k (.int 16)]],.k (.int 14)]],.k (.int 0)],.f .ite [.f .ltI [.k (.int 15),.f .len [.f (.get 0) [.f (.ext 371) [r0,.k (.int 16)]]]],.f (.get 0) [.f .at [.f (.get 0) [.f (.ext 371) [r0,.k (.int 16)]],.k (.int 15)]],.k (.int 0)]],.f (.get 1) [.f (.ext 371) [r0,.k (.int 16)]],.f (.get 2) [.f (.ext 371) [r0,.k (.int 16)]]])
def obU367:List Ob:=[.pre 371 [r0,.k (.int 16)]]
def deU369:DE:=(.f .ite [.f .ltI [.f .len [.f (.get 1) [.v 0]],.k (.int 8)],.f .mkrow [.k (.int 0),.k .nil,.k (.bool true)],.f .mkrow [.f (.ext 86) [.f .mkrow [],.f (.get 1) [.v 0]],.f .drop [.f (.get 1) [.v 0],.k (.int 8)],.f (.get 2) [.v 0]]])
def obU369:List Ob:=[.when (.f .ltI [.f .len [.f (.get 1) [.v 0]],.k (.int 8)]) false [.idx (.k (.int 8)) (.f (.get 1) [.v 0]) false,.pre 86 [.f .mkrow [],.f (.get 1) [.v 0]]]]
def zPF:DE:=(.f .ite [.f .ltI [.f .len [.f (.get 1) [.v 0]],.k (.int 1)],.k (.int 0),.f .ite [.f .eqI [.f (.band .u8) [.f (.get 0) [.f .at [.f (.get 1) [.v 0],.k (.int 0)]],.k (.int 128)],.k (.int 0)],.k (.int 1),.f .ite [.f .ltI [.f .len [.f (.get 1) [.v 0]],.k (.int 2)],.k (.int 0),.f .ite [.f .eqI [.f (.band .u8) [.f (.get 0) [.f .at [.f (.get 1) [.v 0],.k (.int 1)]],.k (.int 128)],.k (.int 0)],.k (.int 2),.f .ite [.f .ltI [.f .len [.f (.get 1) [.v 0]],.k (.int 3)],.k (.int 0),.f .ite [.f .eqI [.f (.band .u8) [.f (.get 0) [.f .at [.f (.get 1) [.v 0],.k (.int 2)]],.k (.int 128)],.k (.int 0)],.k (.int 3),.f .ite [.f .ltI [.f .len [.f (.get 1) [.v 0]],.k (.int 4)],.k (.int 0),.f .ite [.f .eqI [.f (.band .u8) [.f (.get 0) [.f .at [.f (.get 1) [.v 0],.k (.int 3)]],.k (.int 128)],.k (.int 0)],.k (.int 4),.f .ite [.f .ltI [.f .len [.f (.get 1) [.v 0]],.k (.int 5)],.k (.int 0),.f .ite [.f .leI [.f (.get 0) [.f .at [.f (.get 1) [.v 0],.k (.int 4)]],.k (.int 15)],.k (.int 5),.k (.int (-5))]]]]]]]]]])
def zIL:DE:=(.f .ite [.f .ltI [.f .len [.f (.get 1) [.v 0]],.k (.int 1)],.k (.int 0),.f .ite [.f .eqI [.f (.band .u8) [.f (.get 0) [.f .at [.f (.get 1) [.v 0],.k (.int 0)]],.k (.int 128)],.k (.int 0)],.f (.wrap .u32) [.f (.band .u8) [.f (.get 0) [.f .at [.f (.get 1) [.v 0],.k (.int 0)]],.k (.int 127)]],.f .ite [.f .ltI [.f .len [.f (.get 1) [.v 0]],.k (.int 2)],.k (.int 0),.f .ite [.f .eqI [.f (.band .u8) [.f (.get 0) [.f .at [.f (.get 1) [.v 0],.k (.int 1)]],.k (.int 128)],.k (.int 0)],.f (.bor .u32) [.f (.wrap .u32) [.f (.band .u8) [.f (.get 0) [.f .at [.f (.get 1) [.v 0],.k (.int 0)]],.k (.int 127)]],.f (.shl .u32) [.f (.wrap .u32) [.f (.band .u8) [.f (.get 0) [.f .at [.f (.get 1) [.v 0],.k (.int 1)]],.k (.int 127)]],.k (.int 7)]],.f .ite [.f .ltI [.f .len [.f (.get 1) [.v 0]],.k (.int 3)],.k (.int 0),.f .ite [.f .eqI [.f (.band .u8) [.f (.get 0) [.f .at [.f (.get 1) [.v 0],.k (.int 2)]],.k (.int 128)],.k (.int 0)],.f (.bor .u32) [.f (.bor .u32) [.f (.wrap .u32) [.f (.band .u8) [.f (.get 0) [.f .at [.f (.get 1) [.v 0],.k (.int 0)]],.k (.int 127)]],.f (.shl .u32) [.f (.wrap .u32) [.f (.band .u8) [.f (.get 0) [.f .at [.f (.get 1) [.v 0],.k (.int 1)]],.k (.int 127)]],.k (.int 7)]],.f (.shl .u32) [.f (.wrap .u32) [.f (.band .u8) [.f (.get 0) [.f .at [.f (.get 1) [.v 0],.k (.int 2)]],.k (.int 127)]],.k (.int 14)]],.f .ite [.f .ltI [.f .len [.f (.get 1) [.v 0]],.k (.int 4)],.k (.int 0),.f .ite [.f .eqI [.f (.band .u8) [.f (.get 0) [.f .at [.f (.get 1) [.v 0],.k (.int 3)]],.k (.int 128)],.k (.int 0)],.f (.bor .u32) [.f (.bor .u32) [.f (.bor .u32) [.f (.wrap .u32) [.f (.band .u8) [.f (.get 0) [.f .at [.f (.get 1) [.v 0],.k (.int 0)]],.k (.int 127)]],.f (.shl .u32) [.f (.wrap .u32) [.f (.band .u8) [.f (.get 0) [.f .at [.f (.get 1) [.v 0],.k (.int 1)]],.k (.int 127)]],.k (.int 7)]],.f (.shl .u32) [.f (.wrap .u32) [.f (.band .u8) [.f (.get 0) [.f .at [.f (.get 1) [.v 0],.k (.int 2)]],.k (.int 127)]],.k (.int 14)]],.f (.shl .u32) [.f (.wrap .u32) [.f (.band .u8) [.f (.get 0) [.f .at [.f (.get 1) [.v 0],.k (.int 3)]],.k (.int 127)]],.k (.int 21)]],.f .ite [.f .ltI [.f .len [.f (.get 1) [.v 0]],.k (.int 5)],.k (.int 0),.f .ite [.f .leI [.f (.get 0) [.f .at [.f (.get 1) [.v 0],.k (.int 4)]],.k (.int 15)],.f (.bor .u32) [.f (.bor .u32) [.f (.bor .u32) [.f (.bor .u32) [.f (.wrap .u32) [.f (.band .u8) [.f (.get 0) [.f .at [.f (.get 1) [.v 0],.k (.int 0)]],.k (.int 127)]],.f (.shl .u32) [.f (.wrap .u32) [.f (.band .u8) [.f (.get 0) [.f .at [.f (.get 1) [.v 0],.k (.int 1)]],.k (.int 127)]],.k (.int 7)]],.f (.shl .u32) [.f (.wrap .u32) [.f (.band .u8) [.f (.get 0) [.f .at [.f (.get 1) [.v 0],.k (.int 2)]],.k (.int 127)]],.k (.int 14)]],.f (.shl .u32) [.f (.wrap .u32) [.f (.band .u8) [.f (.get 0) [.f .at [.f (.get 1) [.v 0],.k (.int 3)]],.k (.int 127)]],.k (.int 21)]],.f (.shl .u32) [.f (.wrap .u32) [.f (.get 0) [.f .at [.f (.get 1) [.v 0],.k (.int 4)]]],.k (.int 28)]],.k (.int 0)]]]]]]]]]])
def qFF:DE:=(.f .ite [.f .leI [zPF,.k (.int 0)],.f .mkrow [.k (.int 0),.k .nil,.k (.bool true)],.f .mkrow [zIL,.f .drop [.f (.get 1) [.v 0],zPF],.f (.get 2) [.v 0]]])
def obU370:List Ob:=[.when (.f .leI [zPF,.k (.int 0)]) false [.idx zPF (.f (.get 1) [.v 0]) false],.when (.f .ltI [.f .len [.f (.get 1) [.v 0]],.k (.int 1)]) false [.when (.f .eqI [.f (.band .u8) [.f (.get 0) [.f .at [.f (.get 1) [.v 0],.k (.int 0)]],.k (.int 128)],.k (.int 0)]) false [.when (.f .ltI [.f .len [.f (.get 1) [.v 0]],.k (.int 2)]) false [.when (.f .eqI [.f (.band .u8) [.f (.get 0) [.f .at [.f (.get 1) [.v 0],.k (.int 1)]],.k (.int 128)],.k (.int 0)]) false [.when (.f .ltI [.f .len [.f (.get 1) [.v 0]],.k (.int 3)]) false [.when (.f .eqI [.f (.band .u8) [.f (.get 0) [.f .at [.f (.get 1) [.v 0],.k (.int 2)]],.k (.int 128)],.k (.int 0)]) false [.when (.f .ltI [.f .len [.f (.get 1) [.v 0]],.k (.int 4)]) false [.when (.f .eqI [.f (.band .u8) [.f (.get 0) [.f .at [.f (.get 1) [.v 0],.k (.int 3)]],.k (.int 128)],.k (.int 0)]) false [.when (.f .ltI [.f .len [.f (.get 1) [.v 0]],.k (.int 5)]) false [.idx (.k (.int 4)) (.f (.get 1) [.v 0]) true,.idx (.k (.int 4)) (.f (.get 1) [.v 0]) true]],.idx (.k (.int 3)) (.f (.get 1) [.v 0]) true,.idx (.k (.int 3)) (.f (.get 1) [.v 0]) true]],.idx (.k (.int 2)) (.f (.get 1) [.v 0]) true,.idx (.k (.int 2)) (.f (.get 1) [.v 0]) true]],.idx (.k (.int 1)) (.f (.get 1) [.v 0]) true,.idx (.k (.int 1)) (.f (.get 1) [.v 0]) true]],.idx (.k (.int 0)) (.f (.get 1) [.v 0]) true,.idx (.k (.int 0)) (.f (.get 1) [.v 0]) true]]
def deU371:DE:=(.f .ite [.f .ite [.f .ltI [.f .len [.f (.get 1) [.v 0]],.v 1],.k (.bool true),.f .ltI [.v 1,.k (.int 0)]],.f .mkrow [.k .nil,.k .nil,.k (.bool true)],.f .mkrow [.f .take [.f (.get 1) [.v 0],.v 1],.f .drop [.f (.get 1) [.v 0],.v 1],.f (.get 2) [.v 0]]])
def obU371:List Ob:=[.when (.f .ite [.f .ltI [.f .len [.f (.get 1) [.v 0]],.v 1],.k (.bool true),.f .ltI [.v 1,.k (.int 0)]]) false [.idx (.v 1) (.f (.get 1) [.v 0]) false,.idx (.v 1) (.f (.get 1) [.v 0]) false]]
def deU372:DE:=(.f .mkrow [.f .toStr [.f (.get 0) [.f (.ext 371) [.f (.ext 363) [r0],.f (.wrap .i64) [.f (.get 0) [.f (.ext 363) [r0]]]]]],.f (.get 1) [.f (.ext 371) [.f (.ext 363) [r0],.f (.wrap .i64) [.f (.get 0) [.f (.ext 363) [r0]]]]],.f (.get 2) [.f (.ext 371) [.f (.ext 363) [r0],.f (.wrap .i64) [.f (.get 0) [.f (.ext 363) [r0]]]]]])
def obU372:List Ob:=[.pre 371 [.f (.ext 363) [r0],.f (.wrap .i64) [.f (.get 0) [.f (.ext 363) [r0]]]],.pre 363 [r0]]
def deU373:DE:=(.f .mkrow [.f .toStr [.f (.get 0) [.f (.ext 371) [.f (.ext 370) [r0],.f (.sub .i64) [.f (.wrap .i64) [.f (.get 0) [.f (.ext 370) [r0]]],.k (.int 1)]]]],.f (.get 1) [.f (.ext 371) [.f (.ext 370) [r0],.f (.sub .i64) [.f (.wrap .i64) [.f (.get 0) [.f (.ext 370) [r0]]],.k (.int 1)]]],.f (.get 2) [.f (.ext 371) [.f (.ext 370) [r0],.f (.sub .i64) [.f (.wrap .i64) [.f (.get 0) [.f (.ext 370) [r0]]],.k (.int 1)]]]])
def obU373:List Ob:=[.pre 371 [.f (.ext 370) [r0],.f (.sub .i64) [.f (.wrap .i64) [.f (.get 0) [.f (.ext 370) [r0]]],.k (.int 1)]],.pre 370 [r0]]
def qVJ:DE:=(.f .ite [.f .ltI [.f (.get 0) [.f (.ext 363) [r0]],.k (.int 0)],.f .mkrow [.k .nil,.f (.get 1) [.f (.ext 363) [r0]],.f (.get 2) [.f (.ext 363) [r0]]],.f .mkrow [.f .mkptr [.f .toStr [.f (.get 0) [.f (.ext 371) [.f (.ext 363) [r0],.f (.wrap .i64) [.f (.get 0) [.f (.ext 363) [r0]]]]]]],.f (.get 1) [.f (.ext 371) [.f (.ext 363) [r0],.f (.wrap .i64) [.f (.get 0) [.f (.ext 363) [r0]]]]],.f (.get 2) [.f (.ext 371) [.f (.ext 363) [r0],.f (.wrap .i64) [.f (.get 0) [.f (.ext 363) [r0]]]]]]])
def obU374:List Ob:=[.when (.f .ltI [.f (.get 0) [.f (.ext 363) [r0]],.k (.int 0)]) false [.pre 371 [.f (.ext 363) [r0],.f (.wrap .i64) [.f (.get 0) [.f (.ext 363) [r0]]]]],.pre 363 [r0]]
def qWJ:DE:=(.f .ite [.f .ltI [.f (.sub .i64) [.f (.wrap .i64) [.f (.get 0) [.f (.ext 370) [r0]]],.k (.int 1)],.k (.int 0)],.f .mkrow [.k .nil,.f (.get 1) [.f (.ext 370) [r0]],.f (.get 2) [.f (.ext 370) [r0]]],.f .mkrow [.f .mkptr [.f .toStr [.f (.get 0) [.f (.ext 371) [.f (.ext 370) [r0],.f (.sub .i64) [.f (.wrap .i64) [.f (.get 0) [.f (.ext 370) [r0]]],.k (.int 1)]]]]],.f (.get 1) [.f (.ext 371) [.f (.ext 370) [r0],.f (.sub .i64) [.f (.wrap .i64) [.f (.get 0) [.f (.ext 370) [r0]]],.k (.int 1)]]],.f (.get 2) [.f (.ext 371) [.f (.ext 370) [r0],.f (.sub .i64) [.f (.wrap .i64) [.f (.get 0) [.f (.ext 370) [r0]]],.k (.int 1)]]]]])
def obU375:List Ob:=[.when (.f .ltI [.f (.sub .i64) [.f (.wrap .i64) [.f (.get 0) [.f (.ext 370) [r0]]],.k (.int 1)],.k (.int 0)]) false [.pre 371 [.f (.ext 370) [r0],.f (.sub .i64) [.f (.wrap .i64) [.f (.get 0) [.f (.ext 370) [r0]]],.k (.int 1)]]],.pre 370 [r0]]
def qXJ:DE:=(.f .ite [.f .eqI [.f (.get 0) [.f (.ext 365) [r0]],.k (.int (-1))],.f .mkrow [.f .mkbytes [],.f (.get 1) [.f (.ext 365) [r0]],.f (.get 2) [.f (.ext 365) [r0]]],.f .mkrow [.f (.get 0) [.f (.ext 371) [.f (.ext 365) [r0],.f (.wrap .i64) [.f (.get 0) [.f (.ext 365) [r0]]]]],.f (.get 1) [.f (.ext 371) [.f (.ext 365) [r0],.f (.wrap .i64) [.f (.get 0) [.f (.ext 365) [r0]]]]],.f (.get 2) [.f (.ext 371) [.f (.ext 365) [r0],.f (.wrap .i64) [.f (.get 0) [.f (.ext 365) [r0]]]]]]])
def obU376:List Ob:=[.when (.f .eqI [.f (.get 0) [.f (.ext 365) [r0]],.k (.int (-1))]) false [.pre 371 [.f (.ext 365) [r0],.f (.wrap .i64) [.f (.get 0) [.f (.ext 365) [r0]]]]],.pre 365 [r0]]
def qYJ:DE:=(.f .ite [.f .eqI [.f (.sub .i64) [.f (.wrap .i64) [.f (.get 0) [.f (.ext 370) [r0]]],.k (.int 1)],.k (.int (-1))],.f .mkrow [.f .mkbytes [],.f (.get 1) [.f (.ext 370) [r0]],.f (.get 2) [.f (.ext 370) [r0]]],.f .mkrow [.f (.get 0) [.f (.ext 371) [.f (.ext 370) [r0],.f (.sub .i64) [.f (.wrap .i64) [.f (.get 0) [.f (.ext 370) [r0]]],.k (.int 1)]]],.f (.get 1) [.f (.ext 371) [.f (.ext 370) [r0],.f (.sub .i64) [.f (.wrap .i64) [.f (.get 0) [.f (.ext 370) [r0]]],.k (.int 1)]]],.f (.get 2) [.f (.ext 371) [.f (.ext 370) [r0],.f (.sub .i64) [.f (.wrap .i64) [.f (.get 0) [.f (.ext 370) [r0]]],.k (.int 1)]]]]])
def obU377:List Ob:=[.when (.f .eqI [.f (.sub .i64) [.f (.wrap .i64) [.f (.get 0) [.f (.ext 370) [r0]]],.k (.int 1)],.k (.int (-1))]) false [.pre 371 [.f (.ext 370) [r0],.f (.sub .i64) [.f (.wrap .i64) [.f (.get 0) [.f (.ext 370) [r0]]],.k (.int 1)]]],.pre 370 [r0]]
def deU380:DE:=(.f .ite [.f .ltI [.f .len [.f (.get 1) [.f (.ext 365) [r0]]],.f (.wrap .i64) [.f (.get 0) [.f (.ext 365) [r0]]]],.f .mkrow [.k (.int 0),.k .nil,.k (.bool true)],.f .mkrow [.f (.get 0) [.f (.ext 365) [r0]],.f (.get 1) [.f (.ext 365) [r0]],.f (.get 2) [.f (.ext 365) [r0]]]])
def obU380:List Ob:=[.pre 365 [r0]]
def deU381:DE:=(.f .ite [.f .ltI [.f .len [.f (.get 1) [.f (.ext 370) [r0]]],.f (.wrap .i64) [.f (.sub .i32) [.f (.wrap .i32) [.f (.get 0) [.f (.ext 370) [r0]]],.k (.int 1)]]],.f .mkrow [.k (.int 0),.k .nil,.k (.bool true)],.f .mkrow [.f (.sub .i32) [.f (.wrap .i32) [.f (.get 0) [.f (.ext 370) [r0]]],.k (.int 1)],.f (.get 1) [.f (.ext 370) [r0]],.f (.get 2) [.f (.ext 370) [r0]]]])
def obU381:List Ob:=[.pre 370 [r0]]
def ySG:DE:=(.f .ltI [.k (.int 0),.v 3])
def k382:DE:=(.f (.ext 370) [.f .mkrow [.k .nil,.v 4,.v 5]])
def z382:DE:=(.f (.ext 370) [k382])
def v382:DE:=(.f (.ext 371) [z382,.f (.wrap .i64) [.f (.get 0) [z382]]])
def zQE:List DE:=[.f (.get 0) [.f (.ext 370) [r0]],.f (.get 1) [.f (.ext 370) [r0]],.f (.get 2) [.f (.ext 370) [r0]],.k .nil]
def xWD:List DE:=[.f (.sub .u32) [.v 3,.k (.int 1)],.f (.get 1) [v382],.f (.get 2) [v382],.f (.ext 23) [.v 6,.f (.get 0) [k382],.f (.get 0) [v382]]]
def qZJ:DE:=(.f .mkrow [.f .mkrow [.fold 1 (.f .iota [.wh 1 ySG zQE xWD]) zQE xWD 3],.fold 1 (.f .iota [.wh 1 ySG zQE xWD]) zQE xWD 1,.fold 1 (.f .iota [.wh 1 ySG zQE xWD]) zQE xWD 2])
def obU382:List Ob:=[(.term 1 ySG zQE xWD),.all (.f .iotaS [.wh 1 ySG zQE xWD]) zQE xWD [.when ySG true [.pre 23 [.v 6,.f (.get 0) [k382],.f (.get 0) [v382]],.pre 371 [z382,.f (.wrap .i64) [.f (.get 0) [z382]]],.pre 370 [k382],.pre 370 [.f .mkrow [.k .nil,.v 4,.v 5]]]],.pre 370 [r0]]
def deU:Nat->DE
 | 361=>deU361
 | 362=>deU362
 | 363=>deU363
 | 365=>yOI
 | 366=>deU366
 | 367=>deU367
 | 369=>deU369
 | 370=>qFF
 | 371=>deU371
 | 372=>deU372
 | 373=>deU373
 | 374=>qVJ
 | 375=>qWJ
 | 376=>qXJ
 | 377=>qYJ
 | 380=>deU380
 | 381=>deU381
 | 382=>qZJ
 | _=>.k .nil
def obU:Nat->List Ob
 | 361=>obU361
 | 362=>obU362
 | 363=>obU363
 | 365=>obU365
 | 366=>obU366
 | 367=>obU367
 | 369=>obU369
 | 370=>obU370
 | 371=>obU371
 | 372=>obU372
 | 373=>obU373
 | 374=>obU374
 | 375=>obU375
 | 376=>obU376
 | 377=>obU377
 | 380=>obU380
 | 381=>obU381
 | 382=>obU382
 | _=>[]
def lvl1:List Nat:=[361,362,363,365,369,370,371]
def lvl2:List Nat:=[366,367,372,373,374,375,376,377,380,381]
def lvls:List Nat:=[361,362,363,365,369,370,371,366,367,372,373,374,375,376,377,380,381,382]
noncomputable def Xb(ge:Int):Nat->List D->D:=fun k args=>if k=399 then (match args with|[.int n]=>if n=ge then .int 1 else .int 0|_=>.int 0) else X k args
noncomputable def XL1(ge:Int):Nat->List D->D:=fun k args=>if lvl1.elem k then (deU k).eval (Xb ge) args else (Xb ge) k args
noncomputable def XL2(ge:Int):Nat->List D->D:=fun k args=>if lvl2.elem k then (deU k).eval (XL1 ge) args else (XL1 ge) k args
noncomputable def X1(ge:Int):Nat->List D->D:=fun k args=>if k=382 then (deU 382).eval (XL2 ge) args else (XL2 ge) k args
theorem zEC{k:Nat}(h:k∉lvls):(X1 ge) k=(Xb ge) k:=by
 simp only[lvls,List.mem_cons,List.not_mem_nil,or_false,not_or] at h;funext args;have h1:lvl1.elem k=false:=by simp[lvl1];omega
 have h2:lvl2.elem k=false:=by simp[lvl2];omega
 simp only[X1,XL2,XL1,h1,h2,bfZ,if_false];rw[if_neg (by omega)]
theorem zXG{k:Nat}(h:k∉[382]):(X1 ge) k=(XL2 ge) k:=by
 funext args;simp only[List.mem_singleton] at h;simp only[X1,h,if_false]
theorem zGE{k:Nat}(h:k∉382::lvl2):(X1 ge) k=(XL1 ge) k:=by
 simp only[List.mem_cons,not_or] at h;rw[zXG (by simpa using h.1)];funext args;have h2:lvl2.elem k=false:=by simpa using h.2
 simp only[XL2,h2,bfZ,if_false]
theorem xUF:∀k∈lvls,∀args,(X1 ge) k args=(deU k).eval (X1 ge) args:=by
 have f1:∀k∈lvl1,xGE lvls (deU k)=true:=by decide +kernel
 have f2:∀k∈lvl2,xGE (382::lvl2) (deU k)=true:=by decide +kernel
 have f3:xGE [382] (deU 382)=true:=by decide +kernel
 have g1:∀k∈lvl1,k∉382::lvl2:=by decide +kernel
 have g2:∀k∈lvl2,k∉[382]:=by decide +kernel
 have key1:∀k∈lvl1,∀args,(X1 ge) k args=(deU k).eval (X1 ge) args:=fun k hk args=>by
  rw[zGE (g1 k hk)]
  have:lvl1.elem k=true:=by simpa using hk
  simp only[XL1,this,if_true];exact xEB (fun j hj=>(zEC hj).symm) (f1 k hk)
 have key2:∀k∈lvl2,∀args,(X1 ge) k args=(deU k).eval (X1 ge) args:=fun k hk args=>by
  rw[zXG (g2 k hk)]
  have:lvl2.elem k=true:=by simpa using hk
  simp only[XL2,this,if_true];exact xEB (fun j hj=>(zGE hj).symm) (f2 k hk)
 have key3:∀args,(X1 ge) 382 args=(deU 382).eval (X1 ge) args:=fun args=>by
  simp only[X1,if_true];exact xEB (fun j hj=>(zXG hj).symm) f3
 intro k hk args
 have:k∈lvl1∨k∈lvl2∨k=382:=by
  simp only[lvls,lvl1,lvl2,List.mem_cons,List.not_mem_nil,or_false] at hk ⊢;omega
 rcases this with h|h|rfl
 ·exact key1 k h args
 ·exact key2 k h args
 ·exact key3 args
def xUC(k:Nat)(as1:List A):A :=
 if k=300 then
  match as1 with
  | [.map n m,.nil]=>.list n (.row [.int 0 4294967295,.oct m])
  | [.nil,.nil]=>.nil
  | _=>.any
 else .any
theorem xTD:XOk (Xb ge) xUC:=fun k as1 ds h=>by
 unfold xUC;split
 ·rename_i hk;subst hk;have hX:∀ds,(Xb ge) 300 ds=X 300 ds:=fun _=>rfl
  rw[hX];split
  ·obtain⟨d,u,rfl,h1,h2⟩:=gs2 h;cases h2;show A.g _ (if (mapL d).isEmpty then .nil else D.appd .nil (.list ((mapL d).map fun x=>.row [.int x.1,D.appd .nil x.2])));rcases h1 with rfl|⟨l,rfl,h3,h4,h5,h6⟩
   ·exact .inl rfl
   ·cases l with
    | nil=>exact .inl rfl
    | cons a r =>
     refine .inr ⟨_,rfl,by rw[List.length_map];exact h3,fun x hx=>?_⟩;obtain⟨y,hy,rfl⟩:=List.mem_map.1 hx;refine⟨_,rfl,_,_,rfl,⟨_,rfl,(h5 y hy).1,by have:=(h5 y hy).2;omega⟩,_,_,rfl,?_,rfl⟩;rcases h6 y hy with e|⟨s,e,hs⟩
     ·rw[e];exact .inl rfl
     ·rw[e];cases s with
      | nil=>exact .inl rfl
      | cons b s=>exact .inr ⟨_,rfl,hs⟩
  ·obtain⟨d,u,rfl,h1,h2⟩:=gs2 h;cases h1;cases h2
   rfl
  ·trivial
 ·trivial
def xEE(k:Nat)(as1:List A):A:=if lvl1.elem k then abs xUC [] as1 (deU k) else xUC k as1
theorem zWG{Y:Nat->List D->D}:TOk Y []:=fun k env out h=>by simp[yTA] at h
theorem yFI:XOk (XL1 ge) xEE:=fun k as1 ds h=>by
 unfold xEE XL1;split
 ·exact xSB xTD zWG h _
 ·exact xTD k as1 ds h
example (a:A) (n:Nat):abs xUC [] [.row [a,.oct n,.bool]] yOI = .row [.int (-2147483648) 2147483647,.oct n,.bool]:=by rfl
example (a:A) (n:Nat):abs xUC [] [.row [a,.oct n,.bool]] qFF = .row [.int 0 4294967295,.oct n,.bool]:=by rfl
example (a b:A) (n:Nat):abs xUC [] [.row [a,.oct n,.bool],b] deU371 = .row [.oct n,.oct n,.bool]:=by rfl
end
end Go.Mx
namespace Go.Mx
open Go Go.Dx
section
variable {X:Nat->List D->D} {P:Nat->List D->Prop} {J:List D} {lv:Nat} {go:DE} {is bs:List DE}
theorem qYG(st:Nat->List D)(step:Nat->D->List D->List D):∀k,(∀i,i<k->step i (.int (i:Nat)) (st i)=st (i+1))->zQA step 0 (qGB k) (st 0)=st k
 | 0,_=>rfl
 | k+1,h=>by
  rw[qSF,xRA,qJD,Nat.zero_add,qYG st step k (fun i hi=>h i (by omega))];exact h k (by omega)
structure Runs (X:Nat->List D->D) (J:List D) (lv:Nat) (go:DE) (is bs:List DE) (N:Nat) (st:Nat->List D):Prop where
 lv:J.take lv=J
 h0:zDA X is J=st 0
 hs:∀k:Nat,k<N->zDA X bs (J++(.int k :: .int k::st k))=st (k+1)
 hg:∀k:Nat,k<N->(go.eval X (J++(.int k :: .int k::st k))).asBool=true
 hN:(go.eval X (J++(.int N :: .int N::st N))).asBool=false
theorem Runs.rows{N:Nat}{st:Nat->List D}(h:Runs X J lv go is bs N st){k:Nat}(hk:k<=N):zQA (fun i r acc=>zDA X bs (J++(.int i::r::acc))) 0 (qGB k) (zDA X is J)=st k:=by
 rw[h.h0];exact qYG st _ k (fun i hi=>h.hs i (by omega))
theorem Runs.wh{N:Nat}{st:Nat->List D}(h:Runs X J lv go is bs N st):(DE.wh lv go is bs).eval X J = .int (N:Nat):=by
 simp only[DE.eval,h.lv]
 congr 1
 congr 1
 refine yEK ?_ (fun m hm=>?_)
 ·rw[h.rows (Nat.le_refl _)];exact h.hN
 ·rw[h.rows (by omega),h.hg m hm];simp
theorem Runs.fold{N:Nat}{st:Nat->List D}(h:Runs X J lv go is bs N st)(j:Nat):(DE.fold lv (.f .iota [.wh lv go is bs]) is bs j).eval X J=(st N).getD j .nil:=by
 have e:((DE.f .iota [.wh lv go is bs]).eval X J).rows=qGB N:=by
  show (Fn.eval X .iota (zDA X [.wh lv go is bs] J)).rows=_;rw[zWC,h.wh];simp[Fn.eval,D.rows,D.asInt,qGB]
 show (zQA (fun i r acc=>zDA X bs (J.take lv++(.int i::r::acc))) 0 ((DE.f .iota [.wh lv go is bs]).eval X J).rows (zDA X is J)).getD j .nil=_;rw[e,h.lv,h.rows (Nat.le_refl _)]
theorem Runs.term{N:Nat}{st:Nat->List D}(h:Runs X J lv go is bs N st):(Ob.term lv go is bs).holds X P J:=by
 simp only[Ob.holds,h.lv];exact⟨N,by rw[h.rows (Nat.le_refl _)];exact h.hN⟩
theorem Runs.all{N:Nat}{st:Nat->List D}(h:Runs X J lv go is bs N st){os:List Ob}(ho:∀k:Nat,k<=N->zCA X P os (J++(.int k :: .int k::st k))):(Ob.all (.f .iotaS [.wh lv go is bs]) is bs os).holds X P J:=by
 have e:((DE.f .iotaS [.wh lv go is bs]).eval X J).rows=qGB (N+1):=by
  show (Fn.eval X .iotaS (zDA X [.wh lv go is bs] J)).rows=_;rw[zWC,h.wh];simp[Fn.eval,D.rows,D.asInt,qGB]
 simp only[Ob.holds];rw[e];intro k hk;rw[qJD] at hk;rw[qXG _ _ (by omega),qTF _ _ (by omega),h.rows (by omega)];exact ho k (by omega)
structure Folds {A S:Type} (X:Nat->List D->D) (J:List D) (lv:Nat) (src:DE) (is bs:List DE) (ea:A->D) (es:S->List D) (f:Nat->A->S->S) (l:List A) (s0:S):Prop where
 lv:J.take lv=J
 src:(src.eval X J).rows=l.map ea
 h0:zDA X is J=es s0
 hs:∀(i:Nat) (a:A) (s:S),l[i]? = some a->s=xNA f 0 (l.take i) s0->zDA X bs (J++(.int i::ea a::es s))=es (f i a s)
theorem qKF{A S:Type}(f:Nat->A->S->S):∀(l:List A) (i:Nat) (a:A) (s:S),xNA f i (l++[a]) s=f (i+l.length) a (xNA f i l s)
 | [],i,a,s=>rfl
 | x::l,i,a,s=>by
  simp only[List.cons_append,xNA,List.length_cons];rw[qKF f l (i+1)]
  congr 1;omega
variable {A S:Type} {src:DE} {ea:A->D} {es:S->List D} {f:Nat->A->S->S} {l:List A} {s0:S}
theorem zCE{α:Type}{l:List α}{k:Nat}{a:α}(h:l[k]? = some a):l.take (k+1)=l.take k++[a]:=by
 rw[List.take_add_one,h];rfl
theorem Folds.rows(h:Folds X J lv src is bs ea es f l s0):∀ {k:Nat},k<=l.length->zQA (fun i r acc=>zDA X bs (J++(.int i::r::acc))) 0 ((l.map ea).take k) (zDA X is J)=es (xNA f 0 (l.take k) s0)
 | 0,_=>by simp[zQA,xNA,h.h0]
 | k+1,hk=>by
  have hk':l[k]? = some l[k]:=List.getElem?_eq_getElem (by omega);have hm:(l.map ea)[k]? = some (ea l[k]):=by rw[List.getElem?_map,hk'];rfl
  rw[zCE hm,xRA,h.rows (k:=k) (by omega),zCE hk',qKF];have e:0+((l.map ea).take k).length=k:=by simp;omega
  have e2:0+(l.take k).length=k:=by simp;omega
  rw[e,e2];exact h.hs k _ _ hk' rfl
theorem Folds.fold(h:Folds X J lv src is bs ea es f l s0)(j:Nat):(DE.fold lv src is bs j).eval X J=(es (xNA f 0 l s0)).getD j .nil:=by
 have:=h.rows (k:=l.length) (Nat.le_refl _)
 rw[List.take_of_length_le (by simp),List.take_of_length_le (Nat.le_refl _)] at this;simp only[DE.eval,h.lv,h.src,this]
theorem Folds.all(h:Folds X J lv src is bs ea es f l s0){os:List Ob}(ho:∀(k:Nat) (a:A),l[k]? = some a->zCA X P os (J++(.int k::ea a::es (xNA f 0 (l.take k) s0)))):(Ob.all src is bs os).holds X P J:=by
 simp only[Ob.holds];rw[h.src];intro k hk;have hk2:k<l.length:=by simpa using hk
 have hk':l[k]? = some l[k]:=List.getElem?_eq_getElem hk2;have hm:(l.map ea).getD k .nil=ea l[k]:=by simp[List.getD_eq_getElem?_getD,hk']
 rw[hm,h.rows (by omega)];exact ho k _ hk'
end
end Go.Mx
namespace Go.Mx
open Go Go.Dx
theorem xGF{x:Int}(h1:-9223372036854775808<=x)(h2:x<=9223372036854775807):IntKind.i64.wrap x=x:=by
 rw[IntKind.wrap_i64];omega
theorem ev45(n s:Int)(k:Nat)(h0:0<=s)(h8:s<=8):zCA X (Pre k) ob45 [.int n,.int s]/\de45.eval X [.int n,.int s]=X 45 [.int n,.int s]:=by
 obtain⟨m,rfl⟩:=Int.eq_ofNat_of_zero_le h0;have hm:m<=8:=by omega
 let st:Nat->List D:=fun k=>[.int ((m:Int)-1-k),encN (((List.range m).reverse.take k).map (qSA n))]
 have hlen:(List.range m).reverse.length=m:=by simp
 have hrun:Runs X [.int n,.int (m:Nat)] 2 (.f .leI [.k (.int 0),.v 4]) [.f (.sub .i64) [.v 1,.k (.int 1)],.k .nil] [.f (.sub .i64) [.v 4,.k (.int 1)],.f .app [.v 5,.f .mkbytes [.f (.wrap .u8) [.f (.shr .i64) [.v 0,.f (.mul .i64) [.k (.int 8),.v 4]]]]]] m st:=by
  refine⟨rfl,?_,fun k hk=>?_,fun k hk=>?_,?_⟩
  ·simp only[zDA,DE.eval,Fn.eval,D.asInt,gsZ,gzZ,st];rw[xGF (by omega) (by omega)];simp[encN]
  ·simp only[zDA,DE.eval,Fn.eval,D.asInt,List.cons_append,List.nil_append,gsZ,gzZ,st,List.map_cons,List.map_nil];rw[xGF (by omega) (by omega),xGF (x:=8*_) (by omega) (by omega)];have hk':(List.range m).reverse[k]? = some (m-1-k):=by
    rw[List.getElem?_reverse (by simpa using hk)];simp only[List.length_range,List.getElem?_range (show m-1-k<m by omega)]
   have hb:UInt8.ofNat (IntKind.u8.wrap (shrI n (8*((m:Int)-1-k)) .i64)).toNat=qSA n (m-1-k):=by
    simp only[qSA,shrI,IntKind.bits]
    congr 5
    omega
   rw[zCE hk',List.map_append,hb,yPB _ _ (.inr ⟨_,.inl rfl⟩)];simp only[D.asStr,List.map_cons,List.map_nil,List.cons.injEq,D.int.injEq,and_true];omega
  ·simp only[DE.eval,zDA,Fn.eval,D.asInt,D.asBool,List.cons_append,List.nil_append,gsZ,gzZ,st];exact decide_eq_true (by omega)
  ·simp only[DE.eval,zDA,Fn.eval,D.asInt,D.asBool,List.cons_append,List.nil_append,gsZ,gzZ,st];exact decide_eq_false (by omega)
 have hfin:(st m).getD 1 .nil=encN (zSA n m):=by
  simp only[st,gsZ,gzZ,zSA];rw[List.take_of_length_le (by simp)]
 refine⟨⟨hrun.term,hrun.all (fun q hq=>?_),trivial⟩,?_⟩
 ·have hl:((List.range m).reverse.take q).length<=8:=by rw[List.length_take];omega
  simp only[zCA,qPA,Ob.holds,zDA,DE.eval,Fn.eval,D.asInt,D.asBool,List.cons_append,List.nil_append,gsZ,gzZ,st,List.map_cons,List.map_nil];refine⟨fun hc=>⟨?_,?_,trivial⟩,trivial⟩
  ·rw[yPB _ _ (.inr ⟨_,.inl rfl⟩),xKA];simp only[D.asStr,List.length_append,List.length_map,List.length_cons,List.length_nil];exact⟨by simp only[LIM];omega,by simp only[maxLen];omega⟩
  ·have:=of_decide_eq_true hc
   rw[xGF (by omega) (by omega)];omega
 ·rw[X_45];simp only[D.asInt,Int.toNat_natCast];rw[<- hfin];exact hrun.fold 1
end Go.Mx
namespace Go.Mx
open Go Go.Dx
theorem xWG{x:Int}(h1:0<=x)(h2:x<18446744073709551616):IntKind.u64.wrap x=x:=by
 rw[IntKind.wrap_u64];omega
theorem xHF{x:Int}(h1:0<=x)(h2:x<256):IntKind.u8.wrap x=x:=by
 rw[IntKind.wrap_u8];omega
def uvN(n:Nat):Nat:=if 127<n then uvN (n / 128)+1 else 0
 termination_by n
 decreasing_by omega
def uvP(n k:Nat):List UInt8:=(List.range k).map fun i=>UInt8.ofNat (n / 128 ^ i%128+128)
theorem qXI(n k:Nat):uvP n (k+1)=uvP n k++[UInt8.ofNat (n / 128 ^ k%128+128)]:=by simp[uvP,List.range_succ]
theorem uvP_cons(n k:Nat):uvP n (k+1)=UInt8.ofNat (n%128+128)::uvP (n / 128) k:=by
 simp only[uvP,List.range_succ_eq_map,List.map_cons,List.map_map,Nat.pow_zero,Nat.div_one]
 congr 1
 apply List.map_congr_left;intro i _;simp only[Function.comp];rw[Nat.pow_succ',Nat.div_div_eq_div_mul]
theorem uv_eq:∀n:Nat,zOA n=uvP n (uvN n)++[UInt8.ofNat (n / 128 ^ uvN n)]:=by
 intro n
 induction n using Nat.strongRecOn with
 | ind n ih =>
  rw[zOA,uvN];split
  ·rw[ih (n / 128) (by omega),uvP_cons];simp only[List.cons_append]
   congr 3
   rw[Nat.pow_succ',Nat.div_div_eq_div_mul]
  ·simp[uvP]
theorem uvN_go:∀(n k:Nat),k<uvN n->127<n / 128 ^ k:=by
 intro n
 induction n using Nat.strongRecOn with
 | ind n ih =>
  intro k hk;rw[uvN] at hk;split at hk
  ·rename_i h;cases k with
   | zero=>simpa using h
   | succ k =>
    have:=ih (n / 128) (by omega) k (by omega)
    rw[Nat.pow_succ',<- Nat.div_div_eq_div_mul];exact this
  ·omega
theorem xSG:∀n:Nat,¬127<n / 128 ^ uvN n:=by
 intro n
 induction n using Nat.strongRecOn with
 | ind n ih =>
  rw[uvN];split
  ·have:=ih (n / 128) (by omega)
   rw[Nat.pow_succ',<- Nat.div_div_eq_div_mul];exact this
  ·simp;omega
theorem zTG:∀(b n:Nat),n<128 ^ b->uvN n<=b-1
 | 0,n,h=>by
  have:n=0:=by simpa using h
  subst this;rw[uvN];simp
 | b+1,n,h=>by
  rw[uvN];split
  ·rename_i h1;have h2:n / 128<128 ^ b:=by rw[Nat.div_lt_iff_lt_mul (by omega),<- Nat.pow_succ];exact h
   have:=zTG b (n / 128) h2
   have hb:b≠0:=fun e=>by subst e;simp at h;omega
   omega
  ·omega
theorem band127(n:Nat)(h:n<18446744073709551616):IntKind.u64.wrap ((BitVec.ofInt IntKind.u64.bits (n:Int) &&& BitVec.ofInt IntKind.u64.bits 127).toNat:Nat)=((n%128:Nat):Int):=by
 have e:(BitVec.ofInt IntKind.u64.bits (n:Int) &&& BitVec.ofInt IntKind.u64.bits 127).toNat=n%128:=by
  rw[BitVec.toNat_and];have e1:(BitVec.ofInt IntKind.u64.bits (n:Int)).toNat=n:=by simp[IntKind.bits,BitVec.toNat_ofInt];omega
  have e2:(BitVec.ofInt IntKind.u64.bits 127).toNat=2 ^ 7-1:=rfl;rw[e1,e2,Nat.and_two_pow_sub_one_eq_mod]
 rw[e,xWG (by omega) (by omega)]
theorem bor128(n:Nat)(h:n<128):IntKind.u8.wrap ((BitVec.ofInt IntKind.u8.bits (n:Int) ||| BitVec.ofInt IntKind.u8.bits 128).toNat:Nat)=((n+128:Nat):Int):=by
 have:∀n:Fin 128,IntKind.u8.wrap ((BitVec.ofInt IntKind.u8.bits (n.1:Int) ||| BitVec.ofInt IntKind.u8.bits 128).toNat:Nat)=((n.1+128:Nat):Int):=by decide
 exact this ⟨n,h⟩
theorem shr7(n:Nat):shrI (n:Int) 7 .u64=((n / 128:Nat):Int):=by
 simp only[shrI,IntKind.bits];show (n:Int).fdiv (2 ^ 7)=_;rw[Int.fdiv_eq_ediv_of_nonneg _ (by decide)];rfl
theorem uv_run(n:Nat)(h:n<18446744073709551616):Runs X [.int (n:Nat)] 1 (.f .ltI [.k (.int 127),.v 4]) [.k .nil,.v 0] [.f .app [.v 3,.f .mkbytes [.f (.bor .u8) [.f (.wrap .u8) [.f (.band .u64) [.v 4,.k (.int 127)]],.k (.int 128)]]],.f (.shr .u64) [.v 4,.k (.int 7)]] (uvN n) (fun k=>[encN (uvP n k),.int ((n / 128 ^ k:Nat):Int)]):=by
 have hlt:∀k,n / 128 ^ k<18446744073709551616:=fun k=>Nat.lt_of_le_of_lt (Nat.div_le_self _ _) h
 refine⟨rfl,by simp[zDA,DE.eval,uvP,encN],fun k hk=>?_,fun k hk=>?_,?_⟩
 ·simp only[zDA,DE.eval,Fn.eval,D.asInt,List.cons_append,List.nil_append,gsZ,gzZ,List.map_cons,List.map_nil];rw[band127 _ (hlt k),xHF (x:=((n / 128 ^ k%128:Nat):Int)) (by omega) (by omega),bor128 _ (by omega),shr7,yPB _ _ (.inr ⟨_,.inl rfl⟩),qXI];simp only[D.asStr,Int.toNat_natCast];rw[Nat.pow_succ,Nat.div_div_eq_div_mul]
 ·simp only[DE.eval,zDA,Fn.eval,D.asInt,D.asBool,List.cons_append,List.nil_append,gsZ,gzZ]
  have:=uvN_go n k hk
  exact decide_eq_true (by omega)
 ·simp only[DE.eval,zDA,Fn.eval,D.asInt,D.asBool,List.cons_append,List.nil_append,gsZ,gzZ]
  have:=xSG n
  exact decide_eq_false (by omega)
theorem ev46(n:Int)(h0:0<=n)(h1:n<18446744073709551616)(k:Nat):zCA X (Pre k) ob46 [.int n]/\de46.eval X [.int n]=X 46 [.int n]:=by
 obtain⟨m,rfl⟩:=Int.eq_ofNat_of_zero_le h0;have hm:m<18446744073709551616:=by omega
 have hrun:=uv_run m hm;have hN:uvN m<=9:=by
  have:=zTG 10 m (Nat.lt_of_lt_of_le hm (by decide))
  omega
 have hP:∀k,k<=uvN m->(uvP m k).length<=9:=fun k hk=>by simp[uvP];omega
 have hfin:=xSG m;have main:de46.eval X [.int (m:Nat)]=encN (zOA m):=by
  simp only[de46,DE.eval.eq_3,zDA];rw[hrun.fold 0,hrun.fold 1];simp only[gsZ,gzZ,Fn.eval,D.asInt,List.map_cons,List.map_nil];rw[xHF (x:=((m / 128 ^ uvN m:Nat):Int)) (by generalize m / 128 ^ uvN m=q at *;omega) (by generalize m / 128 ^ uvN m=q at *;omega),yPB _ _ (.inr ⟨_,.inl rfl⟩),uv_eq];simp only[D.asStr,Int.toNat_natCast]
 refine⟨⟨?_,hrun.term,hrun.all (fun q hq=>?_),trivial⟩,?_⟩
 ·have e:(DE.eval X de46 [.int (m:Nat)]).len<=10:=by
   rw[main,xKA,uv_eq]
   have:=hP (uvN m) (Nat.le_refl _)
   simp;omega
  refine⟨?_,?_⟩
  ·show (DE.eval X de46 [.int (m:Nat)]).len*1<=LIM;simp only[LIM];omega
  ·show (DE.eval X de46 [.int (m:Nat)]).len<=maxLen;simp only[maxLen];omega
 ·simp only[zCA,Ob.holds,zDA,DE.eval,Fn.eval,D.asInt,D.asBool,List.cons_append,List.nil_append,gsZ,gzZ,List.map_cons,List.map_nil];refine⟨fun hc=>⟨?_,trivial⟩,trivial⟩;rw[yPB _ _ (.inr ⟨_,.inl rfl⟩),xKA]
  have:=hP q hq
  simp only[D.asStr,List.length_append,List.length_cons,List.length_nil];exact⟨by simp only[LIM];omega,by simp only[maxLen];omega⟩
 ·rw[main,X_46];rfl
end Go.Mx
namespace Go.Mx
open Go Go.Dx
theorem ev53(x b:Bool)(n s:Int)(k:Nat)(h0:0<=n)(h1:n<=40000)(hs:s=2∨s=4):zCA X (Pre k) ob53 [.bool x,.bool b,.int n,.int s]/\de53.eval X [.bool x,.bool b,.int n,.int s]=X 53 [.bool x,.bool b,.int n,.int s]:=by
 have e:IntKind.u64.wrap (IntKind.u64.wrap n+1)=n+1:=by rw[xWG (x:=n) h0 (by omega),xWG (by omega) (by omega)]
 have hp:∀m:Int,Pre k 45 [.int m,.int s]:=fun m=>⟨fun h=>by simp[yMA] at h,by rw[zQC];simp only[D.asInt];omega⟩
 constructor
 ·simp only[ob53,zCA,Ob.holds,DE.eval,zDA,Fn.eval,gzZ,gsZ,D.asInt,D.asBool,e];refine⟨fun _=>⟨fun _=>⟨⟨fun h=>by simp[yMA] at h,trivial⟩,trivial⟩,fun _=>⟨fun _=>⟨hp _,trivial⟩,fun _=>⟨hp _,trivial⟩,trivial⟩,trivial⟩,trivial⟩
 ·simp only[de53,X_53,X_46,X_45,DE.eval,zDA,Fn.eval,gzZ,gsZ,D.asInt,D.asBool,e,counted,List.map_cons,List.map_nil];have e2:(n+1).toNat=n.toNat+1:=by omega
  have e3:((n.toNat:Nat):Int)=n:=by omega
  cases x <;> cases b <;> simp[encN,e2,e3]
theorem xLI:∀(l:List Fl) (a:Nat),wfFl l=true->a<=1001->l.foldl (fun n f=>if 0<=f.tag then max n (f.tag.toNat+1) else n) a<=1001
 | [],a,_,h=>h
 | f::r,a,hw,h=>by
  simp only[wfFl,baZ] at hw;refine xLI r _ hw.2 ?_
  have:f.tag<=1000:=by
   have:=hw.1
   cases f;simp only[wfF,baZ,dtZ] at this
   exact this.1.1
  show (if 0<=f.tag then max a (f.tag.toNat+1) else a)<=1001;by_cases h0:0<=f.tag
  ·rw[if_pos h0];omega
  ·rw[if_neg h0];exact h
theorem ev51(fs:Option (List Fl))(hw:wfFs fs=true)(k:Nat):zCA X (Pre k) ob51 [encF fs]/\de51.eval X [encF fs]=X 51 [encF fs]:=by
 have hw':wfFl (fs.getD [])=true:=by
  cases fs with
  | none=>rfl
  | some l=>simp only[wfFs,baZ] at hw;exact hw.2
 have hfold:Folds X [encF fs] 1 (.v 0) [.k (.int 0)] [.f .ite [.f .leI [.k (.int 0),.f (.get 4) [.v 2]],.f .imax [.v 3,.f (.add .u32) [.f (.wrap .u32) [.f (.get 4) [.v 2]],.k (.int 1)]],.v 3]] Fl.d (fun n:Nat=>[.int (n:Int)]) (fun _ f n=>if 0<=f.tag then max n (f.tag.toNat+1) else n) (fs.getD []) 0:=by
  refine⟨rfl,by simp[DE.eval,xZB],rfl,fun i f n hf _=>?_⟩;have hm:f∈fs.getD []:=List.mem_of_getElem? hf;have ht:f.tag<=1000:=by
   have:=xUG hw' f hm
   cases f;simp only[wfF,baZ,dtZ] at this
   exact this.1.1
  simp only[zAA,zBA,ev_v,ev_k,ev_f,List.cons_append,List.nil_append,gsZ,gzZ,zMA,yBA,zHC,yGA,xLC,zFK,zUA];by_cases h:0<=f.tag
  ·simp only[h,decide_true,if_true];rw[IntKind.wrap_u32,IntKind.wrap_u32]
   congr 2
   omega
  ·simp only[h,decide_false,if_false,bfZ]
 refine⟨⟨hfold.all (fun _ _ _=>trivial),trivial⟩,?_⟩;rw[X_51,zJA];show (DE.fold _ _ _ _ _).eval X _=_;rw[hfold.fold 0];simp only[qVE,gzZ,xHB]
theorem yVC{fs:Option (List Fl)}(hw:wfFs fs=true):xHB (fs.getD [])<=1001:=by
 cases fs with
 | none=>simp[xHB]
 | some l=>simp only[wfFs,baZ] at hw;exact xLI l 0 hw.2 (by omega)
theorem ev58(n m:Int)(k:Nat)(h0:0<=n)(h1:n<256)(h2:0<=m)(h3:m<=1000):zCA X (Pre k) ob58 [.int n,.int m]/\de58.eval X [.int n,.int m]=X 58 [.int n,.int m]:=by
 constructor
 ·simp only[ob58,zCA,Ob.holds,DE.eval,zDA,Fn.eval,gzZ,gsZ,D.asInt];rw[xGF (by omega) (by omega)];exact⟨by omega,trivial⟩
 ·simp only[de58,X_58,DE.eval,zDA,Fn.eval,gzZ,gsZ,D.asInt];rw[xGF (x:=n) (by omega) (by omega),xGF (by omega) (by omega),Int.tmod_eq_emod_of_nonneg h0]
end Go.Mx
namespace Go.Mx
open Go Go.Dx
def neqI(y:List UInt8)(i:Nat)(x:UInt8)(s:Bool):Bool:=if s then true else ((x.toNat:Int) != ((y.getD i 0).toNat:Int))
theorem zIH(y:List UInt8):∀(l:List UInt8) (i:Nat) (s:Bool),i+l.length<=y.length->xNA (neqI y) i l s=(s || !(l==(y.drop i).take l.length))
 | [],i,s,_=>by simp[xNA]
 | x::l,i,s,h=>by
  simp only[List.length_cons] at h;simp only[xNA];rw[zIH y l (i+1) _ (by omega)];have hi:i<y.length:=by omega
  have e:(y.drop i).take (x::l).length=y[i]::(y.drop (i+1)).take l.length:=by
   rw[List.drop_eq_getElem_cons hi];rfl
  rw[e];have e2:y.getD i 0=y[i]:=by simp[List.getD_eq_getElem?_getD,hi]
  simp only[neqI,e2];cases s
  ·by_cases hx:x=y[i]
   ·subst hx;have h1:((y[i].toNat:Int) != (y[i].toNat:Int))=false:=by simp
    simp[h1]
   ·have h1:((x.toNat:Int) != (y[i].toNat:Int))=true:=by
     simp only[bne_iff_ne,ne_eq];intro h2;exact hx (UInt8.toNat_inj.1 (by omega))
    simp[h1,hx]
  ·simp
theorem ev52(a b:Option (List UInt8))(k:Nat):zCA X (Pre k) ob52 [encB a,encB b]/\de52.eval X [encB a,encB b]=X 52 [encB a,encB b]:=by
 have hfold:(a.getD []).length=(b.getD []).length->Folds X [encB a,encB b] 2 (.v 0) [.k (.bool false)] [.f .ite [.v 4,.k (.bool true),.f .neI [.f (.get 0) [.v 3],.f (.get 0) [.f .at [.v 1,.v 2]]]]] (fun x:UInt8=>.int (x.toNat:Int)) (fun s:Bool=>[.bool s]) (neqI (b.getD [])) (a.getD []) false:=fun hl=>by
  refine⟨rfl,by simp[ev_v,yJF],rfl,fun i x s hx _=>?_⟩;have hi:i<(b.getD []).length:=by rw[<- hl];exact(List.getElem?_eq_some_iff.1 hx).1
  have e:(encB b).rows.getD i .nil = .int (((b.getD []).getD i 0).toNat:Int):=by
   rw[yJF];simp[List.getD_eq_getElem?_getD,hi]
  simp only[zAA,zBA,ev_v,ev_k,ev_f,List.cons_append,List.nil_append,gsZ,gzZ,xKF,Int.toNat_natCast,e,zMA,D.cells,yCD,zUA,neqI];cases s <;> rfl
 constructor
 ·refine⟨fun hc=>⟨?_,trivial⟩,trivial⟩;have hl:(a.getD []).length=(b.getD []).length:=by
   simp only[ev_f,zAA,zBA,ev_v,gzZ,gsZ,yDA,yCD,zVA,yEA] at hc;simp only[bne_eq_false_iff_eq] at hc;omega
  refine(hfold hl).all (fun i x hx=>⟨fun _=>⟨?_,trivial⟩,trivial⟩);have hi:i<(b.getD []).length:=by rw[<- hl];exact(List.getElem?_eq_some_iff.1 hx).1
  simp only[Ob.holds,ev_v,List.cons_append,List.nil_append,gsZ,gzZ,if_true,zLA,yEA,Int.toNat_natCast];exact⟨by omega,hi⟩
 ·rw[X_52,yZA,yZA];simp only[de52,ev_f,zAA,zBA,ev_v,ev_k,gzZ,gsZ,yDA,yCD,yEA,zUA];by_cases hl:(a.getD []).length=(b.getD []).length
  ·rw[(hfold hl).fold 0];rw[zIH _ _ _ _ (by omega)];have h1:(((a.getD []).length:Int) != ((b.getD []).length:Int))=false:=by simp[hl]
   simp only[h1,gzZ,zUA,Bool.false_or,List.drop_zero,bfZ,if_false];rw[hl,List.take_length];cases (a.getD []==b.getD []) <;> rfl
  ·have h1:(((a.getD []).length:Int) != ((b.getD []).length:Int))=true:=by
    simp only[bne_iff_ne,ne_eq];omega
   simp only[h1,if_true]
   congr 1
   symm;simp only[beq_eq_false_iff_ne,ne_eq];intro h;exact hl (by rw[h])
theorem anyI(p:Tg->Bool):∀(l:List Tg) (i:Nat) (s:Bool),xNA (fun _ x s=>if s then true else !p x) i l s=(s || !(l.all p))
 | [],i,s=>by simp[xNA]
 | x::l,i,s=>by
  simp only[xNA];rw[anyI p l (i+1)];cases s <;> cases h:p x <;> simp[h]
theorem ev54(t:T)(k:Nat):zCA X (Pre k) ob54 [t.d]/\de54.eval X [t.d]=X 54 [t.d]:=by
 have hfold:Folds X [t.d] 1 (.f (.get 4) [.v 0]) [.k (.bool false)] [.f .ite [.v 3,.k (.bool true),.f .not [.f .ite [.f .ltI [.k (.int 2147483647),.f .len [.f (.get 1) [.v 2]]],.k (.bool false),.k (.bool true)]]]] Tg.d (fun s:Bool=>[.bool s]) (fun _ x s=>if s then true else !(decide ((x.val.getD []).length<=2147483647))) t.U false:=by
  refine⟨rfl,?_,rfl,fun i x s hx _=>?_⟩
  ·simp only[ev_f,zAA,zBA,ev_v,gzZ,gsZ,zMA,zWA,qAB];rfl
  ·simp only[zAA,zBA,ev_v,ev_k,ev_f,List.cons_append,List.nil_append,gsZ,gzZ,zMA,qTA,yDA,yEA,yYB,zUA];by_cases h:(x.val.getD []).length<=2147483647
   ·have h2:¬((2147483647:Int)<((x.val.getD []).length:Int)):=by omega
    simp only[h,h2,decide_false,decide_true,bfZ,if_false,xMC];cases s <;> rfl
   ·have h2:((2147483647:Int)<((x.val.getD []).length:Int)):=by omega
    simp only[h,h2,decide_false,decide_true,if_true,xMC];cases s <;> rfl
 constructor
 ·exact⟨fun _=>⟨fun _=>⟨fun _=>⟨hfold.all (fun _ _ _=>⟨fun _=>trivial,trivial⟩),trivial⟩,trivial⟩,trivial⟩,trivial⟩
 ·rw[X_54,yOA];simp only[de54,ev_f,zAA,zBA,ev_v,ev_k,gzZ,gsZ,zMA,zWA,yDA,yEA,xEA,xFA,yYB,zUA];rw[hfold.fold 0,anyI];have e1:(t.s.getD [])=t.S:=rfl;have e2:(t.l.getD [])=t.L:=rfl;have e3:(t.u.getD [])=t.U:=rfl;simp only[e1,e2,e3,gzZ,zUA,Bool.false_or,yXI];have c:∀n:Nat,decide ((2147483647:Int)<(n:Int)) = !decide (n<=2147483647):=fun n=>by
   by_cases h:n<=2147483647
   ·have:¬((2147483647:Int)<(n:Int)):=by omega
    simp[h,this]
   ·have:((2147483647:Int)<(n:Int)):=by omega
    simp[h,this]
  rw[c,c,c];cases decide (t.S.length<=2147483647) <;> cases decide (t.L.length<=2147483647) <;> cases decide (t.U.length<=2147483647) <;> cases (t.U.all fun x=>decide ((x.val.getD []).length<=2147483647)) <;> rfl
end Go.Mx
namespace Go.Mx
open Go Go.Dx
def mapI{A B:Type}(g:Nat->A->B):Nat->List A->List B
 | _,[]=>[]
 | i,a::r=>g i a::mapI g (i+1) r
theorem xYA{A B:Type}(g:Nat->A->B):∀(l:List A) (i:Nat) (s:List B),xNA (fun i a s=>s++[g i a]) i l s=s++mapI g i l
 | [],i,s=>by simp[xNA,mapI]
 | a::l,i,s=>by simp only[xNA,mapI];rw[xYA g l (i+1)];simp
theorem yUA{A B:Type}(g:A->B):∀(l:List A) (i:Nat),mapI (fun _ a=>g a) i l=l.map g
 | [],_=>rfl
 | a::l,i=>by simp[mapI,yUA g l (i+1)]
theorem xOI{A B:Type}(g:Nat->A->B):∀(l:List A) (i:Nat),(mapI g i l).length=l.length
 | [],_=>rfl
 | a::l,i=>by simp[mapI,xOI g l (i+1)]
theorem xYF(a:List T)(x:T):(encT (nz a)).appd (.list [x.d])=encT (nz (a++[x])):=by
 cases a with
 | nil=>simp[nz,encT,D.appd,tds]
 | cons y a=>simp[nz,encT,D.appd,yGE]
theorem qAG(a:List Tg)(x:Tg):(encU (nz a)).appd (.list [x.d])=encU (nz (a++[x])):=by
 cases a with
 | nil=>simp[nz,encU,D.appd]
 | cons y a=>simp[nz,encU,D.appd]
theorem yBE{l b:Nat}(h:l<=50000)(hb:b<=4096):l*b<=LIM/\l<=maxLen:=by
 have:l*b<=50000*4096:=Nat.mul_le_mul h hb
 exact⟨by simp only[LIM];omega,by simp only[maxLen];omega⟩
theorem qCA{α:Type}(l:List α):(nz l).getD []=l:=by cases l <;> rfl
theorem smT_l{t:T}(h:smT t=true):t.L.length<=40000/\t.U.length<=40000 /\ ∀x∈t.L,smT x=true:=by
 cases t with
 | mk n s b l u =>
  simp only[smT,baZ,dtZ] at h;refine⟨?_,h.2,?_⟩
  ·cases l with
   | none=>simp[T.L,T.l]
   | some l=>simp only[smTo,baZ,dtZ] at h;exact h.1.1
  ·cases l with
   | none=>intro x hx;simp[T.L,T.l] at hx
   | some l=>simp only[smTo,baZ,dtZ] at h;exact qLI h.1.2
theorem wT_L{t x:T}(h:x∈t.L):wT x<wT t:=by
 cases t with
 | mk n s b l u =>
  cases l with
  | none=>simp[T.L,T.l] at h
  | some l =>
   have:=wT_mem (l:=l) (t:=x) h
   simp only[wT,wTo];omega
theorem given_d(t:T):(given t).d = .row [.int t.n,encB t.s,.bool t.null,encT (nz (t.L.map given)),encU (nz t.U)]:=by
 cases t with
 | mk n s b l u =>
  simp only[given,T.d,T.n,T.s,T.null,T.U,T.u,T.L,T.l];cases l with
  | none=>simp[zQK,nz]
  | some l=>simp[zQK,qOF]
theorem ev44(t:T)(n:Nat)(h:Pre (n+1) 44 [t.d]):zCA X (Pre n) ob44 [t.d]/\de44.eval X [t.d]=X 44 [t.d]:=by
 obtain⟨hm,hs⟩:=h;have hm:=hm rfl;rw[yNK,yOA] at hm;rw[qIK,yOA] at hs;obtain⟨s1,s2,s3⟩:=smT_l hs;have f1:Folds X [t.d] 1 (.f (.get 3) [.v 0]) [.k .nil] [.f .app [.v 3,.f .mklist [.f (.ext 44) [.v 2]]]] T.d (fun a:List T=>[encT (nz a)]) (fun _ x a=>a++[given x]) t.L []:=by
  refine⟨rfl,?_,rfl,fun i x a hx _=>?_⟩
  ·simp only[ev_f,zAA,zBA,ev_v,gzZ,gsZ,zMA,zWA,yFC];rfl
  ·simp only[zAA,zBA,ev_v,ev_k,ev_f,List.cons_append,List.nil_append,gsZ,gzZ,zNA,X_44,yOA,qHA,yPA,xYF]
 have f2:Folds X [t.d] 1 (.f (.get 4) [.v 0]) [.k .nil] [.f .app [.v 3,.f .mklist [.f .mkrow [.f (.get 0) [.v 2],.f (.get 1) [.v 2]]]]] Tg.d (fun a:List Tg=>[encU (nz a)]) (fun _ x a=>a++[x]) t.U []:=by
  refine⟨rfl,?_,rfl,fun i x a hx _=>?_⟩
  ·simp only[ev_f,zAA,zBA,ev_v,gzZ,gsZ,zMA,zWA,qAB];rfl
  ·simp only[zAA,zBA,ev_v,ev_k,ev_f,List.cons_append,List.nil_append,gsZ,gzZ,zMA,qTA,qFA,qHA,yPA];rw[<- qAG];rfl
 constructor
 ·refine⟨f2.all (fun k x hx=>?_),f1.all (fun k x hx=>?_),trivial⟩
  ·have hk:=(List.getElem?_eq_some_iff.1 hx).1;simp only[zCA,Ob.holds,zAA,zBA,ev_v,ev_k,ev_f,List.cons_append,List.nil_append,gsZ,gzZ,zMA,qTA,qFA,qHA,yPA];rw[xYA (fun _ x=>x),yUA];have e:((encU (nz ([]++List.map (fun x=>x) (List.take k t.U)))).appd (D.list [D.row [D.int x.key,encB x.val]])).len<=50000:=by
    show ((encU (nz ([]++List.map (fun x=>x) (List.take k t.U)))).appd (D.list [x.d])).len<=50000;rw[qAG,xFA,qCA]
    simp;omega
   exact⟨yBE e (by omega),trivial⟩
  ·have hk:=(List.getElem?_eq_some_iff.1 hx).1;have hxm:x∈t.L:=List.mem_of_getElem? hx;simp only[zCA,Ob.holds,zAA,zBA,ev_v,ev_k,ev_f,List.cons_append,List.nil_append,gsZ,gzZ,zNA,X_44,yOA,qHA,yPA];rw[xYA (fun _ x=>given x),yUA];have e:((encT (nz ([]++List.map given (List.take k t.L)))).appd (D.list [(given x).d])).len<=50000:=by
    rw[xYF,xEA,qCA]
    simp;omega
   refine⟨yBE e (by omega),⟨fun _=>?_,?_⟩,trivial⟩
   ·rw[yNK,yOA]
    have:=wT_L hxm
    omega
   ·rw[qIK,yOA];exact s3 x hxm
 ·rw[X_44,yOA,given_d];simp only[de44,ev_f,zAA,zBA,ev_v,gzZ,gsZ,zMA,zWA,qFA];rw[f1.fold 0,f2.fold 0,xYA (fun _ x=>given x),xYA (fun _ x=>x),yUA,yUA]
  simp
end Go.Mx
namespace Go.Mx
open Go Go.Dx
theorem qRF(x:Tg):∀l:List Tg,(yZB x l).length<=l.length+1
 | []=>by simp[yZB]
 | t::r=>by
  simp only[yZB]
  have:=qRF x r
  split
  ·simp;omega
  ·split <;> simp
theorem zZB(p:Tg->Bool):∀(l:List Tg) (a:List Tg),(l.foldl (fun out t=>if p t then out else yZB t out) a).length<=a.length+l.length
 | [],a=>by simp
 | t::r,a=>by
  simp only[List.foldl]
  have:=zZB p r (if p t then a else yZB t a)
  have h2:=qRF t a;cases hp:p t <;> simp only[hp,if_true,bfZ,if_false,List.length_cons] at this ⊢ <;> omega
theorem xQD(fs:List Fl)(u:Option (List Tg)):(xVA fs u).length<=32767:=by
 unfold xVA
 have:=zZB (fun t=>decide (t.key<(xHB fs:Int))) ((u.getD []).take Most) []
 simp only[dtZ,List.length_nil,Nat.zero_add,List.length_take,Most] at this ⊢;omega
def cut(x:Tg):Tg:=⟨x.key,whole x.val⟩
theorem FitS_eq(fs:Option (List Fl))(v:Int)(t:T):FitS fs v t = .mk 0 none false (nz (mapI (fun i f=>zIC f v (at' t i)) 0 (fs.getD []))) (nz ((xVA (fs.getD []) t.u).map cut)):=by
 have h:∀(l:List Fl) (i:Nat),fitL l i v t=mapI (fun i f=>zIC f v (at' t i)) i l:=fun l=>by
  induction l with
  | nil=>intro i;rfl
  | cons f l ih=>intro i;simp[fitL,mapI,ih]
 cases fs with
 | none=>rfl
 | some l=>simp only[FitS,h];rfl
theorem xRI{α:Type}(l:List α):l.take (min (l.length:Int) 32767).toNat=l.take 32767:=by
 by_cases h:l.length<=32767
 ·rw[List.take_of_length_le h,List.take_of_length_le (by omega)]
 ·congr 1;omega
theorem yWF(s:Option (List UInt8)):(encB s).takeD (min ((s.getD []).length:Int) 32767).toNat=encB (whole s):=by
 rw[xEJ];cases s with
 | none=>rfl
 | some s =>
  simp only[whole,Option.map_some,Option.getD_some];rw[xRI s];rfl
theorem takeT(s:Option (List T)):(encT s).takeD (min ((s.getD []).length:Int) 32767).toNat=encT (yND s):=by
 rw[xFJ];cases s with
 | none=>rfl
 | some s =>
  simp only[yND,Option.map_some,Option.getD_some];rw[xRI s];rfl
theorem xDF{fs:Option (List Fl)}(h:wfFs fs=true):(fs.getD []).length<=1000 /\ ∀f∈fs.getD [],wfF f=true:=by
 cases fs with
 | none=>simp
 | some l=>simp only[wfFs,baZ,dtZ] at h;exact⟨h.1,xUG h.2⟩
theorem zED{fs:Option (List Fl)}{f:Fl}(h:f∈fs.getD []):wF f<wFs fs:=by
 cases fs with
 | none=>simp at h
 | some l=>have:=wF_mem (l:=l) h;simp only[wFs];omega
theorem ev43(fs:Option (List Fl))(v:Int)(t:T)(n:Nat)(h:Pre (n+1) 43 [encF fs,.int v,t.d]):zCA X (Pre n) ob43 [encF fs,.int v,t.d]/\de43.eval X [encF fs,.int v,t.d]=X 43 [encF fs,.int v,t.d]:=by
 obtain⟨hm,hs⟩:=h;have hm:=hm rfl;rw[yMK,zJA] at hm;rw[qHK,zJA] at hs;obtain⟨s1,s2⟩:=xDF hs;have f1:Folds X [encF fs,.int v,t.d] 3 (.v 0) [.k .nil] [.f .app [.v 5,.f .mklist [.f (.ext 42) [.v 4,.v 1,.f (.ext 40) [.v 2,.v 3]]]]] Fl.d (fun a:List T=>[encT (nz a)]) (fun i f a=>a++[zIC f v (at' t i)]) (fs.getD []) []:=by
  refine⟨rfl,?_,rfl,fun i x a hx _=>?_⟩
  ·simp only[ev_v,gzZ,xZB]
  ·simp only[zAA,zBA,ev_v,ev_k,ev_f,List.cons_append,List.nil_append,gsZ,gzZ,zNA,X_42,X_40,yOA,xPA,zLA,qHA,yPA,xYF]
 have f2:Folds X [encF fs,.int v,t.d] 3 (.f (.ext 41) [.v 0,.f (.get 4) [.v 2]]) [.k .nil] [.f .app [.v 5,.f .mklist [.f .mkrow [.f (.get 0) [.v 4],.f .take [.f (.get 1) [.v 4],.f .imin [.f .len [.f (.get 1) [.v 4]],.k (.int 32767)]]]]]] Tg.d (fun a:List Tg=>[encU (nz a)]) (fun _ x a=>a++[cut x]) (xVA (fs.getD []) t.u) []:=by
  refine⟨rfl,?_,rfl,fun i x a hx _=>?_⟩
  ·simp only[ev_f,zAA,zBA,ev_v,gzZ,gsZ,zMA,zWA,zNA,X_41,zJA,decU_enc,qAB,qCA]
  ·simp only[zAA,zBA,ev_v,ev_k,ev_f,List.cons_append,List.nil_append,gsZ,gzZ,zMA,qTA,yDA,yEA,xHA,yBB,yWF,qFA,qHA,yPA];rw[<- qAG];rfl
 constructor
 ·refine⟨f2.all (fun k x hx=>?_),⟨fun e=>by simp[yMA] at e,?_⟩,f1.all (fun k x hx=>?_),trivial⟩
  ·have hk:=(List.getElem?_eq_some_iff.1 hx).1;have hul:=xQD (fs.getD []) t.u;simp only[zCA,Ob.holds,zAA,zBA,ev_v,ev_k,ev_f,List.cons_append,List.nil_append,gsZ,gzZ,zMA,qTA,yDA,yEA,xHA,yBB,yWF,qFA,qHA,yPA,zLA];rw[xYA (fun _ x=>cut x),yUA];refine⟨?_,⟨by omega,?_⟩,trivial⟩
   ·have e:((encU (nz ([]++List.map (fun x=>cut x) (List.take k (xVA (fs.getD []) t.u))))).appd (D.list [(cut x).d])).len<=50000:=by
     rw[qAG,xFA,qCA]
     simp;omega
    exact yBE e (by omega)
   ·simp only[bfZ,if_false];omega
  ·simp only[zAA,zBA,ev_v,ev_f,gsZ,gzZ];rw[yRF,zJA];exact hs
  ·have hk:=(List.getElem?_eq_some_iff.1 hx).1;have hxm:x∈fs.getD []:=List.mem_of_getElem? hx;simp only[zCA,Ob.holds,zAA,zBA,ev_v,ev_k,ev_f,List.cons_append,List.nil_append,gsZ,gzZ,zNA,X_42,X_40,yOA,xPA,zLA,qHA,yPA];rw[xYA (fun i f=>zIC f v (at' t i))];refine⟨?_,⟨fun _=>?_,?_⟩,⟨fun e=>by simp[yMA] at e,?_⟩,trivial⟩
   ·have e:((encT (nz ([]++mapI (fun i f=>zIC f v (at' t i)) 0 (List.take k (fs.getD []))))).appd (D.list [(zIC x v (at' t k)).d])).len<=50000:=by
     rw[xYF,xEA,qCA];simp[xOI];omega
    exact yBE e (by omega)
   ·rw[qQH,xPA]
    have:=zED hxm
    omega
   ·rw[zRI,xPA];exact s2 x hxm
   ·rw[yDE];simp only[zLA];omega
 ·rw[X_43,yOA,zJA,zLA,FitS_eq,T.d];simp only[de43,ev_f,zAA,zBA,ev_k,qFA];rw[f1.fold 0,f2.fold 0,xYA (fun i f=>zIC f v (at' t i)),xYA (fun _ x=>cut x),yUA];simp[encB]
end Go.Mx
