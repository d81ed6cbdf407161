/- Part of a verified symbolic run of the program's code (no condition of its own). -/
import Derived.Test.YtefilhocfegfhaaDoorQ2
import Derived.Scope
import Derived.LoopN
set_option linter.unusedVariables false
set_option linter.unusedSimpArgs false
noncomputable section
namespace Go.Dx
open Go
section
variable {P:Program} {X:Nat->List D->D} {Pre:Nat->List D->Prop} {w0:Base} {J:List D} {st:St} {g:Gh} {w:World} {a:Act}
structure Adv (X:Nat->List D->D) (J:List D) (s:St) (g:Gh) (s':St) (g':Gh):Prop where
 env:s'.env=s.env
 objs:s'.objs=s.objs
 loops:s'.loops=s.loops
 lvl:s'.lvl=s.lvl
 nt:s'.nt=s.nt
 obl:s'.obl=s.obl
 ext:Ext s g s' g'
 den:∀k sv,lk k s.env=some sv->sv.den X J g'=sv.den X J g
 deno:∀o cs,lk o s.objs=some cs->dens X J g' cs=dens X J g cs
theorem Adv.refl(X:Nat->List D->D)(J:List D)(s:St)(g:Gh):Adv X J s g s g:=⟨rfl,rfl,rfl,rfl,rfl,rfl,Ext.refl s g,fun _ _ _=>rfl,fun _ _ _=>rfl⟩
theorem Adv.trans{s1 s2 s3:St}{g1 g2 g3:Gh}(h:Adv X J s1 g1 s2 g2)(k:Adv X J s2 g2 s3 g3):Adv X J s1 g1 s3 g3 :=
 ⟨k.env.trans h.env,k.objs.trans h.objs,k.loops.trans h.loops,k.lvl.trans h.lvl,k.nt.trans h.nt,k.obl.trans h.obl,h.ext.trans k.ext,
  fun n sv hn=>(k.den n sv (by rw[h.env];exact hn)).trans (h.den n sv hn),fun o cs ho=>(k.deno o cs (by rw[h.objs];exact ho)).trans (h.deno o cs ho)⟩
theorem Adv.still{s s':St}{g g':Gh}(h:Adv X J s g s' g')(g2:Gh):Adv X J s g2 s' g2 :=
 ⟨h.env,h.objs,h.loops,h.lvl,h.nt,h.obl,Ext.keys (fun n vi hn=>(h.ext.rv n vi hn).1) (fun o cs ho=>(h.ext.rb o cs ho).1),fun _ _ _=>rfl,fun _ _ _=>rfl⟩
def Stb(X:Nat->List D->D)(J:List D)(s:St)(v:SV):Prop:=∀g s' g',Adv X J s g s' g'->v.den X J g'=v.den X J g
theorem Stb.adv{s s1:St}{g g1:Gh}{v:SV}(h:Stb X J s v)(ha:Adv X J s g s1 g1):Stb X J s1 v:=fun g2 s' g' h2=>h g2 s' g' ((ha.still g2).trans h2)
theorem Stb.env{s:St}{k:Nat}{v:SV}(h:lk k s.env=some v):Stb X J s v:=fun _ _ _ ha=>ha.den k v h
theorem Stb.obj{s:St}{o:Nat}{cs:List SV}(h:lk o s.objs=some cs):∀v∈cs,Stb X J s v:=fun v hv g s' g' ha=>by
 obtain⟨j,hj⟩:=List.mem_iff_getElem?.1 hv
 have:=ha.deno o cs h
 have e:∀g,(dens X J g cs)[j]? = some (v.den X J g):=fun g=>by rw[zRA,List.getElem?_map,hj];rfl
 have e1:=e g';rw[this,e g] at e1;exact(Option.some.inj e1).symm
theorem Stb.x{s:St}{k:Nat}{vi:VI}(h:lk k s.vars=some vi):Stb X J s (.x k):=fun _ _ _ ha=>(ha.ext.rv k vi h).2.1
theorem qMF{s:St}{n:Nat}(hf:s.freshV n=true)(v:Value)(hm:Nat×Nat):(∀k sv,lk k s.env=some sv->sv.den X J (g.setV n v hm)=sv.den X J g)/\(∀o cs,lk o s.objs=some cs->dens X J (g.setV n v hm) cs=dens X J g cs):=by
 simp only[St.freshV,baZ,List.all_eq_true,Bool.not_eq_true'] at hf;exact⟨fun k sv hk=>zID X J g n v hm sv (by simpa using hf.1.1.2 _ (zBB hk)),fun o cs ho=>xUB X J g n v hm cs (by simpa using hf.1.2 _ (zBB ho))⟩
theorem Fr.still(M:Nat->Prop)(w:World):Fr M w w:=Fr.refl M w
theorem yXF(h:Mem P X w0 J st g w)(he:Env X J st g a){x:SV}{u:Option VT}{d:DE}(hs:xPG P st x=some (u,d)){vt:VT}(hu:u=none∨u=some vt ∨ ∃t,(u=some (.own t)∨u=some (.tags t))/\vt = .set t)(hnil:qOC P vt x=true){de:DE}(hde:de.eval X J=d.eval X J)
  {k:Nat} {st':St} (ht:xHJ P st k ⟨vt,de⟩ x=some st') :
  ∃g',Adv X J st g st' g'/\Mem P X w0 J st' g' w/\Env X J st' g' a/\(SV.x k).den X J g'=x.den X J g /\ ∃vi,lk k st'.vars=some vi:=by
 have fin:∀ {st1:St} {v:Value},st1.env=st.env->st1.objs=st.objs->st1.loops=st.loops->st1.lvl=st.lvl->st1.nt=st.nt->st1.obl=st.obl->newV st1 ⟨vt,de⟩ k=some st' ->
   v=x.den X J g->Mem P X w0 J st' (g.setV k v (0,0)) w->Env X J st' (g.setV k v (0,0)) a->Ext st g st' (g.setV k v (0,0)) ->
   ∃g',Adv X J st g st' g'/\Mem P X w0 J st' g' w/\Env X J st' g' a/\(SV.x k).den X J g'=x.den X J g /\ ∃vi,lk k st'.vars=some vi:=by
  intro st1 v e1 e2 e3 e4 e5 e6 hn hv k1 k2 k3;unfold newV at hn;split at hn
  ·rename_i hf;cases hn;obtain⟨f1,f2⟩:=qMF (X:=X) (J:=J) (g:=g) hf v (0,0);exact⟨_,⟨e1,e2,e3,e4,e5,e6,k3,fun n sv hn=>f1 n sv (by rw[e1];exact hn),fun o cs ho=>f2 o cs (by rw[e2];exact ho)⟩,k1,k2,by simp[SV.den,Gh.setV,hv],⟨_,zIA⟩⟩
  ·cases hn
 have base:∀(n:Nat) (t:TypeId),lk n (Dx.settle1 st n).vars=some ⟨.set t,d⟩->vt = .set t->newV (Dx.settle1 st n) ⟨vt,de⟩ k=some st'->x = .x n ->
   ∃g',Adv X J st g st' g'/\Mem P X w0 J st' g' w/\Env X J st' g' a/\(SV.x k).den X J g'=x.den X J g /\ ∃vi,lk k st'.vars=some vi:=by
  intro n t hn hvt ht2 hx;subst hvt;subst hx
  obtain⟨hm1,_⟩:=h.settle1 n;have he1:Env X J (Dx.settle1 st n) g a:=he.settle (.x n);have kk:=yYE st n;have hv:=hm1.va n _ hn;have hadd:=xJC hm1 he1 (Fr.still (fun _=>False) w) ht2 (v:=g.rv n) (fun ok' h1 _=>by rw[hde];exact Rep.mono hv h1 (fun _ _=>rfl));exact fin kk.1 kk.2.1 kk.2.2.2.2.2.1 kk.2.2.2.1 kk.2.2.2.2.1 kk.2.2.1 ht2 rfl hadd.1 hadd.2.1 ((Ext.settle st g (.x n)).trans hadd.2.2.1)
 have settled:∀(n:Nat) (t:TypeId),lk n st.vars=some ⟨.own t,d⟩->x=x->newV (Dx.settle1 st n) ⟨.set t,de⟩ k=some st'->vt = .set t->x = .x n ->
   ∃g',Adv X J st g st' g'/\Mem P X w0 J st' g' w/\Env X J st' g' a/\(SV.x k).den X J g'=x.den X J g /\ ∃vi,lk k st'.vars=some vi:=fun n t hn _ ht hvt hx =>
  base n t (by simp[Dx.settle1,hn,zZA]) hvt (hvt▸ht) hx
 have settledT:∀(n:Nat) (t:TypeId),lk n st.vars=some ⟨.tags t,d⟩->x=x->newV (Dx.settle1 st n) ⟨.set t,de⟩ k=some st'->vt = .set t->x = .x n ->
   ∃g',Adv X J st g st' g'/\Mem P X w0 J st' g' w/\Env X J st' g' a/\(SV.x k).den X J g'=x.den X J g /\ ∃vi,lk k st'.vars=some vi:=fun n t hn _ ht hvt hx =>
  base n t (by simp[Dx.settle1,hn,zZA]) hvt (hvt▸ht) hx
 cases x with
 | c cv =>
  simp only[xHJ] at ht;have hvar:∀ok':Nat->Prop,qUA P ok' w vt (cv.den) (0,0) (de.eval X J)/\zFA vt cv.den=none:=by
   intro ok';rw[hde];cases cv <;> simp only[xPG,Option.some.injEq,Prod.mk.injEq,reduceCtorEq] at hs
   case nilp =>
    obtain⟨_,rfl⟩:=hs;cases vt with
    | set t =>
     simp only[qOC] at hnil;split at hnil
     ·rename_i e hu';exact⟨.pnil hu',rfl⟩
     ·cases hnil
    | _=>simp[qOC] at hnil
   case nils =>
    obtain⟨_,rfl⟩:=hs;cases vt with
    | set t =>
     obtain⟨e,i,hu',hi⟩:=zPB (t:=t) hnil;exact⟨.snil hu',rfl⟩
    | own t =>
     obtain⟨e,i,hu',hi⟩:=zPB (t:=t) hnil;exact⟨yRA.nilv hu' hi,rfl⟩
    | _=>simp[qOC] at hnil
   case nilm =>
    obtain⟨_,rfl⟩:=hs;cases vt with
    | set t =>
     obtain⟨k',e,hu'⟩:=qIB (m:=t) hnil;exact⟨.mnil hu',rfl⟩
    | tags t =>
     obtain⟨k',e,hu'⟩:=qIB (m:=t) hnil;exact⟨.nil hu',rfl⟩
    | _=>simp[qOC] at hnil
   case nilI =>
    obtain⟨_,rfl⟩:=hs;cases vt with
    | gi=>exact⟨.inr ⟨rfl,rfl⟩,rfl⟩
    | _=>simp[qOC] at hnil
  have hadd:=qOB h he (Fr.still (fun _=>False) w) (fun b _ e=>e.elim) (Drops.same st g) ht (v:=cv.den) (fun b hb=>by
   have:=(hvar (fun _=>True)).2
   simp only at hb;rw[this] at hb;cases hb) (fun ok' _ _=>(hvar ok').1)
  exact fin rfl rfl rfl rfl rfl rfl ht rfl hadd.1 hadd.2.1 hadd.2.2.1
 | x n =>
  simp only[xPG] at hs;simp only[xHJ] at ht;split at hs
  ·rename_i t d' hn;cases hs;have hvt:vt = .set t:=by
    rcases hu with hu|hu|⟨t',hu|hu,_⟩ <;> simp at hu
    exact hu.symm
   subst hvt;rw[hn] at ht;simp only at ht;have hv:=h.va n _ hn;have hadd:=xJC h he (Fr.still (fun _=>False) w) ht (v:=g.rv n) (fun ok' h1 _=>by rw[hde];exact Rep.mono hv h1 (fun _ _=>rfl));exact fin rfl rfl rfl rfl rfl rfl ht rfl hadd.1 hadd.2.1 hadd.2.2.1
  ·rename_i t d' hn;cases hs;rw[hn] at ht;simp only at ht;have hv:=h.va n _ hn;rcases hu with hu|hu|⟨t',hu|hu,rfl⟩
   ·cases hu
   ·cases hu;simp only[zYJ,bfZ,if_false] at ht;have hadd:=qOB h he (Fr.still (fun b=>zFA (.own t) (g.rv n)=some b) w) (fun b _ hb=>.inr ⟨n,_,hn,hb⟩) (Drops.kill h hn d st.obl) ht (v:=g.rv n) (fun b hb=>⟨.inr hb,h.va n _ hn |>.lt b hb⟩) (fun ok' h1 _=>by
     simp only;rw[hde];exact yRA.mono hv h1 (fun _ _=>rfl) (fun _ _=>rfl))
    exact fin (st1:={ st with vars:=upd n ⟨.dead,d⟩ st.vars }) rfl rfl rfl rfl rfl rfl ht rfl hadd.1 hadd.2.1 hadd.2.2.1
   ·cases hu;simp only[zYJ,if_true] at ht;exact settled n t hn rfl ht rfl rfl
   ·cases hu
  ·rename_i t d' hn;cases hs;rw[hn] at ht;simp only at ht;have hv:=h.va n _ hn;rcases hu with hu|hu|⟨t',hu|hu,rfl⟩
   ·cases hu
   ·cases hu;simp only[zYJ,bfZ,if_false] at ht;have hadd:=qOB h he (Fr.still (fun b=>zFA (.tags t) (g.rv n)=some b) w) (fun b _ hb=>.inr ⟨n,_,hn,hb⟩) (Drops.kill h hn d st.obl) ht (v:=g.rv n) (fun b hb=>⟨.inr hb,h.va n _ hn |>.lt b hb⟩) (fun ok' h1 _=>by
     simp only;rw[hde];exact TagsAt.mono hv h1 (fun _ _=>rfl) (fun _ _=>rfl))
    exact fin (st1:={ st with vars:=upd n ⟨.dead,d⟩ st.vars }) rfl rfl rfl rfl rfl rfl ht rfl hadd.1 hadd.2.1 hadd.2.2.1
   ·cases hu
   ·cases hu;simp only[zYJ,if_true] at ht;exact settledT n t hn rfl ht rfl rfl
  ·rename_i d' hn;cases hs;have hvt:vt = .gi:=by
    rcases hu with hu|hu|⟨t',hu|hu,_⟩ <;> simp at hu
    exact hu.symm
   subst hvt;rw[hn] at ht;simp only at ht;have hv:=h.va n _ hn;have hadd:=qOB h he (Fr.still (fun _=>False) w) (fun b _ e=>e.elim) (Drops.same st g) ht (v:=g.rv n) (fun b hb=>by simp[zFA] at hb) (fun ok' _ _=>by simp only[qUA];rw[hde];exact hv);exact fin rfl rfl rfl rfl rfl rfl ht rfl hadd.1 hadd.2.1 hadd.2.2.1
  ·cases hs
 | xc n j =>
  simp only[xPG] at hs;simp only[xHJ] at ht;split at hs
  ·rename_i vi hn;split at hs
   ·rename_i t hr;split at hs
    ·rename_i ct hj;cases hs;have hvt:vt = .set ct:=by
      rcases hu with hu|hu|⟨t',hu|hu,_⟩ <;> simp at hu
      exact hu.symm
     subst hvt;have hv:=h.cell hn hr hj;have hadd:=xJC h he (Fr.still (fun _=>False) w) ht (v:=(SV.xc n j).den X J g) (fun ok' h1 _=>by rw[hde];exact Rep.mono hv h1 (fun _ _=>rfl));exact fin rfl rfl rfl rfl rfl rfl ht rfl hadd.1 hadd.2.1 hadd.2.2.1
    ·cases hs
   ·cases hs
  ·cases hs
 | _=>simp[xPG] at hs
def Ms.side(m:Ms)(b:Bool):St:=if b then m.s1 else m.s2
def sel{α:Type}(b:Bool)(x y:α):α:=if b then x else y
theorem xOB(c d e:DE):(mkf .ite [c,d,e]).eval X J=if (c.eval X J).asBool then d.eval X J else e.eval X J:=by
 rw[zEA];simp[zDA,Fn.eval]
theorem vtOf_eq{u v:Option VT}{w:VT}(h:vtOf u v=some w):(u=none∨u=some w ∨ ∃t,(u=some (.own t)∨u=some (.tags t))/\w = .set t)/\(v=none∨v=some w ∨ ∃t,(v=some (.own t)∨v=some (.tags t))/\w = .set t):=by
 cases u with
 | none =>
  cases v with
  | none=>simp[vtOf] at h
  | some v=>simp[vtOf] at h;subst h;simp
 | some u =>
  cases v with
  | none=>simp[vtOf] at h;subst h;simp
  | some v =>
   simp only[vtOf] at h;split at h
   ·rename_i huv;cases h;subst huv;simp
   ·split at h
    ·split at h
     ·rename_i ht;cases h;subst ht;simp
     ·cases h
    ·split at h
     ·rename_i ht;cases h;subst ht;simp
     ·cases h
    ·split at h
     ·rename_i ht;cases h;subst ht;simp
     ·cases h
    ·split at h
     ·rename_i ht;cases h;subst ht;simp
     ·cases h
    ·cases h
theorem yKJ(P:Program)(st:St)(s:SV):norm P st s=s∨(∃k e,norm P st s = .i k e)∨(∃e,norm P st s = .b e)∨(∃e,norm P st s = .s e)∨(∃e,norm P st s = .fl e):=by
 cases s with
 | xc n j =>
  unfold norm;simp only;split
  ·split
   ·split
    ·unfold qNJ;split
     ·exact .inr (.inl ⟨_,_,rfl⟩)
     ·exact .inr (.inr (.inl ⟨_,rfl⟩))
     ·exact .inr (.inr (.inr (.inl ⟨_,rfl⟩)))
     ·exact .inr (.inr (.inr (.inr ⟨_,rfl⟩)))
     ·exact .inl rfl
    ·exact .inl rfl
   ·exact .inl rfl
  ·exact .inl rfl
 | _=>exact .inl rfl
theorem Stb.norm{s:St}{v:SV}(h:Stb X J s v):Stb X J s (norm P s v):=by
 rcases yKJ P s v with e|⟨k,x,e⟩|⟨x,e⟩|⟨x,e⟩|⟨x,e⟩
 ·rw[e];exact h
 ·rw[e];exact fun _ _ _ _=>rfl
 ·rw[e];exact fun _ _ _ _=>rfl
 ·rw[e];exact fun _ _ _ _=>rfl
 ·rw[e];exact fun _ _ _ _=>rfl
theorem zZF{c:DE}{m m':Ms}{x y v:SV}(bb:Bool)(hc:(c.eval X J).asBool=bb)(h:Mem P X w0 J (m.side bb) g w)(he:Env X J (m.side bb) g a)(hx:(sel bb x y).ok X J)(hst:Stb X J (m.side bb) (sel bb x y))(hp:phi P c m x y=some (v,m')) :
  ∃g',Adv X J (m.side bb) g (m'.side bb) g'/\Mem P X w0 J (m'.side bb) g' w/\Env X J (m'.side bb) g' a/\v.den X J g'=(sel bb x y).den X J g'/\v.ok X J/\Stb X J (m'.side bb) v:=by
 unfold phi at hp;split at hp
 ·rename_i hb;cases hp;have e:=SV.beq_eq (Bool.and_eq_true_iff.1 hb).1;subst e;have e2:sel bb x x=x:=by cases bb <;> rfl
  rw[e2] at hx hst ⊢;exact⟨g,Adv.refl ..,h,he,rfl,hx,hst⟩
 ·skip
  have hnx:(sel bb (norm P m.s1 x) (norm P m.s2 y))=norm P (m.side bb) (sel bb x y):=by cases bb <;> rfl
  obtain⟨hnd,hnok⟩:=qZF h (sel bb x y) hx;have hnst:=hst.norm (P:=P);rw[<- hnx] at hnd hnok hnst;generalize norm P m.s1 x=x' at *;generalize norm P m.s2 y=y' at *;have scal:∀v':SV,Stb X J (m.side bb) v'->v'.den X J g=(sel bb x' y').den X J g->v'.ok X J->m'=m->v=v' ->
    ∃g',Adv X J (m.side bb) g (m'.side bb) g'/\Mem P X w0 J (m'.side bb) g' w/\Env X J (m'.side bb) g' a/\v.den X J g'=(sel bb x y).den X J g'/\v.ok X J/\Stb X J (m'.side bb) v:=by
   intro v' h1 h2 h3 h4 h5;subst h4;subst h5
   exact⟨g,Adv.refl ..,h,he,h2.trans hnd,h3,h1⟩
  split at hp
  ·rename_i k d k' e;split at hp
   ·rename_i hk;subst hk;cases hp;refine scal _ (fun _ _ _ _=>rfl) ?_ ?_ rfl rfl
    ·simp only[SV.den,xOB,hc];cases bb <;> simp[sel,SV.den]
    ·simp only[SV.ok,SV.okk,xOB,hc];cases bb <;> simpa[sel,SV.ok,SV.okk] using hnok
   ·cases hp
  ·cases hp;refine scal _ (fun _ _ _ _=>rfl) ?_ ?_ rfl rfl
   ·simp only[SV.den,xOB,hc];cases bb <;> simp[sel,SV.den]
   ·simp only[SV.ok,SV.okk,xOB,hc];cases bb <;> simpa[sel,SV.ok,SV.okk] using hnok
  ·cases hp;refine scal _ (fun _ _ _ _=>rfl) ?_ ?_ rfl rfl
   ·simp only[SV.den,xOB,hc];cases bb <;> simp[sel,SV.den]
   ·simp only[SV.ok,SV.okk,xOB,hc];cases bb <;> simpa[sel,SV.ok,SV.okk] using hnok
  ·cases hp;refine scal _ (fun _ _ _ _=>rfl) ?_ ?_ rfl rfl
   ·simp only[SV.den,xOB,hc];cases bb <;> simp[sel,SV.den]
   ·simp only[SV.ok,SV.okk,xOB,hc];cases bb <;> simpa[sel,SV.ok,SV.okk] using hnok
  ·split at hp
   ·rename_i u d v' e hs1 hs2;split at hp
    ·rename_i vt hvt;obtain⟨hu,hv⟩:=vtOf_eq hvt;split at hp
     ·rename_i hnil;simp only[baZ] at hnil;split at hp
      ·rename_i s1 s2 ht1 ht2;cases hp;cases bb with
       | true =>
        simp only[Ms.side,sel,if_true] at h he hx hst hnd hnok hnst ⊢;obtain⟨g',k1,k2,k3,k4,vi,k5⟩:=yXF h he hs1 hu hnil.1 (by rw[xOB,hc];rfl) ht1;exact⟨g',k1,k2,k3,by rw[k4,hnd];exact(hst g _ g' k1).symm,trivial,Stb.x k5⟩
       | false =>
        simp only[Ms.side,sel,bfZ,if_false] at h he hx hst hnd hnok hnst ⊢;obtain⟨g',k1,k2,k3,k4,vi,k5⟩:=yXF h he hs2 hv hnil.2 (by rw[xOB,hc];rfl) ht2;exact⟨g',k1,k2,k3,by rw[k4,hnd];exact(hst g _ g' k1).symm,trivial,Stb.x k5⟩
      ·cases hp
     ·cases hp
    ·cases hp
   ·cases hp
theorem zVE{c:DE}(bb:Bool)(hc:(c.eval X J).asBool=bb):∀ {l r:List SV} {m m':Ms} {vs:List SV} {g:Gh},Mem P X w0 J (m.side bb) g w->Env X J (m.side bb) g a->oks X J (sel bb l r)->(∀v∈sel bb l r,Stb X J (m.side bb) v) ->
  phis P c m l r=some (vs,m') ->
  ∃g',Adv X J (m.side bb) g (m'.side bb) g'/\Mem P X w0 J (m'.side bb) g' w/\Env X J (m'.side bb) g' a/\dens X J g' vs=dens X J g' (sel bb l r)/\oks X J vs/\(∀v∈vs,Stb X J (m'.side bb) v)
 | [],[],m,m',vs,g,h,he,_,_,hp=>by
  simp only[phis,Option.some.injEq,Prod.mk.injEq] at hp;obtain⟨rfl,rfl⟩:=hp;exact⟨g,Adv.refl ..,h,he,by cases bb <;> rfl,trivial,by simp⟩
 | [],_::_,_,_,_,_,_,_,_,_,hp=>by simp[phis] at hp
 | _::_,[],_,_,_,_,_,_,_,_,hp=>by simp[phis] at hp
 | x::l,y::r,m,m',vs,g,h,he,hok,hst,hp=>by
  simp only[phis] at hp;split at hp
  ·rename_i v m1 h1;split at hp
   ·rename_i vs' m2 h2;cases hp;have e:sel bb (x::l) (y::r)=sel bb x y::sel bb l r:=by cases bb <;> rfl
    rw[e] at hok hst ⊢;obtain⟨g1,k1,k2,k3,k4,k5,k6⟩:=zZF bb hc h he hok.1 (hst _ (by simp)) h1;obtain⟨g2,q1,q2,q3,q4,q5,q6⟩:=zVE bb hc (l:=l) (r:=r) k2 k3 hok.2 (fun v hv=>(hst v (List.mem_cons_of_mem _ hv)).adv k1) h2;refine⟨g2,k1.trans q1,q2,q3,?_,⟨k5,q5⟩,fun v' hv'=>?_⟩
    ·simp only[dens];rw[q4,k6 g1 _ g2 q1,k4]
     congr 1
     exact(((hst (sel bb x y) (by simp)).adv k1) g1 _ g2 q1).symm
    ·rcases List.mem_cons.1 hv' with rfl|hv'
     ·exact k6.adv q1
     ·exact q6 v' hv'
   ·cases hp
  ·cases hp
theorem xZD{s s':St}{g g':Gh}(ha:Adv X J s g s' g'):∀ {l:List SV},(∀v∈l,Stb X J s v)->dens X J g' l=dens X J g l
 | [],_=>rfl
 | v::l,h=>by simp only[dens];rw[h v (by simp) g s' g' ha,xZD ha (fun u hu=>h u (List.mem_cons_of_mem _ hu))]
theorem yPJ{c:DE}{m m':Ms}{x y v:SV}(bb:Bool)(hc:(c.eval X J).asBool=bb)(h:Mem P X w0 J (m.side bb) g w)(he:Env X J (m.side bb) g a)(hx:(sel bb x y).ok X J)(hst:Stb X J (m.side bb) (sel bb x y))(hp:phiA P c m x y=some (v,m')) :
  ∃g',Adv X J (m.side bb) g (m'.side bb) g'/\Mem P X w0 J (m'.side bb) g' w/\Env X J (m'.side bb) g' a/\v.den X J g'=(sel bb x y).den X J g'/\v.ok X J/\Stb X J (m'.side bb) v:=by
 unfold phiA at hp;split at hp
 ·exact zZF bb hc h he hx hst hp
 ·split at hp
  ·rename_i l r _;split at hp
   ·rename_i vs m1 hps;cases hp;have e:sel bb (SV.agg l) (SV.agg r) = .agg (sel bb l r):=by cases bb <;> rfl
    rw[e] at hx hst ⊢;have hst':∀u∈sel bb l r,Stb X J (m.side bb) u:=fun u hu g0 s' g' ha=>by
     have hs:=hst g0 s' g' ha;simp only[SV.den,Value.agg.injEq] at hs;have hs:=congrArg Array.toList hs;simp only at hs;obtain⟨j,hj⟩:=List.mem_iff_getElem?.1 hu;have e2:∀g,(dens X J g (sel bb l r))[j]? = some (u.den X J g):=fun g=>by rw[zRA,List.getElem?_map,hj];rfl
     have e3:=e2 g';rw[hs,e2 g0] at e3;exact(Option.some.inj e3).symm
    simp only[SV.ok] at hx;obtain⟨g1,k1,k2,k3,k4,k5,k6⟩:=zVE bb hc (l:=l) (r:=r) h he hx hst' hps;refine⟨g1,k1,k2,k3,by simp only[SV.den];rw[k4],k5,fun g0 s' g' ha=>?_⟩;simp only[SV.den];rw[xZD ha k6]
   ·cases hp
  ·exact zZF bb hc h he hx hst hp
theorem yVB{c:DE}(bb:Bool)(hc:(c.eval X J).asBool=bb):∀ {os:List (Nat×List SV)} {m:Ms} {g:Gh},Mem P X w0 J (m.side bb) g w->Env X J (m.side bb) g a ->
  ∃g',Adv X J (m.side bb) g ((qQA P c m os).2.side bb) g'/\Mem P X w0 J ((qQA P c m os).2.side bb) g' w/\Env X J ((qQA P c m os).2.side bb) g' a /\
   (∀o l,lk o (qQA P c m os).1=some l -> ∃cs,lk o (m.side bb).objs=some cs/\dens X J g' cs=dens X J g' l/\oks X J l /\ ∀v∈l,Stb X J ((qQA P c m os).2.side bb) v)
 | [],m,g,h,he=>⟨g,Adv.refl ..,h,he,by simp[qQA,yTA,yLA]⟩
 | (o,x)::os,m,g,h,he=>by
  simp only[qQA];split
  ·rename_i ca cb h1 h2;split
   ·rename_i l m1 hl;have hlk:lk o (m.side bb).objs=some (sel bb ca cb):=by cases bb <;> simpa[Ms.side,sel]
    obtain⟨g1,k1,k2,k3,k4,k5,k6⟩:=zVE bb hc (l:=ca) (r:=cb) h he (h.ob o _ hlk).2.2 (Stb.obj hlk) hl;obtain⟨g2,q1,q2,q3,q4⟩:=yVB bb hc (os:=os) (m:=m1) k2 k3;refine⟨g2,k1.trans q1,q2,q3,fun p l' hp'=>?_⟩;by_cases hop:o=p
    ·subst hop;simp only[zIA,Option.some.injEq] at hp';subst hp';refine⟨_,hlk,?_,k5,fun v hv=>(k6 v hv).adv q1⟩;rw[xZD q1 k6,k4];exact xZD q1 (fun v hv=>((Stb.obj hlk) v hv).adv k1)
    ·simp only[zHA hop] at hp';obtain⟨cs,e1,e2,e3,e4⟩:=q4 p l' hp';exact⟨cs,by rw[k1.objs] at e1;exact e1,e2,e3,e4⟩
   ·exact yVB bb hc h he
  ·exact yVB bb hc h he
theorem xPB{c:DE}(bb:Bool)(hc:(c.eval X J).asBool=bb):∀ {es:List (Nat×SV)} {m:Ms} {g:Gh},Mem P X w0 J (m.side bb) g w->Env X J (m.side bb) g a ->
  ∃g',Adv X J (m.side bb) g ((yUB P c m es).2.side bb) g'/\Mem P X w0 J ((yUB P c m es).2.side bb) g' w/\Env X J ((yUB P c m es).2.side bb) g' a /\
   (∀s v,lk s (yUB P c m es).1=some v -> ∃sv,lk s (m.side bb).env=some sv/\sv.den X J g'=v.den X J g'/\v.ok X J)
 | [],m,g,h,he=>⟨g,Adv.refl ..,h,he,by simp[yUB,yTA,yLA]⟩
 | (s,x)::es,m,g,h,he=>by
  simp only[yUB];split
  ·rename_i ea eb h1 h2;split
   ·rename_i v m1 hv;have hlk:lk s (m.side bb).env=some (sel bb ea eb):=by cases bb <;> simpa[Ms.side,sel]
    obtain⟨g1,k1,k2,k3,k4,k5,k6⟩:=yPJ bb hc h he (he.tm s _ hlk).2 (Stb.env hlk) hv;obtain⟨g2,q1,q2,q3,q4⟩:=xPB bb hc (es:=es) (m:=m1) k2 k3;refine⟨g2,k1.trans q1,q2,q3,fun t u ht=>?_⟩;by_cases hst:s=t
    ·subst hst;simp only[zIA,Option.some.injEq] at ht;subst ht;refine⟨_,hlk,?_,k5⟩;rw[k6 g1 _ g2 q1,k4];exact((Stb.env hlk).adv k1) g1 _ g2 q1
    ·simp only[zHA hst] at ht;obtain⟨sv,e1,e2,e3⟩:=q4 t u ht;exact⟨sv,by rw[k1.env] at e1;exact e1,e2,e3⟩
   ·exact xPB bb hc h he
  ·exact xPB bb hc h he
theorem zPC{s1 s2:St}:∀ {l:List (Nat×VI)} {n:Nat} {vi:VI},lk n (xXB s1 s2 l)=some vi->vi.vt = .dead∨(lk n s1.vars=some vi /\ ∃vj,lk n s2.vars=some vj/\vi.vt=vj.vt/\vi.de=vj.de)
 | [],_,_,h=>by simp[xXB,yTA,yLA] at h
 | (k,x)::l,n,vi,h=>by
  simp only[xXB] at h;split at h
  ·rename_i a b h1 h2;by_cases hk:k=n
   ·subst hk;rw[zIA] at h;simp only[Option.some.injEq] at h;split at h
    ·rename_i hc;subst h;exact .inr ⟨h1,b,h2,hc.1,DE.beq_eq hc.2⟩
    ·subst h;exact .inl rfl
   ·rw[zHA hk] at h;exact zPC h
  ·by_cases hk:k=n
   ·subst hk;rw[zIA] at h;cases h;exact .inl rfl
   ·rw[zHA hk] at h;exact zPC h
theorem yKD{s1 s2:St}:∀ {l:List (Nat×VI)} {n:Nat} {vi:VI},lk n l=some vi -> ∃vj,lk n (xXB s1 s2 l)=some vj
 | [],_,_,h=>by simp[yTA,yLA] at h
 | (k,x)::l,n,vi,h=>by
  simp only[xXB];by_cases hk:k=n
  ·subst hk;split <;> exact⟨_,zIA⟩
  ·rw[zHA hk] at h;obtain⟨vj,hj⟩:=yKD (s1:=s1) (s2:=s2) h;split <;> exact⟨vj,by rw[zHA hk];exact hj⟩
theorem zXA{α β:Type}{l:List (Nat×α)}{r:List (Nat×β)}{ms:List Nat}(h:qKD l r ms=true){n:Nat}{x:α}(hn:lk n l=some x):(∃y,lk n r=some y)/\n∉ms:=by
 have:=List.all_eq_true.1 h _ (zBB hn)
 simp only[baZ,Bool.not_eq_true'] at this;refine⟨Option.isSome_iff_exists.1 this.1,fun hm=>?_⟩;have h2:ms.elem n=true:=List.elem_eq_true_of_mem hm;rw[h2] at this;cases this.2
theorem yCB{c:DE}{s0 s1 s2 m:St}{g0:Gh}(bb:Bool)(hc:(c.eval X J).asBool=bb)(h:Mem P X w0 J (sel bb s1 s2) g w)(he:Env X J (sel bb s1 s2) g a)(hx:Ext s0 g0 (sel bb s1 s2) g)(hm:xMF P c s0 s1 s2=some m) :
  ∃g',Mem P X w0 J m g' w/\Env X J m g' a/\Ext s0 g0 m g':=by
 unfold xMF at hm;split at hm
 ·rename_i hcond;obtain⟨hl1,hl2,hn1,hn2,hp1,hp2⟩:=hcond;simp only at hm;split at hm
  ·rename_i hkeys;cases hm;simp only[baZ] at hkeys;have hside:(Ms.side ⟨s1,s2,max s1.nx s2.nx⟩ bb)=sel bb s1 s2:=by cases bb <;> rfl
   obtain⟨g1,k1,k2,k3,k4⟩:=yVB (os:=s1.objs) (m:=⟨s1,s2,max s1.nx s2.nx⟩) bb hc (by rw[hside];exact h) (by rw[hside];exact he);generalize hmo:qQA P c ⟨s1,s2,max s1.nx s2.nx⟩ s1.objs=r at k1 k2 k3 k4 hkeys;obtain⟨g2,q1,q2,q3,q4⟩:=xPB bb hc (es:=s1.env) (m:=r.2) k2 k3;rw[hside] at k1 k4;have hall:=k1.trans q1;generalize hq:yUB P c r.2 s1.env=q at q1 q2 q3 q4 hall hkeys;have hlvl:(sel bb s1 s2).lvl=s0.lvl:=by cases bb <;> assumption
   have hnt:(sel bb s1 s2).nt=s0.nt:=by cases bb <;> assumption
   have hlps:(sel bb s1 s2).loops=s0.loops:=by cases bb;exact qMD hp2;exact qMD hp1
   have hobjs:∀o cs,lk o r.1=some cs -> ∃cs',lk o (q.2.side bb).objs=some cs'/\dens X J g2 cs'=dens X J g2 cs/\oks X J cs:=fun o cs ho=>by
    obtain⟨cs',e1,e2,e3,e4⟩:=k4 o cs ho;refine⟨cs',by rw[hall.objs];exact e1,?_,e3⟩;rw[q1.deno o cs' (by rw[k1.objs];exact e1),e2];exact(xZD q1 e4).symm
   refine⟨g2,q2.weaken (by rw[hall.lvl,hlvl]) (fun l hl=>by rw[hall.loops,hlps];exact hl) (fun n vi hn=>?_) hobjs,⟨fun s v hs=>?_,q3.df,?_⟩,⟨fun n vi hn=>?_,fun o cs ho=>?_⟩⟩
   ·rcases zPC hn with hd|⟨h1,vj,h2,h3,h4⟩
    ·exact .inl hd
    ·right;cases bb with
     | true=>exact⟨vi,h1,rfl,rfl⟩
     | false=>exact⟨vj,h2,h3.symm,by rw[h4]⟩
   ·obtain⟨sv,e1,e2,e3⟩:=q4 s v hs;obtain⟨t1,t2⟩:=q3.tm s sv (by rw[q1.env];exact e1);exact⟨by rw[t1,e2],e3⟩
   ·rw[q3.sz,hall.nt,hnt]
   ·obtain⟨e1,e2,e3⟩:=(hx.trans hall.ext).rv n vi hn;obtain⟨⟨y,hy⟩,_⟩:=zXA hkeys.2 hn;exact⟨yKD hy,e2,e3⟩
   ·obtain⟨e1,e2⟩:=(hx.trans hall.ext).rb o cs ho;exact⟨(zXA hkeys.1 ho).1,e2⟩
  ·cases hm
 ·cases hm
theorem xED{d:Nat}{e:DE}:∀ {pc:Pc} {b:Bool} {pc':Pc},zOH d e pc=some (b,pc')->PcH X J pc->(e.eval X J).asBool=b/\PcH X J pc'
 | [],_,_,h,_=>by simp[zOH] at h
 | (d',e',b')::r,b,pc',h,hp=>by
  simp only[zOH] at h;split at h
  ·split at h
   ·rename_i he;cases h
    have:=hp (d',e',b') (by simp)
    rw[DE.beq_eq he];exact⟨this,fun x hx=>hp x (List.mem_cons_of_mem _ hx)⟩
   ·cases h
  ·split at h
   ·rename_i b2 r2 h2;cases h;obtain⟨k1,k2⟩:=xED h2 (fun x hx=>hp x (List.mem_cons_of_mem _ hx));refine⟨k1,fun x hx=>?_⟩;rcases List.mem_cons.1 hx with rfl|hx
    ·exact hp _ (by simp)
    ·exact k2 x hx
   ·cases h
theorem xDD{d:Nat}{e:DE}:∀ {l t f:List (Pc×St)},zNH d e l=some (t,f) -> ∀p∈l,PcH X J p.1 -> ∃b pc',(e.eval X J).asBool=b/\PcH X J pc'/\(pc',p.2)∈sel b t f
 | [],_,_,_,p,hp,_=>by cases hp
 | q::l,t,f,h,p,hp,hpc=>by
  simp only[zNH] at h;split at h
  ·rename_i pc t' f' h1 h2;cases h;rcases List.mem_cons.1 hp with rfl|hp
   ·obtain⟨k1,k2⟩:=xED h1 hpc;exact⟨true,pc,k1,k2,by simp[sel]⟩
   ·obtain⟨b,pc',k1,k2,k3⟩:=xDD h2 p hp hpc;exact⟨b,pc',k1,k2,by cases b <;> simp[sel] at k3 ⊢ <;> simp[k3]⟩
  ·rename_i pc t' f' h1 h2;cases h;rcases List.mem_cons.1 hp with rfl|hp
   ·obtain⟨k1,k2⟩:=xED h1 hpc;exact⟨false,pc,k1,k2,by simp[sel]⟩
   ·obtain⟨b,pc',k1,k2,k3⟩:=xDD h2 p hp hpc;exact⟨b,pc',k1,k2,by cases b <;> simp[sel] at k3 ⊢ <;> simp[k3]⟩
  ·cases h
theorem yXE{l:List (Pc×St)}:∀ {pc:Pc} {d:Nat} {e:DE} {t f:List (Pc×St)},zXF l pc=some (d,e,t,f)->zNH d e l=some (t,f)
 | [],_,_,_,_,h=>by simp[zXF] at h
 | (d',e',_)::r,d,e,t,f,h=>by
  simp only[zXF] at h;split at h
  ·rename_i t' f' h1;cases h;exact h1
  ·exact yXE h
theorem qYD:∀(l m:List Ob),l.take (zYB l m)=m.take (zYB l m)
 | [],_=>by simp[zYB]
 | _::_,[]=>by simp[zYB]
 | a::as,b::bs=>by
  simp only[zYB];split
  ·rename_i h;rw[Ob.beq_eq h,List.take_succ_cons,List.take_succ_cons,qYD as bs]
  ·simp
theorem yOF:∀(l m:List Ob),zYB l m<=l.length/\zYB l m<=m.length
 | [],_=>by simp[zYB]
 | _::_,[]=>by simp[zYB]
 | a::as,b::bs=>by
  simp only[zYB]
  have:=yOF as bs
  split
  ·simp only[List.length_cons];omega
  ·simp
theorem yEH(l m:List Ob):l.drop (l.length-yNF l m)=m.drop (m.length-yNF l m):=by
 have h1:=qYD l.reverse m.reverse;have h2:=yOF l.reverse m.reverse;simp only[List.length_reverse] at h2;have h3:=congrArg List.reverse h1;rw[List.take_reverse,List.take_reverse,List.reverse_reverse,List.reverse_reverse] at h3;exact h3
theorem xEF{c:DE}{b:Bool}{l:List Ob}(h:zCA X Pre (zAJ c b l) J)(hc:(c.eval X J).asBool=b):zCA X Pre l J:=by
 unfold zAJ at h;split at h
 ·rename_i he
  have:l=[]:=by simpa using he
  rw[this];trivial
 ·exact h.1 hc
theorem xZA{c:DE}{l m:List Ob}(h:zCA X Pre (qPA c l m) J):((c.eval X J).asBool=true->zCA X Pre l J)/\((c.eval X J).asBool=false->zCA X Pre m J):=by
 unfold qPA at h;simp only at h;rw[zPA,zPA] at h;obtain⟨h1,h2,h3⟩:=h;refine⟨fun hc=>?_,fun hc=>?_⟩
 ·have:=xEF h1 hc
  rw[<- List.take_append_drop (l.length-yNF l m) l,zPA];exact⟨this,h3⟩
 ·have:=xEF h2 hc
  rw[<- List.take_append_drop (m.length-yNF l m) m,zPA];rw[yEH] at h3;exact⟨this,h3⟩
theorem qPD{c:DE}{s0 s1 s2 m:St}(hm:xMF P c s0 s1 s2=some m):m.obl=qPA c s1.obl s2.obl++s0.obl:=by
 unfold xMF at hm;split at hm
 ·simp only at hm;split at hm
  ·cases hm;rfl
  ·cases hm
 ·cases hm
theorem qEB{st0:St}{g0:Gh}:∀ {n:Nat} {ps:List (Pc×St)} {m:St},zHE P st0 n ps=some m->zCA X Pre m.obl J -> ∀p∈ps,PcH X J p.1 ->
  zCA X Pre p.2.obl J /\ ∀(g:Gh) (w:World) (a:Act),Mem P X w0 J p.2 g w->Env X J p.2 g a->Ext st0 g0 p.2 g -> ∃g',Mem P X w0 J m g' w/\Env X J m g' a/\Ext st0 g0 m g'
 | n,ps,m,h,hob,p,hp,hpc=>by
  unfold zHE at h;split at h
  ·cases h;simp only[List.mem_singleton] at hp;subst hp;exact⟨hob,fun g w a h1 h2 h3=>⟨g,h1,h2,h3⟩⟩
  ·cases h
  ·rename_i n q l _;split at h
   ·rename_i d e t f hr;split at h
    ·rename_i s1 s2 h1 h2;obtain⟨b,pc',k1,k2,k3⟩:=xDD (X:=X) (J:=J) (yXE hr) p hp hpc;rw[qPD h] at hob;obtain⟨w1,w2⟩:=xZA (zPA.1 hob).1;cases b with
     | true =>
      obtain⟨i1,i2⟩:=qEB (g0:=g0) h1 (w1 k1) (pc',p.2) k3 k2;refine⟨i1,fun g w a m1 m2 m3=>?_⟩;obtain⟨g',q1,q2,q3⟩:=i2 g w a m1 m2 m3;exact yCB true k1 q1 q2 q3 h
     | false =>
      obtain⟨i1,i2⟩:=qEB (g0:=g0) h2 (w2 k1) (pc',p.2) k3 k2;refine⟨i1,fun g w a m1 m2 m3=>?_⟩;obtain⟨g',q1,q2,q3⟩:=i2 g w a m1 m2 m3;exact yCB false k1 q1 q2 q3 h
    ·cases h
   ·cases h
  ·cases h
theorem zEI{C:Cfg}{callF:CallF}{ops:Array Oper}{draw:Bool}{big:Nat}{st':St}(h:yFF C callF ops draw big st=some st'):∀x∈st.obl,x∈st'.obl:=by
 unfold yFF at h;split at h
 ·split at h
  ·cases h;exact fun x hx=>List.mem_append_right _ hx
  ·cases h
 ·cases h
theorem xJG{C:Cfg}{callF:CallF}(hnm:yWA C.P)(hord:C.P.follows .mixedOrders=true)(hcall:xSC C.P X Pre (qVA C callF)){id:Nat}{ops:Array Oper}{draw:Bool}{big:Nat}{st':St}(h:Mem C.P X w0 J st g w)(he:Env X J st g a)
  (hr:yFF C callF ops draw big st=some st') (hob:zCA X Pre st'.obl J) {Q:Exit->Act->World->Prop} (hQ:∀g' w' a',Ext st g st' g'->Mem C.P X w0 J st' g' w'->Env X J st' g' a'->Q .normal a' w'):(Code.region id ops draw).wp C.P Q a w:=by
 unfold yFF at hr;simp only[zJG] at hr;split at hr
 ·rename_i ps hps;split at hr
  ·rename_i m hc;cases hr;have hobm:zCA X Pre m.obl J:=(zPA.1 hob).1;generalize hs0:({ st with obl:=[],nx:=st.nx+ops.size*big }:St)=s0 at hps hc;have hm0:Mem C.P X w0 J s0 g w:=by rw[<- hs0];exact h.same rfl rfl rfl rfl
   have he0:Env X J s0 g a:=by rw[<- hs0];exact he.of_env rfl rfl
   have hX0:∀ {t:St} {g':Gh},Ext s0 g t g'->Ext st g t g':=fun hx=>hx.same (s2:=st) (by rw[<- hs0]) (by rw[<- hs0])
   have hall:=fun q (hq:q∈ps) (hqc:PcH X J q.1)=>qEB (w0:=w0) (g0:=g) hc hobm q hq hqc
   have hnext:∀q∈ps,PcH X J q.1 -> ∀g' w' a',Ext s0 g q.2 g'->Mem C.P X w0 J q.2 g' w'->Env X J q.2 g' a'->Q .normal a' w':=fun q hq hqc g' w' a' k1 k2 k3=>by
    obtain⟨g2,m1,m2,m3⟩:=(hall q hq hqc).2 g' w' a' k2 k3 k1;exact hQ g2 w' a' ((hX0 m3).same' rfl rfl) (m1.same rfl rfl rfl rfl) (m2.of_env rfl rfl)
   cases draw with
   | true =>
    simp only[if_true] at hps;refine Code.wp_mono (Q:=fun e a w=>e = .normal/\Q e a w) (fun _ _ _ h=>h.2) (wp_region_any hord ?_);have hdrew:Mem C.P X w0 J s0 g { w with drawn:=w.drawn+1 }:=hm0.frame (Fr.drew (fun _=>False) w);obtain⟨q,hq,j1,j2,j3,j4,j5⟩:=zQB (ops:=ops) (is:=Region.ready .any ops (Array.replicate ops.size false)) (n:=6) (pc:=[]) hdrew he0 (fun _ hx=>by cases hx)
    have:=qUC (Q:=fun e a w=>e = .normal/\Q e a w) hnm hcall (fun _ _ _ h=>absurd h.1 (by simp)) hps (fun q hq hqc=>(hall q hq hqc).1) (List.replicate ops.size false,q) (List.mem_map.2 ⟨q,hq,rfl⟩) (yLE _ _) j1 g { w with drawn:=w.drawn+1 } a j2 j3
     (fun q' hq' hqc' g2 w2 a2 m1 m2 m3=>⟨rfl,hnext q' hq' hqc' g2 w2 a2 (j4.trans m1) m2 m3⟩)
    simpa using this
   | false =>
    simp only[bfZ,if_false] at hps;exact wp_region_list (xRC hnm hcall hps (fun q hq hqc=>(hall q hq hqc).1) ([],s0) (List.mem_singleton.2 rfl) (fun _ hx=>by cases hx) g w a hm0 he0 hnext)
  ·cases hr
 ·cases hr
theorem xKG{C:Cfg}{callF:CallF}{ops:Array Oper}{big:Nat}{s1 s2:St}(h:qVC C callF ops big st=some (s1,s2)):(∀x∈st.obl,x∈s1.obl) /\ ∀x∈st.obl,x∈s2.obl:=by
 unfold qVC at h;split at h
 ·cases h;exact⟨fun x hx=>List.mem_append_right _ hx,fun x hx=>List.mem_append_right _ hx⟩
 ·cases h
theorem yGF{C:Cfg}{callF:CallF}(hnm:yWA C.P)(hord:C.P.follows .mixedOrders=true)(hcall:xSC C.P X Pre (qVA C callF)){id:Nat}{ops:Array Oper}{big:Nat}{s1 s2:St}(h:Mem C.P X w0 J st g w)(he:Env X J st g a)
  (hr:qVC C callF ops big st=some (s1,s2)) (hob1:zCA X Pre s1.obl J) (hob2:zCA X Pre s2.obl J) {Q:Exit->Act->World->Prop}
  (hQ1:∀g' w' a',Ext st g s1 g'->Mem C.P X w0 J s1 g' w'->Env X J s1 g' a'->Q .normal a' w') (hQ2:∀g' w' a',Ext st g s2 g'->Mem C.P X w0 J s2 g' w'->Env X J s2 g' a'->Q .normal a' w'):(Code.region id ops true).wp C.P Q a w:=by
 unfold qVC at hr;simp only[zJG] at hr;split at hr
 rotate_left
 ·cases hr
 rename_i p q hps;cases hr;generalize hs0:({ st with obl:=[],nx:=st.nx+ops.size*big }:St)=s0 at hps;have hm0:Mem C.P X w0 J s0 g w:=by rw[<- hs0];exact h.same rfl rfl rfl rfl
 have he0:Env X J s0 g a:=by rw[<- hs0];exact he.of_env rfl rfl
 have hX0:∀ {t:St} {g':Gh},Ext s0 g t g'->Ext st g t g':=fun hx=>hx.same (s2:=st) (by rw[<- hs0]) (by rw[<- hs0])
 have ho1:zCA X Pre p.obl J:=(zPA.1 hob1).1;have ho2:zCA X Pre q.obl J:=(zPA.1 hob2).1;refine Code.wp_mono (Q:=fun e a w=>e = .normal/\Q e a w) (fun _ _ _ h=>h.2) (wp_region_any hord ?_);have hdrew:Mem C.P X w0 J s0 g { w with drawn:=w.drawn+1 }:=hm0.frame (Fr.drew (fun _=>False) w);obtain⟨x,hx,j1,j2,j3,j4,j5⟩:=zQB (ops:=ops) (is:=Region.ready .any ops (Array.replicate ops.size false)) (n:=6) (pc:=[]) hdrew he0 (fun _ hx=>by cases hx)
 have:=qUC (Q:=fun e a w=>e = .normal/\Q e a w) hnm hcall (fun _ _ _ h=>absurd h.1 (by simp)) hps (fun y hy _=>by
   simp only[List.mem_cons,List.not_mem_nil,or_false] at hy;rcases hy with rfl|rfl
   ·exact ho1
   ·exact ho2) (List.replicate ops.size false,x) (List.mem_map.2 ⟨x,hx,rfl⟩) (yLE _ _) j1 g { w with drawn:=w.drawn+1 } a j2 j3
  (fun y hy _ g2 w2 a2 m1 m2 m3=>by
   simp only[List.mem_cons,List.not_mem_nil,or_false] at hy;rcases hy with rfl|rfl
   ·exact⟨rfl,hQ1 g2 w2 a2 ((hX0 (j4.trans m1)).same' rfl rfl) (m2.same rfl rfl rfl rfl) (m3.of_env rfl rfl)⟩
   ·exact⟨rfl,hQ2 g2 w2 a2 ((hX0 (j4.trans m1)).same' rfl rfl) (m2.same rfl rfl rfl rfl) (m3.of_env rfl rfl)⟩)
 simpa using this
theorem yWD{α:Type}:∀ {ss:List Nat} {l:List (Nat×α)} {s:Nat} {v:α},lk s (delB ss l)=some v->lk s l=some v/\s∉ss
 | [],_,_,_,h=>⟨h,by simp⟩
 | x::r,l,s,v,h=>by
  obtain⟨h1,h2⟩:=zAB (n:=x) (show lk s (del x (delB r l))=some v from h);obtain⟨h3,h4⟩:=yWD h2;exact⟨h3,by simp[Ne.symm h1,h4]⟩
theorem qHG{α:Type}:∀ {ss:List Nat} {l:List (Nat×α)} {s:Nat},s∉ss->lk s (delB ss l)=lk s l
 | [],_,_,_=>rfl
 | x::r,l,s,h=>by
  simp only[List.mem_cons,not_or] at h;show lk s (del x (delB r l))=_;rw[yTB (Ne.symm h.1),qHG h.2]
theorem yLJ{α β:Type}{a:List (Nat×α)}{b:List (Nat×β)}{k:Nat}{x:α}(h:lk k a=some x):k∉ySK a b:=by
 unfold ySK;intro e;obtain⟨q,hq,hqk⟩:=List.mem_map.1 e
 have:=(List.mem_filter.1 hq).2
 rw[hqk,h] at this;simp at this
theorem qEF{t:St}{g0:Gh}(h:Mem P X w0 J t g w)(he:Env X J t g a)(hx:Ext st g0 t g):Mem P X w0 J (cutS st t) g w/\Env X J (cutS st t) g a/\Ext { st with obl:=[] } g0 (cutS st t) g:=by
 have hact:∀b,Actv (cutS st t) g b->Actv t g b:=by
  rintro b (⟨o,cs,h1,h2⟩|h1)
  ·exact .inl ⟨o,cs,(yWD h1).1,h2⟩
  ·exact .inr h1
 have hok:∀b,okOf t g w b->okOf (cutS st t) g w b:=fun b hb=>⟨hb.1,fun e=>hb.2.1 (hact b e),hb.2.2⟩
 refine⟨⟨fun n vi hn=>(h.va n vi hn).mono hok (fun _ _=>rfl) (fun _ _=>rfl),fun o cs ho=>h.ob o cs (yWD ho).1,fun o o' c c' h1 h2=>h.oo o o' c c' (yWD h1).1 (yWD h2).1,h.vv,
  fun o n c vi h1 h2=>h.ov o n c vi (yWD h1).1 h2,fun b hb=>h.lo b (hact b hb),h.lp,h.fr,h.lv,h.ex,h.gl⟩,⟨fun s sv hs=>he.tm s sv (yWD hs).1,he.df,he.sz⟩,hx.rv,fun o cs ho=>⟨?_,(hx.rb o cs ho).2⟩⟩
 obtain⟨⟨c',h1⟩,_⟩:=hx.rb o cs ho;refine⟨c',?_⟩;show lk o (delB (ySK st.objs t.objs) t.objs)=_;rw[qHG (yLJ (show lk o st.objs=some cs from ho)),h1]
theorem filt_mem{l m:List Ob}:∀o∈l,o∈(l.filter fun o=>!(m.any fun o'=>o.beq o'))++m:=fun o ho=>by
 rw[List.mem_append];by_cases h:(m.any fun o'=>o.beq o')=true
 ·obtain⟨o',h1,h2⟩:=List.any_eq_true.1 h;rw[Ob.beq_eq h2];exact .inr h1
 ·exact .inl (List.mem_filter.2 ⟨ho,by simpa using h⟩)
theorem zCF{t1 t2 m:St}(hj:joinB P st t1 t2=some m):(∀x∈t1.obl,x∈m.obl)/\(∀x∈t2.obl,x∈m.obl) /\
  ∀(bb:Bool) (g0 g:Gh) (w:World) (a:Act),Mem P X w0 J (sel bb t1 t2) g w->Env X J (sel bb t1 t2) g a->Ext st g0 (sel bb t1 t2) g -> ∃g',Mem P X w0 J m g' w/\Env X J m g' a/\Ext st g0 m g':=by
 unfold joinB at hj;split at hj
 rotate_left
 ·cases hj
 rename_i m1 m2 h1 h2;simp only at hj;split at hj
 rotate_left
 ·cases hj
 rename_i hle;simp only[baZ] at hle;cases hj;refine⟨filt_mem,fun x hx=>List.mem_append_right _ hx,fun bb g0 g w a hm he hx=>?_⟩;cases bb with
 | true =>
  obtain⟨k1,k2,k3⟩:=qEF hm he hx;obtain⟨g',q1,q2,q3⟩:=yCB (s1:=cutS st t1) (s2:=cutS st t2) true rfl k1 k2 k3 h1;obtain⟨r1,r2,r3⟩:=zEF hle.1 q1 q2;exact⟨g',r1,r2,(q3.trans r3).same rfl rfl⟩
 | false =>
  obtain⟨k1,k2,k3⟩:=qEF hm he hx;obtain⟨g',q1,q2,q3⟩:=yCB (s1:=cutS st t1) (s2:=cutS st t2) false rfl k1 k2 k3 h2;obtain⟨r1,r2,r3⟩:=zEF hle.2 q1 q2;exact⟨g',r1,r2,(q3.trans r3).same rfl rfl⟩
end
end Go.Dx
namespace Go.Dx
open Go
section
variable {P:Program} {X:Nat->List D->D} {Pre:Nat->List D->Prop} {w0:Base} {J:List D} {st:St} {g:Gh} {w:World} {a:Act}
def wpC(P:Program)(Q:Exit->Act->World->Prop):List Code->Act->World->Prop
 | [],a,w=>Q .normal a w
 | c::r,a,w=>c.wp P (Exit.then (wpC P Q r) Q) a w
def PcOk(X:Nat->List D->D)(J:List D)(pc:List (DE×Bool)):Prop:=∀p∈pc,(p.1.eval X J).asBool=p.2
theorem PcOk.nil:PcOk X J []:=fun _ h=>by cases h
theorem PcOk.append{l m:List (DE×Bool)}:PcOk X J (l++m)↔PcOk X J l/\PcOk X J m:=by
 constructor
 ·intro h;exact⟨fun p hp=>h p (List.mem_append_left _ hp),fun p hp=>h p (List.mem_append_right _ hp)⟩
 ·rintro⟨h1,h2⟩ p hp;rcases List.mem_append.1 hp with hp|hp
  ·exact h1 p hp
  ·exact h2 p hp
def Ex.toExit:Ex->Exit
 | .norm=>.normal
 | .exit i=>.exit i
 | .ret=>.ret
 | .goto l=>.goto l
structure ExOk (P:Program) (X:Nat->List D->D) (Pre:Nat->List D->Prop) (ex:ExecF):Prop where
 sound:∀(w0:Base) (J:List D) (l:List Code) (st:St) (outs:List Out) (g:Gh) (w:World) (a:Act),Mem P X w0 J st g w->Env X J st g a->ex l st=some outs ->
  (∀o∈outs,PcOk X J o.pc->zCA X Pre o.st.obl J) -> ∀Q:Exit->Act->World->Prop,
  (∀o∈outs,PcOk X J o.pc -> ∀g' w' a',Ext st g o.st g'->Mem P X w0 J o.st g' w'->Env X J o.st g' a'->Q o.ex.toExit a' w')->wpC P Q l a w
 obl:∀(l:List Code) (st:St) (outs:List Out),ex l st=some outs -> ∀o∈outs,∀x∈st.obl,x∈o.st.obl
 total:∀(J:List D) (l:List Code) (st:St) (outs:List Out),ex l st=some outs -> ∃o∈outs,PcOk X J o.pc
theorem xJA{f:St->Option (List Out)}:∀ {l r:List Out},yTD f l=some r -> ∀o∈l,(o.ex ≠ .norm->o∈r)/\(o.ex = .norm -> ∃q,f o.st=some q /\ ∀x∈q,(⟨o.pc++x.pc,x.ex,x.st⟩:Out)∈r)
 | [],_,_,o,ho=>by cases ho
 | p::l,r,h,o,ho=>by
  simp only[yTD] at h;split at h
  ·cases h
  ·rename_i r' hr;split at h
   ·rename_i hex;split at h
    ·rename_i q hq;cases h;rcases List.mem_cons.1 ho with rfl|ho
     ·refine⟨fun hne=>absurd hex hne,fun _=>⟨q,hq,fun x hx=>?_⟩⟩;exact List.mem_append_left _ (List.mem_map.2 ⟨x,hx,rfl⟩)
     ·obtain⟨h1,h2⟩:=xJA hr o ho;refine⟨fun hne=>List.mem_append_right _ (h1 hne),fun he=>?_⟩;obtain⟨q',hq',hall⟩:=h2 he;exact⟨q',hq',fun x hx=>List.mem_append_right _ (hall x hx)⟩
    ·cases h
   ·rename_i hex;cases h;rcases List.mem_cons.1 ho with rfl|ho
    ·exact⟨fun _=>by simp,fun he=>absurd he hex⟩
    ·obtain⟨h1,h2⟩:=xJA hr o ho;refine⟨fun hne=>List.mem_cons_of_mem _ (h1 hne),fun he=>?_⟩;obtain⟨q',hq',hall⟩:=h2 he;exact⟨q',hq',fun x hx=>List.mem_cons_of_mem _ (hall x hx)⟩
theorem yQB{f:St->Option (List Out)}:∀ {l r:List Out},yTD f l=some r -> ∀x∈r,(x∈l/\x.ex ≠ .norm) ∨ ∃o∈l,o.ex = .norm /\ ∃q,f o.st=some q /\ ∃y∈q,x=⟨o.pc++y.pc,y.ex,y.st⟩
 | [],r,h,x,hx=>by simp only[yTD,Option.some.injEq] at h;subst h;cases hx
 | p::l,r,h,x,hx=>by
  simp only[yTD] at h;split at h
  ·cases h
  ·rename_i r' hr;have ih:=fun hx'=>yQB hr x hx'
   split at h
   ·rename_i hex;split at h
    ·rename_i q hq;cases h;rcases List.mem_append.1 hx with hx|hx
     ·obtain⟨y,hy,rfl⟩:=List.mem_map.1 hx;exact .inr ⟨p,by simp,hex,q,hq,y,hy,rfl⟩
     ·rcases ih hx with⟨h1,h2⟩|⟨o,ho,h2⟩
      ·exact .inl ⟨List.mem_cons_of_mem _ h1,h2⟩
      ·exact .inr ⟨o,List.mem_cons_of_mem _ ho,h2⟩
    ·cases h
   ·rename_i hex;cases h;rcases List.mem_cons.1 hx with rfl|hx
    ·exact .inl ⟨by simp,hex⟩
    ·rcases ih hx with⟨h1,h2⟩|⟨o,ho,h2⟩
     ·exact .inl ⟨List.mem_cons_of_mem _ h1,h2⟩
     ·exact .inr ⟨o,List.mem_cons_of_mem _ ho,h2⟩
theorem yTH(K K':Act->World->Prop)(Q:Exit->Act->World->Prop):Exit.then K (Exit.then K' Q)=Exit.then K Q:=by
 funext e a w;cases e <;> rfl
theorem yHC{K:Act->World->Prop}{Q:Exit->Act->World->Prop}{e:Ex}{a:Act}{w:World}(he:e ≠ .norm)(h:Q e.toExit a w):Exit.then K Q e.toExit a w:=by
 cases e with
 | norm=>exact absurd rfl he
 | exit i=>exact h
 | ret=>exact h
 | goto l=>exact h
theorem yAB{ex:ExecF}(hex:ExOk P X Pre ex){r:List Code}{l outs:List Out}(hb:yTD (ex r) l=some outs)(hob:∀o∈outs,PcOk X J o.pc->zCA X Pre o.st.obl J){Q:Exit->Act->World->Prop}{st0:St}{g0:Gh}
  (hQ:∀o∈outs,PcOk X J o.pc -> ∀g' w' a',Ext st0 g0 o.st g'->Mem P X w0 J o.st g' w'->Env X J o.st g' a'->Q o.ex.toExit a' w') :
  (∀o∈l,PcOk X J o.pc->zCA X Pre o.st.obl J) /\
  ∀o∈l,PcOk X J o.pc -> ∀g' w' a',Ext st0 g0 o.st g'->Mem P X w0 J o.st g' w'->Env X J o.st g' a'->Exit.then (wpC P Q r) Q o.ex.toExit a' w':=by
 refine⟨fun o ho hpc=>?_,fun o ho hpc g' w' a' k1 k2 k3=>?_⟩
 ·obtain⟨h1,h2⟩:=xJA hb o ho;by_cases hn:o.ex = .norm
  ·obtain⟨q,hq,hall⟩:=h2 hn;obtain⟨x,hx,hxp⟩:=hex.total J r o.st q hq;have hh:zCA X Pre x.st.obl J:=hob ⟨o.pc++x.pc,x.ex,x.st⟩ (hall x hx) (PcOk.append.2 ⟨hpc,hxp⟩);exact zKA.2 fun y hy=>zKA.1 hh y (hex.obl r o.st q hq x hx y hy)
  ·exact hob o (h1 hn) hpc
 ·obtain⟨h1,h2⟩:=xJA hb o ho;by_cases hn:o.ex = .norm
  ·obtain⟨q,hq,hall⟩:=h2 hn;rw[hn];show wpC P Q r a' w';exact hex.sound w0 J r o.st q g' w' a' k2 k3 hq (fun x hx hxp=>hob ⟨o.pc++x.pc,x.ex,x.st⟩ (hall x hx) (PcOk.append.2 ⟨hpc,hxp⟩)) Q (fun x hx hxp g2 w2 a2 m1 m2 m3=>hQ ⟨o.pc++x.pc,x.ex,x.st⟩ (hall x hx) (PcOk.append.2 ⟨hpc,hxp⟩) g2 w2 a2 (k1.trans m1) m2 m3)
  ·exact yHC hn (hQ o (h1 hn) hpc g' w' a' k1 k2 k3)
theorem xTA(i:Nat):∀ {l:List Out} {o:Out},o∈l -> ∃o'∈xNB i l,o'.pc=o.pc/\o'.st=o.st/\(o.ex = .exit i/\o'.ex = .norm∨o.ex ≠ .exit i/\o'.ex=o.ex)
 | [],_,h=>by cases h
 | p::l,o,h=>by
  rcases List.mem_cons.1 h with rfl|h
  ·refine⟨_,by rw[xNB];exact List.mem_cons_self,?_⟩;by_cases hx:o.ex = .exit i
   ·simp[hx]
   ·simp[hx]
  ·obtain⟨o',h1,h2⟩:=xTA i h;exact⟨o',by rw[xNB];exact List.mem_cons_of_mem _ h1,h2⟩
theorem xIC(i:Nat):∀ {l:List Out} {o':Out},o'∈xNB i l -> ∃o∈l,o'.pc=o.pc/\o'.st=o.st
 | [],_,h=>by simp[xNB] at h
 | p::l,o',h=>by
  rw[xNB] at h;rcases List.mem_cons.1 h with rfl|h
  ·refine⟨p,by simp,?_⟩;split <;> exact⟨rfl,rfl⟩
  ·obtain⟨o,h1,h2⟩:=xIC i h;exact⟨o,List.mem_cons_of_mem _ h1,h2⟩
theorem zTA{c:Code}{Q:Exit->Act->World->Prop}(h:wpC P Q [c] a w):c.wp P Q a w:=by
 have e:Exit.then (wpC P Q []) Q=Q:=by funext e a w;cases e <;> rfl
 have h':c.wp P (Exit.then (wpC P Q []) Q) a w:=h;rw[e] at h';exact h'
theorem xUD:∀(l:List SV) (i s:Nat) (sv:SV),lk s (xWC i l)=some sv->i<=s/\l[s-i]? = some sv
 | [],_,_,_,h=>by simp[xWC,yTA,yLA] at h
 | x::l,i,s,sv,h=>by
  simp only[xWC] at h;by_cases hs:i=s
  ·subst hs;rw[zIA] at h;simpa using h
  ·rw[zHA hs] at h;obtain⟨h1,h2⟩:=xUD l (i+1) s sv h;refine⟨by omega,?_⟩;rw[show s-i=(s-(i+1))+1 by omega];simpa using h2
def zUH(tmps:Array Value):ResultVar->Sem Value
 | .tmp t=>pure (tmps.getD t undef)
 | .cell c t=>do loadVar t (<- asAddr (tmps.getD c undef))
theorem yXJ(fn:Func)(tmps:Array Value):results fn tmps=(do
  let vs <- fn.results.mapM (zUH tmps)
  pure (if h:vs.size=1 then vs[0] else .tuple vs)):=by
 unfold results
 congr 2
theorem yVJ(h:Mem P X w0 J st g w)(he:Env X J st g a){r:ResultVar}{s:SV}(hr:resS P st r=some s):(zUH a.tmps r).run P w = .ok (s.den X J g) w/\s.ok X J:=by
 cases r with
 | tmp t =>
  obtain⟨h1,h2⟩:=he.tm t s hr;refine⟨?_,h2⟩;simp[zUH,Array.getD_eq_getD_getElem?,h1]
 | cell c t =>
  simp only[resS,Option.bind_eq_bind,Option.bind_eq_some_iff] at hr;obtain⟨p,hp,hl⟩:=hr;obtain⟨h1,h2⟩:=he.tm c p hp;obtain⟨k1,k2⟩:=xBD h hl;refine⟨?_,k2⟩;have e:a.tmps.getD c undef=p.den X J g:=by simp[Array.getD_eq_getD_getElem?,h1]
  show (do loadVar t (<- asAddr (a.tmps.getD c undef)):Sem Value).run P w=_;rw[e];cases p with
  | oa o off=>simpa[SV.den,asAddr,Instr.loadAt,Instr.sureAddr] using k1
  | ra n off=>simpa[SV.den,asAddr,Instr.loadAt,Instr.sureAddr] using k1
  | c cv =>
   cases cv with
   | glob k=>simpa[SV.den,CV.den,asAddr,Instr.loadAt,Instr.sureAddr] using k1
   | _=>simp[qMH] at hl
  | _=>simp[qMH] at hl
theorem yHF(h:Mem P X w0 J st g w)(he:Env X J st g a):∀ {rs:List ResultVar} {l:List SV},zHI P st rs=some l->(rs.mapM (zUH a.tmps)).run P w = .ok (dens X J g l) w/\oks X J l
 | [],l,hr=>by
  simp only[zHI,Option.some.injEq] at hr;subst hr;exact⟨by simp[dens],trivial⟩
 | r::rs,l,hr=>by
  simp only[zHI,Option.bind_eq_bind,Option.bind_eq_some_iff,Option.some.injEq] at hr;obtain⟨x,hx,xs,hxs,rfl⟩:=hr;obtain⟨h1,h2⟩:=yVJ h he hx;obtain⟨k1,k2⟩:=yHF h he hxs;refine⟨?_,h2,k2⟩;rw[List.mapM_cons,Sem.run_bind,h1];simp only[Result.andThen_ok];rw[Sem.run_bind,k1];simp[dens]
theorem xDC(h:Mem P X w0 J st g w)(he:Env X J st g a){fn:Func}{l:List SV}(hr:zHI P st fn.results.toList=some l) :
  (results fn a.tmps).run P w = .ok ((tupS l).den X J g) w/\(tupS l).ok X J:=by
 obtain⟨h1,h2⟩:=yHF h he hr;have h1':(fn.results.mapM (zUH a.tmps)).run P w = .ok (dens X J g l).toArray w:=by
  rw[Array.mapM_eq_mapM_toList,Sem.run_map,h1]
  simp
 rw[yXJ,Sem.run_bind,h1'];simp only[Result.andThen_ok,Sem.run_pure]
 match l,h2 with
 | [],_=>exact⟨by simp[tupS,SV.den,dens],trivial⟩
 | [x],h2=>exact⟨by simp[tupS,dens],h2.1⟩
 | x::y::r,h2=>exact⟨by simp[tupS,SV.den,dens],h2⟩
mutual
theorem qWF{st':St}{g':Gh}(hx:Ext st g st' g'):∀ {s:SV},qVF st s=true->s.den X J g'=s.den X J g
 | .i _ _,_=>rfl
 | .b _,_=>rfl
 | .s _,_=>rfl
 | .fl _,_=>rfl
 | .c _,_=>rfl
 | .x n,h=>by
  obtain⟨vi,hv⟩:=Option.isSome_iff_exists.1 h;exact(hx.rv n vi hv).2.1
 | .xc n j,h=>by
  obtain⟨vi,hv⟩:=Option.isSome_iff_exists.1 h;simp[SV.den,(hx.rv n vi hv).2.1]
 | .ra n j,h=>by
  obtain⟨vi,hv⟩:=Option.isSome_iff_exists.1 h;simp[SV.den,(hx.rv n vi hv).2.2]
 | .oa n j,h=>by
  obtain⟨vi,hv⟩:=Option.isSome_iff_exists.1 h;simp[SV.den,(hx.rb n vi hv).2]
 | .osl n j,h=>by
  obtain⟨vi,hv⟩:=Option.isSome_iff_exists.1 h;simp[SV.den,(hx.rb n vi hv).2]
 | .ea n e k z,h=>by
  obtain⟨vi,hv⟩:=Option.isSome_iff_exists.1 h;simp[SV.den,(hx.rv n vi hv).2.1]
 | .agg l,h=>by
  have:yTC st l=true:=by simpa[qVF] using h
  simp[SV.den,yUC hx this]
 | .tup l,h=>by
  have:yTC st l=true:=by simpa[qVF] using h
  simp[SV.den,yUC hx this]
 | .w k l,h=>by
  have:yTC st l=true:=by simpa[qVF] using h
  simp[SV.den,yUC hx this]
theorem yUC{st':St}{g':Gh}(hx:Ext st g st' g'):∀ {l:List SV},yTC st l=true->dens X J g' l=dens X J g l
 | [],_=>rfl
 | x::l,h=>by
  simp only[yTC,baZ] at h;simp[dens,qWF hx h.1,yUC hx h.2]
end
theorem xVC:∀ {outs:List Out},qCE outs=true -> ∀o∈outs,o.ex = .norm∨o.ex = .ret
 | [],_,o,ho=>by cases ho
 | q::r,h,o,ho=>by
  simp only[qCE,baZ] at h;rcases List.mem_cons.1 ho with rfl|ho
  ·have h1:=h.1;cases hx:o.ex with
   | norm=>exact .inl rfl
   | ret=>exact .inr rfl
   | exit i=>rw[hx] at h1;cases h1
   | goto i=>rw[hx] at h1;cases h1
  ·exact xVC h.2 o ho
theorem asPc_ok{o:Out}(h:PcOk X J o.pc):PcH X J (asPc o).1:=fun x hx=>by
 obtain⟨p,hp,rfl⟩:=List.mem_map.1 hx;exact h p hp
theorem yHD{C:Cfg}{ex:ExecF}(hex:ExOk C.P X Pre ex){f:FuncId}{as:List SV}{s:SV}{st':St}(h:Mem C.P X w0 J st g w)(he:Env X J st g a)(has:oks X J as)(hi:yUG C ex f as st=some (s,st'))(hob:zCA X Pre st'.obl J) :
  (∃fn c,C.P.funcs[f]? = some fn/\fn.body=some c) /\
  Calls C.P f (dens X J g as).toArray w fun e w'=>∃g',e = .returned (s.den X J g')/\Ext st g st' g'/\Mem C.P X w0 J st' g' w'/\Env X J st' g' a/\s.ok X J:=by
 unfold yUG at hi;split at hi
 ·cases hi
 rename_i fn hfn;split at hi
 ·cases hi
 rename_i body hbody;split at hi
 ·rename_i hc;obtain⟨hlen,hknown⟩:=hc;split at hi
  ·cases hi
  rename_i outs houts;split at hi
  ·rename_i hall;split at hi
   ·cases hi
   rename_i s1 hcomb;split at hi
   ·cases hi
   rename_i rs hrs;cases hi;have hobm:zCA X Pre s1.obl J:=(zPA.1 hob).1;refine⟨⟨fn,body,hfn,hbody⟩,calls_of_wp hfn hbody (zTA ?_)⟩;generalize hs0:({ st with env:=xWC 0 as,nt:=fn.ntmps,obl:=[] }:St)=s0 at houts hcomb;have hm0:Mem C.P X w0 J s0 g w:=by rw[<- hs0];exact h.same rfl rfl rfl rfl
   have he0:Env X J s0 g { tmps:=(dens X J g as).toArray++Array.replicate (fn.ntmps-(dens X J g as).toArray.size) undef,defers:=[] }:=by
    rw[<- hs0];refine⟨fun t sv ht=>?_,rfl,?_⟩
    ·obtain⟨_,h1⟩:=xUD as 0 t sv ht;rw[Nat.sub_zero] at h1;refine⟨?_,yHA.1 has sv (List.mem_of_getElem? h1)⟩;have h2:(dens X J g as)[t]? = some (sv.den X J g):=by rw[zRA,List.getElem?_map,h1];rfl
     have hlt:=(List.getElem?_eq_some_iff.1 h2).1;simp only;rw[Array.getElem?_append_left (by simpa using hlt)];simpa using h2
    ·simp[yKA];omega
   have hway:=fun o (ho:o∈outs) (hpc:PcOk X J o.pc)=>qEB (w0:=w0) (g0:=g) hcomb hobm (asPc o) (List.mem_map.2 ⟨o,ho,rfl⟩) (asPc_ok hpc)
   refine hex.sound w0 J [body] _ _ g w _ hm0 he0 houts (fun o ho hpc=>(hway o ho hpc).1) _ (fun o ho hpc g' w' a' k1 k2 k3=>?_);obtain⟨g2,m1,m2,m3⟩:=(hway o ho hpc).2 g' w' a' k2 k3 k1;obtain⟨r1,r2⟩:=xDC m1 m2 hrs;have hX:Ext st g { s1 with env:=st.env,nt:=st.nt,obl:=s1.obl++st.obl } g2:=(m3.same (s2:=st) (by rw[<- hs0]) (by rw[<- hs0])).same' rfl rfl;have hpost:a'.defers=[] /\ ∃v,(results fn a'.tmps).run C.P w' = .ok v w'/\(∃g',Ending.returned v = .returned ((tupS rs).den X J g')/\Ext st g { s1 with env:=st.env,nt:=st.nt,obl:=s1.obl++st.obl } g'/\Mem C.P X w0 J { s1 with env:=st.env,nt:=st.nt,obl:=s1.obl++st.obl } g' w'/\Env X J { s1 with env:=st.env,nt:=st.nt,obl:=s1.obl++st.obl } g' a/\(tupS rs).ok X J):=by
    refine⟨m2.df,_,r1,g2,rfl,hX,m1.same rfl rfl rfl rfl,⟨fun t sv ht=>?_,he.df,he.sz⟩,r2⟩;obtain⟨t1,t2⟩:=he.tm t sv ht;have hk:=List.all_eq_true.1 hknown _ (zBB ht);exact⟨by rw[t1,qWF hX hk],t2⟩
   rcases xVC hall o ho with hx|hx
   ·rw[hx];exact hpost
   ·rw[hx];exact hpost
  ·cases hi
 ·cases hi
theorem xSK{st0:St}{t:TypeId}{o k:Nat}{st st':St}(hr:yWJ P st0 t o k st=some st'):st'.obl=st.obl:=by
 unfold yWJ at hr;split at hr
 ·split at hr
  ·split at hr
   ·split at hr
    ·rename_i cs _ _ _ _ _ _ _ _ _ _;split at hr
     ·rename_i s3 hn;cases hr
      have:=xGA hn
      exact this.trans (qBA st _).2.2.1
     ·cases hr
    ·cases hr
   ·cases hr
  ·cases hr
 ·cases hr
theorem yIF{st0:St}:∀ {ts:List TypeId} {dn l:List SV} {st:St} {r:List SV} {st':St},yAE P st0 ts dn l st=some (r,st')->st'.obl=st.obl
 | [],dn,[],st,r,st',hr=>by
  simp only[yAE,Option.some.injEq,Prod.mk.injEq] at hr;rw[hr.2]
 | [],dn,_::_,st,r,st',hr=>by simp[yAE] at hr
 | _::_,dn,[],st,r,st',hr=>by simp[yAE] at hr
 | t::ts,dn,s::l,st,r,st',hr=>by
  unfold yAE at hr;split at hr
  ·split at hr
   ·cases hr
   split at hr
   ·rename_i st1 ho;exact(yIF hr).trans (xSK ho)
   ·cases hr
  ·exact yIF hr
theorem xDB{α:Type}:∀ {ss:List Nat} {l:List (Nat×α)} {s:Nat} {v:α},lk s (qEA ss l)=some v->lk s l=some v/\s∉ss
 | [],_,_,_,h=>⟨h,by simp⟩
 | x::r,l,s,v,h=>by
  obtain⟨h1,h2⟩:=zAB (n:=x) (show lk s (del x (qEA r l))=some v from h);obtain⟨h3,h4⟩:=xDB h2;exact⟨h3,by simp[Ne.symm h1,h4]⟩
theorem qNE{α:Type}:∀ {ss:List Nat} {l:List (Nat×α)} {s:Nat},s∉ss->lk s (qEA ss l)=lk s l
 | [],_,_,_=>rfl
 | x::r,l,s,h=>by
  simp only[List.mem_cons,not_or] at h;show lk s (del x (qEA r l))=_;rw[yTB (Ne.symm h.1),qNE h.2]
theorem Mem.fewer(h:Mem P X w0 J st g w)(ks:List Nat):Mem P X w0 J { st with objs:=qEA ks st.objs } g w/\(∀b,okOf st g w b->okOf { st with objs:=qEA ks st.objs } g w b) /\
  ∀o cs,o∈ks->lk o st.objs=some cs->okOf { st with objs:=qEA ks st.objs } g w (g.rb o):=by
 have hact:∀b,Actv { st with objs:=qEA ks st.objs } g b->Actv st g b:=by
  rintro b (⟨o,cs,h1,h2⟩|h1)
  ·exact .inl ⟨o,cs,(xDB h1).1,h2⟩
  ·exact .inr h1
 have hok:∀b,okOf st g w b->okOf { st with objs:=qEA ks st.objs } g w b:=fun b hb=>⟨hb.1,fun e=>hb.2.1 (hact b e),hb.2.2⟩
 refine⟨⟨fun n vi hn=>(h.va n vi hn).mono hok (fun _ _=>rfl) (fun _ _=>rfl),fun o cs ho=>h.ob o cs (xDB ho).1,fun o o' c c' h1 h2=>h.oo o o' c c' (xDB h1).1 (xDB h2).1,h.vv,
  fun o n c vi h1 h2=>h.ov o n c vi (xDB h1).1 h2,fun b hb=>h.lo b (hact b hb),h.lp,h.fr,h.lv,h.ex,h.gl⟩,hok,fun o cs ho hl=>?_⟩
 refine⟨(h.ob o cs hl).lt,?_,h.notEx (.inl ⟨o,cs,hl,rfl⟩)⟩;rintro(⟨p,c,h1,h2⟩|⟨n,vi,h1,h2⟩)
 ·obtain⟨h3,h4⟩:=xDB h1
  have:=h.oo p o c cs h3 hl h2
  exact h4 (this▸ho)
 ·exact h.ov o n cs vi hl h1 h2
theorem zTJ(vs:List Value)(sz:Nat)(hsz:∀v∈vs,v.cells.size=sz):∀(j:Nat) (v:Value),vs[j]? = some v -> ∀(k:Nat) (u:Value),v.cells.toList[k]? = some u->(vs.flatMap fun u=>u.cells.toList)[j*sz+k]? = some u:=by
 induction vs with
 | nil=>intro j v h;simp at h
 | cons x r ih =>
  intro j v hj k u hk;have hx:x.cells.toList.length=sz:=by rw[Array.length_toList];exact hsz x (by simp)
  rw[List.flatMap_cons];cases j with
  | zero =>
   simp only[List.getElem?_cons_zero,Option.some.injEq] at hj;subst hj;rw[Nat.zero_mul,Nat.zero_add,List.getElem?_append_left (List.getElem?_eq_some_iff.1 hk).1];exact hk
  | succ j =>
   simp only[List.getElem?_cons_succ] at hj;rw[List.getElem?_append_right (by rw[hx,Nat.add_mul];omega),hx]
   have:=ih (fun v hv=>hsz v (by simp[hv])) j v hj k u hk
   rw[<- this]
   congr 1
   rw[Nat.add_mul];omega
theorem zII(h:Mem P X w0 J st g w)(he:Env X J st g a){st0:St}{g0:Gh}(hx:Ext st0 g0 st g){t:TypeId}{o k:Nat}{st':St}(hr:yWJ P st0 t o k st=some st') :
  ∃g',Mem P X w0 J st' g' w/\Env X J st' g' a/\Ext st0 g0 st' g'/\(SV.x st.nx).den X J g'=(SV.osl o k).den X J g/\(∀s:SV,s.men st.nx=false->s.den X J g'=s.den X J g)/\st'.obl=st.obl:=by
 unfold yWJ at hr;split at hr
 rotate_left
 ·cases hr
 rename_i cs e ho0 ho hu;split at hr
 rotate_left
 ·cases hr
 rename_i i hi;split at hr
 rotate_left
 ·cases hr
 rename_i hc;obtain⟨h8,hlen,hk⟩:=hc;split at hr
 rotate_left
 ·cases hr
 rename_i ds hds;split at hr
 rotate_left
 ·cases hr
 rename_i s3 hn;cases hr;obtain⟨hM,_⟩:=Mem.settles cs h;have hE:=he.settles cs;have hX:=Ext.settles st g cs;have hkeys:=qBA st cs;have hob:=h.ob o cs ho;have hoks:oks X J cs:=hob.2.2;obtain⟨vs,r1,r2,r3,r4,r5⟩:=xGD hM hi hoks hlen hds;have hobj:(settles st cs).objs=st.objs:=hkeys.2.1;have hfew:=hM.fewer (o::qNC st0 st o);rw[hobj] at hfew;obtain⟨f1,f2,f3⟩:=hfew;have hokb:=f3 o cs (by simp) ho;have hE2:Env X J { settles st cs with objs:=qEA (o::qNC st0 st o) st.objs } g a:=hE.of_env rfl rfl;have hX2:Ext st0 g0 { settles st cs with objs:=qEA (o::qNC st0 st o) st.objs } g:=by
  have hX1:=hx.trans hX;refine⟨hX1.rv,fun p c hp=>⟨?_,(hX1.rb p c hp).2⟩⟩;obtain⟨⟨c',h1⟩,_⟩:=hX1.rb p c hp;rw[hobj] at h1;refine⟨c',?_⟩;show lk p (qEA (o::qNC st0 st o) st.objs)=_;rw[qNE ?_,h1];rw[List.mem_cons,not_or];refine⟨fun e=>?_,fun e=>?_⟩
  ·rw[e,ho0] at hp;cases hp
  ·unfold qNC at e;obtain⟨q,hq,hqp⟩:=List.mem_map.1 e
   have:=(List.mem_filter.1 hq).2
   simp only[baZ,Option.isNone_iff_eq_none] at this;rw[hqp,hp] at this;cases this.1
 have hne8:P.underlying e≠some (.int .u8):=fun hh=>by simp[isU8,hh] at h8
 obtain⟨⟨ty,hblk⟩,_,_⟩:=hob;have hcell:∀(j:Nat) (v:Value),(dens X J g cs)[j]? = some v->w.cell? ⟨g.rb o,j,none⟩=some v:=fun j v hj=>by
  simp[World.cell?,hblk,hj]
 have hdl:ds.length=k:=r2;have hrep:Rep P (okOf { settles st cs with objs:=qEA (o::qNC st0 st o) st.objs } g w) w t (.slice (some ⟨g.rb o,0,none⟩) k k) ((DE.f .mklist ds).eval X J):=by
  have e1:(DE.f .mklist ds).eval X J = .list (zDA X ds J):=rfl;rw[e1];have hl:(zDA X ds J).length=k:=by rw[yAA,r2]
  have main:=Rep.list (P:=P) (ok:=okOf { settles st cs with objs:=qEA (o::qNC st0 st o) st.objs } g w) (w:=w) (t:=t) (e:=e) (cap:=k) (ad:=⟨g.rb o,0,none⟩) (i:=i) (vs:=vs) (ds:=zDA X ds J) hu hne8 hi (fun _=>⟨rfl,hokb⟩)
   (by rw[hl,r1]) (by rw[hl];exact Nat.le_refl _) (by simp[maxLen];omega) r4 (fun j v hj m u hm=>?_) (fun j v d hj hd=>?_)
  ·rw[hl] at main;exact main
  ·have:=zTJ vs i.size r4 j v hj m u hm
   rw[r3] at this
   have:=hcell _ _ this
   simpa[Nat.zero_add] using this
  ·obtain⟨x,hx',rfl⟩:=qNG hd;exact(r5 j v x hj hx').mono f2 (fun _ _=>rfl)
 obtain⟨k1,k2,k3,k4,k5⟩:=xJC f1 hE2 (Fr.refl (fun _=>False) w) hn (v:=.slice (some ⟨g.rb o,0,none⟩) k k) (fun ok' h1 _=>hrep.mono h1 (fun _ _=>rfl));refine⟨_,k1.same rfl rfl rfl rfl,k2.of_env rfl rfl,(hX2.trans k3).same' rfl rfl,?_,fun s hs=>zID X J g st.nx _ _ s hs,?_⟩
 ·rw[k4];rfl
 ·exact k5.trans hkeys.2.2.1
theorem xQI{n:Nat}:∀ {l m:List SV},mens n (l++m)=false->mens n l=false/\mens n m=false
 | [],m,h=>⟨rfl,h⟩
 | a::l,m,h=>by
  simp only[List.cons_append,mens,Bool.or_eq_false_iff] at h;obtain⟨h1,h2⟩:=xQI h.2;exact⟨by simp[mens,h.1,h1],h2⟩
theorem xBK{l m:List SV}(h1:oks X J l)(h2:oks X J m):oks X J (l++m):=by
 rw[yHA] at *;intro s hs;rcases List.mem_append.1 hs with h|h
 ·exact h1 s h
 ·exact h2 s h
theorem yIG{g:Gh}(l m:List SV):dens X J g (l++m)=dens X J g l++dens X J g m:=by rw[zRA,List.map_append,<- zRA,<- zRA]
theorem xFD{st0:St}{g0:Gh}:∀ {ts:List TypeId} {dn l:List SV} {st:St} {g:Gh} {r:List SV} {st':St},Mem P X w0 J st g w->Env X J st g a->Ext st0 g0 st g->oks X J dn->oks X J l->yAE P st0 ts dn l st=some (r,st') ->
  ∃g',Mem P X w0 J st' g' w/\Env X J st' g' a/\Ext st0 g0 st' g'/\dens X J g' r=dens X J g (dn++l)/\oks X J r/\st'.obl=st.obl
 | [],dn,[],st,g,r,st',h,he,hx,hd,hl,hr=>by
  simp only[yAE,Option.some.injEq,Prod.mk.injEq] at hr;obtain⟨rfl,rfl⟩:=hr;exact⟨g,h,he,hx,by rw[List.append_nil],hd,rfl⟩
 | [],dn,_::_,st,g,r,st',h,he,hx,hd,hl,hr=>by simp[yAE] at hr
 | _::_,dn,[],st,g,r,st',h,he,hx,hd,hl,hr=>by simp[yAE] at hr
 | t::ts,dn,s::l,st,g,r,st',h,he,hx,hd,hl,hr=>by
  unfold yAE at hr;split at hr
  ·rename_i o k;split at hr
   ·cases hr
   rename_i hm;have hm:mens st.nx (dn++l)=false:=by simpa using hm
   obtain⟨m1,m2⟩:=xQI hm;split at hr
   rotate_left
   ·cases hr
   rename_i st1 ho;obtain⟨g1,q1,q2,q3,q4,q5,q6⟩:=zII h he hx ho;obtain⟨g2,p1,p2,p3,p4,p5,p6⟩:=xFD (dn:=dn++[.x st.nx]) (l:=l) q1 q2 q3 (xBK hd (show oks X J [SV.x st.nx] from ⟨trivial,trivial⟩)) hl.2 hr;have hden:∀q:List SV,mens st.nx q=false->dens X J g1 q=dens X J g q:=by
    intro q
    induction q with
    | nil=>intro _;rfl
    | cons x q ih =>
     intro hq;simp only[mens,Bool.or_eq_false_iff] at hq;simp only[dens];rw[q5 x hq.1,ih hq.2]
   refine⟨g2,p1,p2,p3,?_,p5,p6.trans q6⟩;rw[p4,yIG,yIG,hden dn m1,hden l m2,yIG];have e1:dens X J g1 [SV.x st.nx]=[(SV.osl o k).den X J g]:=by simp only[dens];rw[q4]
   rw[e1];simp[dens]
  ·obtain⟨g2,p1,p2,p3,p4,p5,p6⟩:=xFD (dn:=dn++[s]) (l:=l) h he hx (xBK hd (show oks X J [s] from ⟨hl.1,trivial⟩)) hl.2 hr;exact⟨g2,p1,p2,p3,by rw[p4,List.append_assoc];rfl,p5,p6⟩
theorem zKI{st0:St}{g0:Gh}{t:TypeId}{s r:SV}{st':St}(h:Mem P X w0 J st g w)(he:Env X J st g a)(hx:Ext st0 g0 st g)(hs:s.ok X J)(hr:restR P st0 t s st=some (r,st')) :
  ∃g',Mem P X w0 J st' g' w/\Env X J st' g' a/\Ext st0 g0 st' g'/\r.den X J g'=s.den X J g/\r.ok X J/\st'.obl=st.obl:=by
 unfold restR at hr;split at hr
 ·rename_i l;split at hr
  ·split at hr
   ·rename_i l' st1 hc;cases hr;obtain⟨g',k1,k2,k3,k4,k5,k6⟩:=xFD (dn:=[]) h he hx trivial (by simpa only[SV.ok] using hs) hc;exact⟨g',k1,k2,k3,by simp only[SV.den];rw[k4,List.nil_append],by simpa only[SV.ok] using k5,k6⟩
   ·cases hr
  ·cases hr
 ·cases hr
theorem yVG{C:Cfg}{ex:ExecF}(hex:ExOk C.P X Pre ex){f:FuncId}{as:List SV}{s:SV}{st':St}(h:Mem C.P X w0 J st g w)(he:Env X J st g a)(has:oks X J as)(hi:yZD C ex f as st=some (s,st'))(hob:zCA X Pre st'.obl J) :
  (∃fn c,C.P.funcs[f]? = some fn/\fn.body=some c) /\
  Calls C.P f (dens X J g as).toArray w fun e w'=>∃g',e = .returned (s.den X J g')/\Ext st g st' g'/\Mem C.P X w0 J st' g' w'/\Env X J st' g' a/\s.ok X J:=by
 unfold yZD at hi;split at hi
 rotate_left
 ·cases hi
 rename_i s1 st1 h1;split at hi
 rotate_left
 ·cases hi
 rename_i fn hfn;split at hi
 ·rename_i r hr;cases hi;have hob1:zCA X Pre st1.obl J:=by
   have hk:st'.obl=st1.obl:=by
    unfold restR at hr;split at hr
    ·split at hr
     ·split at hr
      ·rename_i l' st2 hc;cases hr;exact yIF hc
      ·cases hr
     ·cases hr
    ·cases hr
   rw[<- hk];exact hob
  obtain⟨q1,q2⟩:=yHD hex h he has h1 hob1;refine⟨q1,q2.mono fun e w' hh=>?_⟩;obtain⟨g',rfl,k1,k2,k3,k4⟩:=hh;obtain⟨g2,m1,m2,m3,m4,m5,_⟩:=zKI k2 k3 k1 k4 hr;exact⟨g2,by rw[m4],m3,m1,m2,m5⟩
 ·cases hi;exact yHD hex h he has h1 hob
end
end Go.Dx
namespace Go.Dx
open Go
section
variable {P:Program} {X:Nat->List D->D} {Pre:Nat->List D->Prop} {w0:Base} {J:List D} {st:St} {g:Gh} {w:World} {a:Act}
def LoopOk(P:Program)(X:Nat->List D->D)(Pre:Nat->List D->Prop):Prop :=
 ∀(ex:ExecF),ExOk P X Pre ex -> ∀(lp:LoopP) (i:Nat) (b:Code),zKC (.block i b)=some lp -> ∀(st:St) (outs:List Out),∀(hn:Nat->Nat->Nat->Option Hint),loopS P hn ex st lp=some outs ->
  (∀o∈outs,∀x∈st.obl,x∈o.st.obl)/\(∀J,∃o∈outs,PcOk X J o.pc) /\ ∀(w0:Base) (J:List D) (g:Gh) (w:World) (a:Act),Mem P X w0 J st g w->Env X J st g a->(∀o∈outs,PcOk X J o.pc->zCA X Pre o.st.obl J) ->
   ∀Q:Exit->Act->World->Prop,(∀o∈outs,PcOk X J o.pc -> ∀g' w' a',Ext st g o.st g'->Mem P X w0 J o.st g' w'->Env X J o.st g' a'->Q o.ex.toExit a' w')->(Code.block i b).wp P Q a w
def xQJ(P:Program)(X:Nat->List D->D)(Pre:Nat->List D->Prop):Prop :=
 ∀(ex:ExecF),ExOk P X Pre ex -> ∀(i:Nat) (b:Code) (st st':St),loopW P ex st i b=some st' ->
  (∀x∈st.obl,x∈st'.obl) /\ ∀(w0:Base) (J:List D) (g:Gh) (w:World) (a:Act),Mem P X w0 J st g w->Env X J st g a->zCA X Pre st'.obl J ->
   ∀Q:Exit->Act->World->Prop,(∀g' w' a',Ext st g st' g'->Mem P X w0 J st' g' w'->Env X J st' g' a'->Q .normal a' w')->(Code.block i (.loop b)).wp P Q a w
theorem yDG{C:Cfg}(hctr:∀f c,C.ctr f=some c->xDA C.P X Pre f c){ex:ExecF}(hex:ExOk C.P X Pre ex):xSC C.P X Pre (qVA C (yZD C ex)):=by
 intro w0 J f as n st s st' g w a h he has hc hob;have inl:∀ {s:SV} {st':St},yZD C ex f as { st with nx:=n }=some (s,st')->zCA X Pre st'.obl J->(∃fn c,C.P.funcs[f]? = some fn/\fn.body=some c) /\
   Calls C.P f (dens X J g as).toArray w fun e w'=>∃g',e = .returned (s.den X J g')/\Ext st g st' g'/\Mem C.P X w0 J st' g' w'/\Env X J st' g' a/\s.ok X J:=fun hc hob=>by
  have h':Mem C.P X w0 J { st with nx:=n } g w:=h.same rfl rfl rfl rfl;have he':Env X J { st with nx:=n } g a:=he.of_env rfl rfl;obtain⟨h1,h2⟩:=yVG hex h' he' has hc hob;refine⟨h1,h2.mono fun e w' hh=>?_⟩;obtain⟨g',k1,k2,k3,k4,k5⟩:=hh;exact⟨g',k1,k2.same (s2:=st) rfl rfl,k3,k4,k5⟩
 unfold qVA at hc;split at hc
 ·rename_i c hf;split at hc
  ·rename_i q hq;cases hc;exact xQH (hctr f c hf) h he has hq hob
  ·split at hc
   ·exact inl hc hob
   ·cases hc
 ·exact inl hc hob
def xCH(P:Program)(c x:Code)(Q:Exit->Act->World->Prop)(a:Act)(w:World):Prop :=
 ∀(b:Frame) (k:List Item) (cs:List Frame),∃e a' w',Q e a' w'/\Arrives P (lone (b.at a (.code x :: .inScope c::k)) cs w) b k cs e a' w'
def yHH(P:Program)(c:Code)(Q:Exit->Act->World->Prop):Exit->Act->World->Prop
 | .goto l,a,w=>∃rest,findLabel c l=some rest/\xCH P c rest Q a w
 | e,a,w=>Q e a w
theorem zOG{c x:Code}{Q:Exit->Act->World->Prop}(h:x.wp P (yHH P c Q) a w):xCH P c x Q a w:=by
 intro b k cs;obtain⟨e,a₁,w₁,hq,harr⟩:=h b (.inScope c::k) cs;cases e with
 | normal=>exact⟨.normal,a₁,w₁,hq,Steps.trans harr (.one step_inScope)⟩
 | exit id=>exact⟨.exit id,a₁,w₁,hq,fun k' hk=>harr k' (by simp[exitTo,hk])⟩
 | goto l =>
  obtain⟨rest,hf,hs⟩:=hq;obtain⟨e₂,a₂,w₂,hq₂,harr₂⟩:=hs b k cs;exact⟨e₂,a₂,w₂,hq₂,.of_steps (harr _ (by simp[gotoIn,hf])) harr₂⟩
 | ret=>exact⟨_,a₁,w₁,hq,harr⟩
 | panic ch=>exact⟨_,a₁,w₁,hq,harr⟩
 | outgrown=>exact⟨_,a₁,w₁,hq,harr⟩
theorem yCI{c:Code}{Q:Exit->Act->World->Prop}(h:xCH P c c Q a w):(Code.scope c).wp P Q a w:=by
 intro b k cs;obtain⟨e,a₁,w₁,hq,harr⟩:=h b k cs;exact⟨e,a₁,w₁,hq,.of_steps (.one step_scope) harr⟩
theorem yPF{ex:ExecF}(hex:ExOk P X Pre ex){c:Code}:∀ {k:Nat} {outs fin:List Out},yGH ex c k outs=some fin ->
  (∀o∈fin,∃o'∈outs,∀x∈o'.st.obl,x∈o.st.obl)/\(∀(J:List D),∀o∈outs,PcOk X J o.pc -> ∃q∈fin,PcOk X J q.pc /\ ∀x∈o.st.obl,x∈q.st.obl) /\
  ∀(w0:Base) (J:List D) (st0:St) (g0:Gh) (Q:Exit->Act->World->Prop),(∀o∈fin,PcOk X J o.pc->zCA X Pre o.st.obl J) ->
   (∀o∈fin,PcOk X J o.pc -> ∀g' w' a',Ext st0 g0 o.st g'->Mem P X w0 J o.st g' w'->Env X J o.st g' a'->Q o.ex.toExit a' w') ->
   ∀o∈outs,PcOk X J o.pc -> ∀g' w' a',Ext st0 g0 o.st g'->Mem P X w0 J o.st g' w'->Env X J o.st g' a'->yHH P c Q o.ex.toExit a' w'
 | 0,outs,fin,h=>by simp[yGH] at h
 | k+1,outs,fin,h=>by
  change yFH ex c (yGH ex c k) outs=some fin at h
  induction outs generalizing fin with
  | nil =>
   simp only[yFH,Option.some.injEq] at h;subst h;exact⟨by simp,by simp,by simp⟩
  | cons o r ihr =>
   simp only[yFH] at h;split at h
   ·cases h
   rename_i r' hr;obtain⟨i1,i2,i3⟩:=ihr _ hr;have other:(∀l,o.ex ≠ .goto l)->fin=o::r'->_:=fun hne hfin=>(show (∀o1∈fin,∃o'∈o::r,∀x∈o'.st.obl,x∈o1.st.obl)/\(∀(J:List D),∀o1∈o::r,PcOk X J o1.pc -> ∃q∈fin,PcOk X J q.pc /\ ∀x∈o1.st.obl,x∈q.st.obl) /\
     ∀(w0:Base) (J:List D) (st0:St) (g0:Gh) (Q:Exit->Act->World->Prop),(∀o∈fin,PcOk X J o.pc->zCA X Pre o.st.obl J) ->
     (∀o∈fin,PcOk X J o.pc -> ∀g' w' a',Ext st0 g0 o.st g'->Mem P X w0 J o.st g' w'->Env X J o.st g' a'->Q o.ex.toExit a' w') ->
     ∀o1∈o::r,PcOk X J o1.pc -> ∀g' w' a',Ext st0 g0 o1.st g'->Mem P X w0 J o1.st g' w'->Env X J o1.st g' a'->yHH P c Q o1.ex.toExit a' w' by
    subst hfin;refine⟨fun o1 ho1=>?_,fun J o1 ho1 hpc=>?_,fun w0 J st0 g0 Q hob hQ o1 ho1 hpc g' w' a' k1 k2 k3=>?_⟩
    ·rcases List.mem_cons.1 ho1 with rfl|ho1
     ·exact⟨_,List.mem_cons_self,fun x hx=>hx⟩
     ·obtain⟨o',h1,h2⟩:=i1 o1 ho1;exact⟨o',List.mem_cons_of_mem _ h1,h2⟩
    ·rcases List.mem_cons.1 ho1 with rfl|ho1
     ·exact⟨_,List.mem_cons_self,hpc,fun x hx=>hx⟩
     ·obtain⟨q,h1,h2⟩:=i2 J o1 ho1 hpc;exact⟨q,List.mem_cons_of_mem _ h1,h2⟩
    ·rcases List.mem_cons.1 ho1 with rfl|ho1
     ·have hq:=hQ _ List.mem_cons_self hpc g' w' a' k1 k2 k3;cases hx:o1.ex with
      | goto l=>exact absurd hx (hne l)
      | norm=>rw[hx] at hq;exact hq
      | exit i=>rw[hx] at hq;exact hq
      | ret=>rw[hx] at hq;exact hq
     ·exact i3 w0 J st0 g0 Q (fun q hq=>hob q (List.mem_cons_of_mem _ hq)) (fun q hq=>hQ q (List.mem_cons_of_mem _ hq)) o1 ho1 hpc g' w' a' k1 k2 k3)
   split at h
   ·rename_i l hx;split at h
    rotate_left
    ·cases h
    rename_i rest hf;split at h
    rotate_left
    ·cases h
    rename_i o2 ho2;split at h
    rotate_left
    ·cases h
    rename_i o3 ho3;cases h;obtain⟨j1,j2,j3⟩:=yPF hex ho3;refine⟨fun o1 ho1=>?_,fun J o1 ho1 hpc=>?_,fun w0 J st0 g0 Q hob hQ o1 ho1 hpc g' w' a' k1 k2 k3=>?_⟩
    ·rcases List.mem_append.1 ho1 with ho1|ho1
     ·obtain⟨q,hq,rfl⟩:=List.mem_map.1 ho1;obtain⟨q',hq',hqo⟩:=j1 q hq;exact⟨o,List.mem_cons_self,fun x hx=>hqo x (hex.obl _ _ _ ho2 q' hq' x hx)⟩
     ·obtain⟨o',h1,h2⟩:=i1 o1 ho1;exact⟨o',List.mem_cons_of_mem _ h1,h2⟩
    ·rcases List.mem_cons.1 ho1 with rfl|ho1
     ·obtain⟨q,hq,hqp⟩:=hex.total J _ _ _ ho2;obtain⟨y,hy,hyp,hyo⟩:=j2 J q hq hqp;exact⟨_,List.mem_append_left _ (List.mem_map.2 ⟨y,hy,rfl⟩),PcOk.append.2 ⟨hpc,hyp⟩,fun x hx=>hyo x (hex.obl _ _ _ ho2 q hq x hx)⟩
     ·obtain⟨q,h1,h2⟩:=i2 J o1 ho1 hpc;exact⟨q,List.mem_append_right _ h1,h2⟩
    ·rcases List.mem_cons.1 ho1 with rfl|ho1
     ·rw[hx];refine⟨rest,hf,zOG (zTA (Q:=yHH P c Q) ?_)⟩;have hob3:∀q∈o3,PcOk X J q.pc->zCA X Pre q.st.obl J:=fun q hq hqp=>hob ⟨o1.pc++q.pc,q.ex,q.st⟩ (List.mem_append_left _ (List.mem_map.2 ⟨q,hq,rfl⟩)) (PcOk.append.2 ⟨hpc,hqp⟩)
      have hob2:∀q∈o2,PcOk X J q.pc->zCA X Pre q.st.obl J:=fun q hq hqp=>by
       obtain⟨y,hy,hyp,hyo⟩:=j2 J q hq hqp;exact zKA.2 fun x hx=>zKA.1 (hob3 y hy hyp) x (hyo x hx)
      refine hex.sound w0 J [rest] o1.st o2 g' w' a' k2 k3 ho2 hob2 _ (fun q hq hqp g2 w2 a2 m1 m2 m3=>?_);exact j3 w0 J o1.st g' Q hob3 (fun y hy hyp g3 w3 a3 n1 n2 n3=>hQ ⟨o1.pc++y.pc,y.ex,y.st⟩ (List.mem_append_left _ (List.mem_map.2 ⟨y,hy,rfl⟩)) (PcOk.append.2 ⟨hpc,hyp⟩) g3 w3 a3 (k1.trans n1) n2 n3) q hq hqp g2 w2 a2 m1 m2 m3
     ·exact i3 w0 J st0 g0 Q (fun q hq=>hob q (List.mem_append_right _ hq)) (fun q hq=>hQ q (List.mem_append_right _ hq)) o1 ho1 hpc g' w' a' k1 k2 k3
   ·rename_i hne;cases h;exact other (fun l e=>hne l e) rfl
theorem yNB{ex:ExecF}(hex:ExOk P X Pre ex){b:Code}:∀ {k:Nat} {st:St} {outs:List Out},yZF ex b k st=some outs ->
  (∀o∈outs,∀x∈st.obl,x∈o.st.obl)/\(∀J,∃o∈outs,PcOk X J o.pc) /\ ∀(w0:Base) (J:List D) (g:Gh) (w:World) (a:Act),Mem P X w0 J st g w->Env X J st g a->(∀o∈outs,PcOk X J o.pc->zCA X Pre o.st.obl J) ->
   ∀Q:Exit->Act->World->Prop,(∀o∈outs,PcOk X J o.pc -> ∀g' w' a',Ext st g o.st g'->Mem P X w0 J o.st g' w'->Env X J o.st g' a'->Q o.ex.toExit a' w')->Code.rounds P b Q k a w
 | 0,st,outs,h=>by simp[yZF] at h
 | k+1,st,outs,h=>by
  simp only[yZF] at h;split at h
  rotate_left
  ·cases h
  rename_i o1 ho1;refine⟨fun o ho x hx=>?_,fun J=>?_,fun w0 J g w a hm he hob Q hQ=>?_⟩
  ·rcases yQB h o ho with⟨h1,_⟩|⟨o',ho',_,q,hq,y,hy,rfl⟩
   ·exact hex.obl _ _ _ ho1 o h1 x hx
   ·exact(yNB hex hq).1 y hy x (hex.obl _ _ _ ho1 o' ho' x hx)
  ·obtain⟨o,ho,hpc⟩:=hex.total J _ _ _ ho1;obtain⟨h1,h2⟩:=xJA h o ho;by_cases hn:o.ex = .norm
   ·obtain⟨q,hq,hall⟩:=h2 hn;obtain⟨x,hx,hxp⟩:=(yNB hex hq).2.1 J;exact⟨_,hall x hx,PcOk.append.2 ⟨hpc,hxp⟩⟩
   ·exact⟨o,h1 hn,hpc⟩
  ·show b.wp P (Exit.then (Code.rounds P b Q k) Q) a w;refine zTA (hex.sound w0 J [b] st o1 g w a hm he ho1 (fun o ho hpc=>?_) _ (fun o ho hpc g' w' a' k1 k2 k3=>?_))
   ·obtain⟨h1,h2⟩:=xJA h o ho;by_cases hn:o.ex = .norm
    ·obtain⟨q,hq,hall⟩:=h2 hn;obtain⟨x,hx,hxp⟩:=(yNB hex hq).2.1 J;have hh:zCA X Pre x.st.obl J:=hob ⟨o.pc++x.pc,x.ex,x.st⟩ (hall x hx) (PcOk.append.2 ⟨hpc,hxp⟩);exact zKA.2 fun y hy=>zKA.1 hh y ((yNB hex hq).1 x hx y hy)
    ·exact hob o (h1 hn) hpc
   ·obtain⟨h1,h2⟩:=xJA h o ho;by_cases hn:o.ex = .norm
    ·obtain⟨q,hq,hall⟩:=h2 hn;rw[hn];exact(yNB hex hq).2.2 w0 J g' w' a' k2 k3 (fun x hx hxp=>hob ⟨o.pc++x.pc,x.ex,x.st⟩ (hall x hx) (PcOk.append.2 ⟨hpc,hxp⟩)) Q (fun x hx hxp g2 w2 a2 m1 m2 m3=>hQ ⟨o.pc++x.pc,x.ex,x.st⟩ (hall x hx) (PcOk.append.2 ⟨hpc,hxp⟩) g2 w2 a2 (k1.trans m1) m2 m3)
    ·exact yHC hn (hQ o (h1 hn) hpc g' w' a' k1 k2 k3)
theorem zDK{C:Cfg}(hnm:yWA C.P)(hord:C.P.follows .mixedOrders=true)(hctr:∀f c,C.ctr f=some c->xDA C.P X Pre f c)(hloop:LoopOk C.P X Pre)(hwhile:xQJ C.P X Pre):∀n dp,ExOk C.P X Pre (exec C n dp)
 | 0,dp=>⟨fun _ _ l st outs _ _ _ _ _ h=>by simp[exec] at h,fun l st outs h=>by simp[exec] at h,fun _ l st outs h=>by simp[exec] at h⟩
 | n+1,dp=>by
  have ih:=zDK hnm hord hctr hloop hwhile n;have hcall:∀dp,xSC C.P X Pre (qVA C (yZD C (exec C n dp))):=fun dp=>yDG hctr (ih dp)
  have key:∀(l:List Code) (st:St) (outs:List Out),exec C (n+1) dp l st=some outs ->
    (∀o∈outs,∀x∈st.obl,x∈o.st.obl)/\(∀J,∃o∈outs,PcOk X J o.pc) /\
    ∀(w0:Base) (J:List D) (g:Gh) (w:World) (a:Act),Mem C.P X w0 J st g w->Env X J st g a->(∀o∈outs,PcOk X J o.pc->zCA X Pre o.st.obl J) -> ∀Q:Exit->Act->World->Prop,
     (∀o∈outs,PcOk X J o.pc -> ∀g' w' a',Ext st g o.st g'->Mem C.P X w0 J o.st g' w'->Env X J o.st g' a'->Q o.ex.toExit a' w')->wpC C.P Q l a w:=by
   intro l st outs h;cases l with
   | nil =>
    simp only[exec,Option.some.injEq] at h;subst h;refine⟨by simp,fun J=>⟨_,List.mem_singleton.2 rfl,PcOk.nil⟩,fun w0 J g w a hm he hob Q hQ=>?_⟩;exact hQ ⟨[],.norm,st⟩ (by simp) PcOk.nil g w a (Ext.refl st g) hm he
   | cons c r =>
    cases c with
    | skip =>
     simp only[exec] at h;refine⟨(ih dp).obl r st outs h,fun J=>(ih dp).total J r st outs h,fun w0 J g w a hm he hob Q hQ=>?_⟩;exact wp_skip ((ih dp).sound w0 J r st outs g w a hm he h hob Q hQ)
    | seq x y =>
     simp only[exec] at h;refine⟨(ih dp).obl _ st outs h,fun J=>(ih dp).total J _ st outs h,fun w0 J g w a hm he hob Q hQ=>?_⟩;have hs:=(ih dp).sound w0 J _ st outs g w a hm he h hob Q hQ;show (Code.seq x y).wp C.P (Exit.then (wpC C.P Q r) Q) a w;refine wp_seq ?_;have hs':x.wp C.P (Exit.then (fun a w=>y.wp C.P (Exit.then (wpC C.P Q r) Q) a w) Q) a w:=hs;rw[yTH];exact hs'
    | ret =>
     simp only[exec,Option.some.injEq] at h;subst h;refine⟨by simp,fun J=>⟨_,List.mem_singleton.2 rfl,PcOk.nil⟩,fun w0 J g w a hm he hob Q hQ=>?_⟩;exact wp_ret (hQ ⟨[],.ret,st⟩ (by simp) PcOk.nil g w a (Ext.refl st g) hm he)
    | exit i =>
     simp only[exec,Option.some.injEq] at h;subst h;refine⟨by simp,fun J=>⟨_,List.mem_singleton.2 rfl,PcOk.nil⟩,fun w0 J g w a hm he hob Q hQ=>?_⟩;exact wp_exit (hQ ⟨[],.exit i,st⟩ (by simp) PcOk.nil g w a (Ext.refl st g) hm he)
    | region id ops draw =>
     simp only[exec] at h;split at h
     ·rename_i st1 hreg;have hst1:∀x∈st.obl,x∈st1.obl:=zEI hreg;refine⟨fun o ho x hx=>(ih dp).obl r _ outs h o ho x (hst1 x hx),fun J=>(ih dp).total J r _ outs h,fun w0 J g w a hm he hob Q hQ=>?_⟩;have hob1:zCA X Pre st1.obl J:=by
       obtain⟨o,ho,hpc⟩:=(ih dp).total J r _ outs h;exact zKA.2 fun x hx=>zKA.1 (hob o ho hpc) x ((ih dp).obl r _ outs h o ho x hx)
      show (Code.region id ops draw).wp C.P (Exit.then (wpC C.P Q r) Q) a w;exact xJG hnm hord (hcall (dp-1)) hm he hreg hob1 (fun g' w' a' k1 k2 k3 =>
       (ih dp).sound w0 J r st1 outs g' w' a' k2 k3 h hob Q (fun o ho hpc g2 w2 a2 m1 m2 m3=>hQ o ho hpc g2 w2 a2 (k1.trans m1) m2 m3))
     ·split at h
      rotate_left
      ·cases h
      rename_i s1 s2 htwo _;split at h
      rotate_left
      ·cases h
      rename_i t1 ht1;split at h
      rotate_left
      ·cases h
      rename_i t2 ht2;split at h
      rotate_left
      ·cases h
      rename_i m hj;cases h;obtain⟨b1,b2⟩:=xKG htwo;have e1:=fun x hx=>(ih dp).obl r _ _ ht1 _ (List.mem_singleton.2 rfl) x hx
      have e2:=fun x hx=>(ih dp).obl r _ _ ht2 _ (List.mem_singleton.2 rfl) x hx
      refine⟨fun o ho x hx=>?_,fun J=>⟨_,List.mem_singleton.2 rfl,PcOk.nil⟩,fun w0 J g w a hm he hob Q hQ=>?_⟩
      ·rw[List.mem_singleton] at ho;subst ho
       exact(zCF (P:=C.P) (X:=X) (w0:=⟨default,fun _=>True,fun _=>False⟩) (J:=[]) hj).1 x (e1 x (b1 x hx))
      ·obtain⟨c1,c2,c3⟩:=zCF (P:=C.P) (X:=X) (w0:=w0) (J:=J) hj;have hobm:zCA X Pre m.obl J:=hob _ (List.mem_singleton.2 rfl) PcOk.nil;have hot1:zCA X Pre t1.obl J:=zKA.2 fun x hx=>zKA.1 hobm x (c1 x hx)
       have hot2:zCA X Pre t2.obl J:=zKA.2 fun x hx=>zKA.1 hobm x (c2 x hx)
       show (Code.region id ops true).wp C.P (Exit.then (wpC C.P Q r) Q) a w;refine yGF hnm hord (hcall (dp-1)) hm he htwo (zKA.2 fun x hx=>zKA.1 hot1 x (e1 x hx)) (zKA.2 fun x hx=>zKA.1 hot2 x (e2 x hx)) (fun g' w' a' k1 k2 k3=>?_) (fun g' w' a' k1 k2 k3=>?_)
       ·refine(ih dp).sound w0 J r s1 _ g' w' a' k2 k3 ht1 (fun o ho _=>by rw[List.mem_singleton] at ho;subst ho;exact hot1) Q (fun o ho hpc g2 w2 a2 m1 m2 m3=>?_);rw[List.mem_singleton] at ho;subst ho
        obtain⟨g3,n1,n2,n3⟩:=c3 true g g2 w2 a2 m2 m3 (k1.trans m1);exact hQ _ (List.mem_singleton.2 rfl) PcOk.nil g3 w2 a2 n3 n1 n2
       ·refine(ih dp).sound w0 J r { s2 with nx:=max t1.nx s2.nx } [⟨[],.norm,t2⟩] g' w' a' (k2.same rfl rfl rfl rfl) (k3.of_env rfl rfl) ht2 (fun o ho _=>by rw[List.mem_singleton] at ho;subst ho;exact hot2) Q (fun o ho hpc g2 w2 a2 m1 m2 m3=>?_);rw[List.mem_singleton] at ho;subst ho
        obtain⟨g3,n1,n2,n3⟩:=c3 false g g2 w2 a2 m2 m3 (k1.trans (m1.same (s2:=s2) rfl rfl));exact hQ _ (List.mem_singleton.2 rfl) PcOk.nil g3 w2 a2 n3 n1 n2
    | cond cnd t e =>
     simp only[exec] at h;split at h
     ·rename_i b hopd;refine⟨(ih dp).obl _ st outs h,fun J=>(ih dp).total J _ st outs h,fun w0 J g w a hm he hob Q hQ=>?_⟩;have hs:=(ih dp).sound w0 J _ st outs g w a hm he h hob Q hQ;have hc:a.eval cnd = .bool b:=by rw[yIA he hopd];rfl
      show (Code.cond cnd t e).wp C.P (Exit.then (wpC C.P Q r) Q) a w;refine wp_cond hc ?_;cases b <;> exact hs
     ·rename_i d hnb hopd;split at h
      ·cases h
      rename_i o1 ho1;split at h
      ·cases h
      rename_i o2 ho2;generalize hnx:o1.foldl (fun m o=>max m o.st.nx) st.nx=nx at ho2;have hcond:∀(J:List D) (g:Gh) (w:World) (a:Act) (K:Exit->Act->World->Prop),Env X J st g a->((d.eval X J).asBool=true->t.wp C.P K a w)->((d.eval X J).asBool=false->e.wp C.P K a w)->(Code.cond cnd t e).wp C.P K a w:=fun J g w a K he h1 h2=>by
       have hc:a.eval cnd = .bool (d.eval X J).asBool:=by rw[yIA he hopd];rfl
       exact wp_cond_split hc h1 h2
      split at h
      ·rename_i m hjoin;have hj:∃s1 s2,o1=[⟨[],.norm,s1⟩]/\o2=[⟨[],.norm,s2⟩]/\xMF C.P d st s1 s2=some m:=by
        unfold joinF at hjoin;split at hjoin
        ·cases hjoin
        unfold joinS at hjoin;split at hjoin
        ·exact⟨_,_,rfl,rfl,hjoin⟩
        ·cases hjoin
       obtain⟨s1,s2,rfl,rfl,hmg⟩:=hj;have hmobl:=qPD hmg;refine⟨fun o ho x hx=>(ih dp).obl r m outs h o ho x (by rw[hmobl];exact List.mem_append_right _ hx),fun J=>(ih dp).total J r m outs h,fun w0 J g w a hm he hob Q hQ=>?_⟩;have hob1:zCA X Pre m.obl J:=by
        obtain⟨o,ho,hpc⟩:=(ih dp).total J r m outs h;exact zKA.2 fun x hx=>zKA.1 (hob o ho hpc) x ((ih dp).obl r m outs h o ho x hx)
       rw[hmobl] at hob1;obtain⟨hw1,hw2⟩:=xZA (zPA.1 hob1).1;have hmem:∀nx,Mem C.P X w0 J { st with obl:=[],nx:=nx } g w:=fun nx=>hm.same rfl rfl rfl rfl
       have henv:∀nx,Env X J { st with obl:=[],nx:=nx } g a:=fun nx=>he.of_env rfl rfl
       have side:∀(bb:Bool) (s:St) (g':Gh) (w':World) (a':Act),(d.eval X J).asBool=bb->s=sel bb s1 s2->Ext st g s g'->Mem C.P X w0 J s g' w'->Env X J s g' a'->Exit.then (wpC C.P Q r) Q .normal a' w':=by
        intro bb s g' w' a' hbb hs k1 k2 k3;subst hs;obtain⟨g2,q1,q2,q3⟩:=yCB bb hbb k2 k3 k1 hmg;exact(ih dp).sound w0 J r m outs g2 w' a' q1 q2 h hob Q (fun o ho hpc g3 w3 a3 m1 m2 m3=>hQ o ho hpc g3 w3 a3 (q3.trans m1) m2 m3)
       show (Code.cond cnd t e).wp C.P (Exit.then (wpC C.P Q r) Q) a w;refine hcond J g w a _ he (fun hb=>?_) (fun hb=>?_)
       ·refine zTA ((ih dp).sound w0 J [t] { st with obl:=[] } _ g w a (hm.same rfl rfl rfl rfl) (he.of_env rfl rfl) ho1 (fun o ho _=>?_) _ (fun o ho _ g' w' a' k1 k2 k3=>?_))
        ·simp only[List.mem_singleton] at ho;subst ho;exact hw1 hb
        ·simp only[List.mem_singleton] at ho;subst ho
         exact side true s1 g' w' a' hb rfl (k1.same (s2:=st) rfl rfl) k2 k3
       ·refine zTA ((ih dp).sound w0 J [e] { st with obl:=[],nx:=nx } _ g w a (hmem nx) (henv nx) ho2 (fun o ho _=>?_) _ (fun o ho _ g' w' a' k1 k2 k3=>?_))
        ·simp only[List.mem_singleton] at ho;subst ho;exact hw2 hb
        ·simp only[List.mem_singleton] at ho;subst ho
         exact side false s2 g' w' a' hb rfl (k1.same (s2:=st) rfl rfl) k2 k3
      ·skip
       split at h
       ·rename_i l0 hl0;cases h;have h:=hl0;generalize hL:(o1.map (fun o=>(⟨(d,true)::o.pc,o.ex,{ o.st with obl:=o.st.obl++st.obl }⟩:Out))++o2.map (fun o=>(⟨(d,false)::o.pc,o.ex,{ o.st with obl:=o.st.obl++st.obl }⟩:Out)))=L at h;have hLobl:∀o∈L,∀x∈st.obl,x∈o.st.obl:=by
         intro o ho x hx;rw[<- hL] at ho;rcases List.mem_append.1 ho with ho|ho
         ·obtain⟨q,hq,rfl⟩:=List.mem_map.1 ho;exact List.mem_append_right _ hx
         ·obtain⟨q,hq,rfl⟩:=List.mem_map.1 ho;exact List.mem_append_right _ hx
        have hLtot:∀J,∃o∈L,PcOk X J o.pc:=by
         intro J;rw[<- hL];cases hb:(d.eval X J).asBool with
         | true =>
          obtain⟨o,ho,hpc⟩:=(ih dp).total J [t] _ o1 ho1;exact⟨_,List.mem_append_left _ (List.mem_map.2 ⟨o,ho,rfl⟩),fun p hp=>by
           rcases List.mem_cons.1 hp with rfl|hp
           ·exact hb
           ·exact hpc p hp⟩
         | false =>
          obtain⟨o,ho,hpc⟩:=(ih dp).total J [e] _ o2 ho2;exact⟨_,List.mem_append_right _ (List.mem_map.2 ⟨o,ho,rfl⟩),fun p hp=>by
           rcases List.mem_cons.1 hp with rfl|hp
           ·exact hb
           ·exact hpc p hp⟩
        refine⟨fun o ho x hx=>?_,fun J=>?_,fun w0 J g w a hm he hob Q hQ=>?_⟩
        ·rcases yQB h o ho with⟨h1,_⟩|⟨o',ho',_,q,hq,y,hy,rfl⟩
         ·exact hLobl o h1 x hx
         ·exact(ih dp).obl r o'.st q hq y hy x (hLobl o' ho' x hx)
        ·obtain⟨o,ho,hpc⟩:=hLtot J;obtain⟨h1,h2⟩:=xJA h o ho;by_cases hn:o.ex = .norm
         ·obtain⟨q,hq,hall⟩:=h2 hn;obtain⟨x,hx,hxp⟩:=(ih dp).total J r o.st q hq;exact⟨_,hall x hx,PcOk.append.2 ⟨hpc,hxp⟩⟩
         ·exact⟨o,h1 hn,hpc⟩
        ·obtain⟨b1,b2⟩:=yAB (ih dp) h hob hQ;show (Code.cond cnd t e).wp C.P (Exit.then (wpC C.P Q r) Q) a w;refine hcond J g w a _ he (fun hb=>?_) (fun hb=>?_)
         ·have hin:∀o∈o1,PcOk X J o.pc->(⟨(d,true)::o.pc,o.ex,{ o.st with obl:=o.st.obl++st.obl }⟩:Out)∈L/\PcOk X J ((d,true)::o.pc):=fun o ho hpc=>⟨by
           rw[<- hL];exact List.mem_append_left _ (List.mem_map.2 ⟨o,ho,rfl⟩),fun p hp=>by
           rcases List.mem_cons.1 hp with rfl|hp
           ·exact hb
           ·exact hpc p hp⟩
          refine zTA ((ih dp).sound w0 J [t] { st with obl:=[] } _ g w a (hm.same rfl rfl rfl rfl) (he.of_env rfl rfl) ho1 (fun o ho hpc=>?_) _ (fun o ho hpc g' w' a' k1 k2 k3=>?_))
          ·have:=b1 _ (hin o ho hpc).1 (hin o ho hpc).2
           exact(zPA.1 this).1
          ·exact b2 _ (hin o ho hpc).1 (hin o ho hpc).2 g' w' a' ((k1.same (s2:=st) rfl rfl).same' rfl rfl) (k2.same rfl rfl rfl rfl) (k3.of_env rfl rfl)
         ·have hin:∀o∈o2,PcOk X J o.pc->(⟨(d,false)::o.pc,o.ex,{ o.st with obl:=o.st.obl++st.obl }⟩:Out)∈L/\PcOk X J ((d,false)::o.pc):=fun o ho hpc=>⟨by
           rw[<- hL];exact List.mem_append_right _ (List.mem_map.2 ⟨o,ho,rfl⟩),fun p hp=>by
           rcases List.mem_cons.1 hp with rfl|hp
           ·exact hb
           ·exact hpc p hp⟩
          refine zTA ((ih dp).sound w0 J [e] { st with obl:=[],nx:=nx } _ g w a (hm.same rfl rfl rfl rfl) (he.of_env rfl rfl) ho2 (fun o ho hpc=>?_) _ (fun o ho hpc g' w' a' k1 k2 k3=>?_))
          ·have:=b1 _ (hin o ho hpc).1 (hin o ho hpc).2
           exact(zPA.1 this).1
          ·exact b2 _ (hin o ho hpc).1 (hin o ho hpc).2 g' w' a' ((k1.same (s2:=st) rfl rfl).same' rfl rfl) (k2.same rfl rfl rfl rfl) (k3.of_env rfl rfl)
       ·split at h
        rotate_left
        ·cases h
        generalize hL:(o2.map (fun o=>(⟨o.pc,o.ex,{ o.st with obl:=o.st.obl++(qGF d::st.obl) }⟩:Out)))=L at h;have hLin:∀o∈o2,(⟨o.pc,o.ex,{ o.st with obl:=o.st.obl++(qGF d::st.obl) }⟩:Out)∈L:=fun o ho=>by rw[<- hL];exact List.mem_map.2 ⟨o,ho,rfl⟩
        have hLinv:∀o∈L,∃q∈o2,o=⟨q.pc,q.ex,{ q.st with obl:=q.st.obl++(qGF d::st.obl) }⟩:=fun o ho=>by
         rw[<- hL] at ho;obtain⟨q,hq,rfl⟩:=List.mem_map.1 ho;exact⟨q,hq,rfl⟩
        have hLobl:∀o∈L,∀x∈qGF d::st.obl,x∈o.st.obl:=by
         intro o ho x hx;obtain⟨q,hq,rfl⟩:=hLinv o ho;exact List.mem_append_right _ hx
        have hLtot:∀J,∃o∈L,PcOk X J o.pc:=by
         intro J;obtain⟨o,ho,hpc⟩:=(ih dp).total J [e] _ o2 ho2;exact⟨_,hLin o ho,hpc⟩
        refine⟨fun o ho x hx=>?_,fun J=>?_,fun w0 J g w a hm he hob Q hQ=>?_⟩
        ·rcases yQB h o ho with⟨h1,_⟩|⟨o',ho',_,q,hq,y,hy,rfl⟩
         ·exact hLobl o h1 x (List.mem_cons_of_mem _ hx)
         ·exact(ih dp).obl r o'.st q hq y hy x (hLobl o' ho' x (List.mem_cons_of_mem _ hx))
        ·obtain⟨o,ho,hpc⟩:=hLtot J;obtain⟨h1,h2⟩:=xJA h o ho;by_cases hn:o.ex = .norm
         ·obtain⟨q,hq,hall⟩:=h2 hn;obtain⟨x,hx,hxp⟩:=(ih dp).total J r o.st q hq;exact⟨_,hall x hx,PcOk.append.2 ⟨hpc,hxp⟩⟩
         ·exact⟨o,h1 hn,hpc⟩
        ·obtain⟨b1,b2⟩:=yAB (ih dp) h hob hQ;have hdead:(d.eval X J).asBool=true->False:=fun hb=>by
          obtain⟨o,ho,hpc⟩:=hLtot J
          have:=zKA.1 (b1 o ho hpc) (qGF d) (hLobl o ho _ List.mem_cons_self)
          have h0:zCA X Pre [.nz (.k (.int 0))] J:=this hb;exact h0.1 rfl
         show (Code.cond cnd t e).wp C.P (Exit.then (wpC C.P Q r) Q) a w;refine hcond J g w a _ he (fun hb=>(hdead hb).elim) (fun hb=>?_);refine zTA ((ih dp).sound w0 J [e] { st with obl:=[],nx:=nx } _ g w a (hm.same rfl rfl rfl rfl) (he.of_env rfl rfl) ho2 (fun o ho hpc=>?_) _ (fun o ho hpc g' w' a' k1 k2 k3=>?_))
         ·have:=b1 _ (hLin o ho) hpc
          exact(zPA.1 this).1
         ·exact b2 _ (hLin o ho) hpc g' w' a' ((k1.same (s2:=st) rfl rfl).same' rfl rfl) (k2.same rfl rfl rfl rfl) (k3.of_env rfl rfl)
     ·cases h
    | block i b =>
     simp only[exec] at h;split at h
     ·rename_i lp hlp;split at h
      ·rename_i o1 hl;obtain⟨h1,h2,h3⟩:=hloop (exec C n dp) (ih dp) lp i b (qNH hlp) st o1 C.hint hl;refine⟨fun o ho x hx=>?_,fun J=>?_,fun w0 J g w a hm he hob Q hQ=>?_⟩
       ·rcases yQB h o ho with⟨k1,_⟩|⟨o',ho',_,q,hq,y,hy,rfl⟩
        ·exact h1 o k1 x hx
        ·exact(ih dp).obl r o'.st q hq y hy x (h1 o' ho' x hx)
       ·obtain⟨o,ho,hpc⟩:=h2 J;obtain⟨k1,k2⟩:=xJA h o ho;by_cases hn:o.ex = .norm
        ·obtain⟨q,hq,hall⟩:=k2 hn;obtain⟨x,hx,hxp⟩:=(ih dp).total J r o.st q hq;exact⟨_,hall x hx,PcOk.append.2 ⟨hpc,hxp⟩⟩
        ·exact⟨o,k1 hn,hpc⟩
       ·obtain⟨b1,b2⟩:=yAB (ih dp) h hob hQ;show (Code.block i b).wp C.P (Exit.then (wpC C.P Q r) Q) a w;exact h3 w0 J g w a hm he b1 _ (fun o ho hpc g' w' a' k1 k2 k3=>b2 o ho hpc g' w' a' k1 k2 k3)
      ·cases h
     split at h
     ·rename_i b' _;split at h
      ·split at h
       rotate_left
       ·cases h
       rename_i o1 ho1;obtain⟨u1,u2,u3⟩:=yNB (ih dp) ho1;have hUobl:∀o∈xNB i o1,∀x∈st.obl,x∈o.st.obl:=by
        intro o ho x hx;obtain⟨o',h1,_,h2⟩:=xIC i ho;rw[h2];exact u1 o' h1 x hx
       refine⟨fun o ho x hx=>?_,fun J=>?_,fun w0 J g w a hm he hob Q hQ=>?_⟩
       ·rcases yQB h o ho with⟨h1,_⟩|⟨o',ho',_,q,hq,y,hy,rfl⟩
        ·exact hUobl o h1 x hx
        ·exact(ih dp).obl r o'.st q hq y hy x (hUobl o' ho' x hx)
       ·obtain⟨o0,ho0,hpc0⟩:=u2 J;obtain⟨o,ho,hpc,_,_⟩:=xTA i ho0;rw[<- hpc] at hpc0;obtain⟨h1,h2⟩:=xJA h o ho;by_cases hn:o.ex = .norm
        ·obtain⟨q,hq,hall⟩:=h2 hn;obtain⟨x,hx,hxp⟩:=(ih dp).total J r o.st q hq;exact⟨_,hall x hx,PcOk.append.2 ⟨hpc0,hxp⟩⟩
        ·exact⟨o,h1 hn,hpc0⟩
       ·obtain⟨b1,b2⟩:=yAB (ih dp) h hob hQ;show (Code.block i (.loop b')).wp C.P (Exit.then (wpC C.P Q r) Q) a w;refine wp_block (wp_loop_rounds 4 (u3 w0 J g w a hm he (fun o ho hpc=>?_) _ (fun o ho hpc g' w' a' k1 k2 k3=>?_)))
        ·obtain⟨o',h1,h2,h3,_⟩:=xTA i ho;rw[<- h3];exact b1 o' h1 (by rw[h2];exact hpc)
        ·obtain⟨o',h1,h2,h3,h4⟩:=xTA i ho;have hb:=b2 o' h1 (by rw[h2];exact hpc) g' w' a' (by rw[h3];exact k1) (by rw[h3];exact k2) (by rw[h3];exact k3);rcases h4 with⟨h5,h6⟩|⟨h5,h6⟩
         ·rw[h6] at hb;rw[h5];simpa[Ex.toExit,Exit.inBlock] using hb
         ·rw[h6] at hb;cases hx:o.ex with
          | norm=>rw[hx] at hb;exact hb
          | ret=>rw[hx] at hb;exact hb
          | goto l=>rw[hx] at hb;exact hb
          | exit j =>
           rw[hx] at hb h5;have hij:¬(j=i):=fun e=>h5 (by rw[e])
           simpa[Ex.toExit,Exit.inBlock,hij] using hb
      split at h
      ·rename_i st1 hl;obtain⟨h1,h2⟩:=hwhile (exec C n dp) (ih dp) i b' st st1 hl;refine⟨fun o ho x hx=>(ih dp).obl r st1 outs h o ho x (h1 x hx),fun J=>(ih dp).total J r st1 outs h,fun w0 J g w a hm he hob Q hQ=>?_⟩;have hob1:zCA X Pre st1.obl J:=by
        obtain⟨o,ho,hpc⟩:=(ih dp).total J r st1 outs h;exact zKA.2 fun x hx=>zKA.1 (hob o ho hpc) x ((ih dp).obl r st1 outs h o ho x hx)
       exact h2 w0 J g w a hm he hob1 (Exit.then (wpC C.P Q r) Q) (fun g' w' a' k1 k2 k3 =>
        (ih dp).sound w0 J r st1 outs g' w' a' k2 k3 h hob Q (fun o ho hpc g2 w2 a2 m1 m2 m3=>hQ o ho hpc g2 w2 a2 (k1.trans m1) m2 m3))
      ·split at h
       rotate_left
       ·cases h
       rename_i o1 ho1;split at h
       rotate_left
       ·cases h
       rename_i hexit;have hUobl:∀o∈xNB i o1,∀x∈st.obl,x∈o.st.obl:=by
        intro o ho x hx;obtain⟨o',h1,_,h2⟩:=xIC i ho;rw[h2];exact(ih dp).obl [b'] st o1 ho1 o' h1 x hx
       refine⟨fun o ho x hx=>?_,fun J=>?_,fun w0 J g w a hm he hob Q hQ=>?_⟩
       ·rcases yQB h o ho with⟨h1,_⟩|⟨o',ho',_,q,hq,y,hy,rfl⟩
        ·exact hUobl o h1 x hx
        ·exact(ih dp).obl r o'.st q hq y hy x (hUobl o' ho' x hx)
       ·obtain⟨o0,ho0,hpc0⟩:=(ih dp).total J [b'] st o1 ho1;obtain⟨o,ho,hpc,_,_⟩:=xTA i ho0;rw[<- hpc] at hpc0;obtain⟨h1,h2⟩:=xJA h o ho;by_cases hn:o.ex = .norm
        ·obtain⟨q,hq,hall⟩:=h2 hn;obtain⟨x,hx,hxp⟩:=(ih dp).total J r o.st q hq;exact⟨_,hall x hx,PcOk.append.2 ⟨hpc0,hxp⟩⟩
        ·exact⟨o,h1 hn,hpc0⟩
       ·obtain⟨b1,b2⟩:=yAB (ih dp) h hob hQ;show (Code.block i (.loop b')).wp C.P (Exit.then (wpC C.P Q r) Q) a w;refine wp_block (wp_loop (I:=fun a1 w1=>a1=a/\w1=w) (μ:=fun _ _=>0) ⟨rfl,rfl⟩ (fun a1 w1 hI=>?_));obtain⟨rfl,rfl⟩:=hI;refine zTA ((ih dp).sound w0 J [b'] st o1 g w1 a1 hm he ho1 (fun o ho hpc=>?_) _ (fun o ho hpc g' w' a' k1 k2 k3=>?_))
        ·obtain⟨o',h1,h2,h3,_⟩:=xTA i ho;rw[<- h3];exact b1 o' h1 (by rw[h2];exact hpc)
        ·obtain⟨o',h1,h2,h3,h4⟩:=xTA i ho;have hb:=b2 o' h1 (by rw[h2];exact hpc) g' w' a' (by rw[h3];exact k1) (by rw[h3];exact k2) (by rw[h3];exact k3);have hex:o.ex = .exit i:=by simpa using List.all_eq_true.1 hexit o ho
         rcases h4 with⟨h5,h6⟩|⟨h5,h6⟩
         ·rw[h6] at hb;rw[h5];simpa[Ex.toExit,Exit.inBlock,Exit.then] using hb
         ·exact absurd hex h5
     ·split at h
      ·rename_i o1 ho1;have hUobl:∀o∈xNB i o1,∀x∈st.obl,x∈o.st.obl:=by
        intro o ho x hx;obtain⟨o',h1,_,h2⟩:=xIC i ho;rw[h2];exact(ih dp).obl [b] st o1 ho1 o' h1 x hx
       refine⟨fun o ho x hx=>?_,fun J=>?_,fun w0 J g w a hm he hob Q hQ=>?_⟩
       ·rcases yQB h o ho with⟨h1,_⟩|⟨o',ho',_,q,hq,y,hy,rfl⟩
        ·exact hUobl o h1 x hx
        ·exact(ih dp).obl r o'.st q hq y hy x (hUobl o' ho' x hx)
       ·obtain⟨o0,ho0,hpc0⟩:=(ih dp).total J [b] st o1 ho1;obtain⟨o,ho,hpc,_,_⟩:=xTA i ho0;rw[<- hpc] at hpc0;obtain⟨h1,h2⟩:=xJA h o ho;by_cases hn:o.ex = .norm
        ·obtain⟨q,hq,hall⟩:=h2 hn;obtain⟨x,hx,hxp⟩:=(ih dp).total J r o.st q hq;exact⟨_,hall x hx,PcOk.append.2 ⟨hpc0,hxp⟩⟩
        ·exact⟨o,h1 hn,hpc0⟩
       ·obtain⟨b1,b2⟩:=yAB (ih dp) h hob hQ;show (Code.block i b).wp C.P (Exit.then (wpC C.P Q r) Q) a w;refine wp_block (zTA ((ih dp).sound w0 J [b] st o1 g w a hm he ho1 (fun o ho hpc=>?_) _ (fun o ho hpc g' w' a' k1 k2 k3=>?_)))
        ·obtain⟨o',h1,h2,h3,_⟩:=xTA i ho;rw[<- h3];exact b1 o' h1 (by rw[h2];exact hpc)
        ·obtain⟨o',h1,h2,h3,h4⟩:=xTA i ho;have hb:=b2 o' h1 (by rw[h2];exact hpc) g' w' a' (by rw[h3];exact k1) (by rw[h3];exact k2) (by rw[h3];exact k3);rcases h4 with⟨h5,h6⟩|⟨h5,h6⟩
         ·rw[h6] at hb;rw[h5];simpa[Ex.toExit,Exit.inBlock] using hb
         ·rw[h6] at hb;cases hx:o.ex with
          | norm=>rw[hx] at hb;exact hb
          | ret=>rw[hx] at hb;exact hb
          | goto l=>rw[hx] at hb;exact hb
          | exit j =>
           rw[hx] at hb h5;have hij:¬(j=i):=fun e=>h5 (by rw[e])
           simpa[Ex.toExit,Exit.inBlock,hij] using hb
      ·cases h
    | label l =>
     simp only[exec] at h;refine⟨(ih dp).obl r st outs h,fun J=>(ih dp).total J r st outs h,fun w0 J g w a hm he hob Q hQ=>?_⟩;exact wp_label ((ih dp).sound w0 J r st outs g w a hm he h hob Q hQ)
    | goto l =>
     simp only[exec,Option.some.injEq] at h;subst h;refine⟨by simp,fun J=>⟨_,List.mem_singleton.2 rfl,PcOk.nil⟩,fun w0 J g w a hm he hob Q hQ=>?_⟩;exact wp_goto (hQ ⟨[],.goto l,st⟩ (by simp) PcOk.nil g w a (Ext.refl st g) hm he)
    | scope b =>
     simp only[exec] at h;split at h
     rotate_left
     ·cases h
     rename_i o1 ho1;split at h
     rotate_left
     ·cases h
     rename_i o2 ho2;obtain⟨j1,j2,j3⟩:=yPF (ih dp) ho2;refine⟨fun o ho x hx=>?_,fun J=>?_,fun w0 J g w a hm he hob Q hQ=>?_⟩
     ·have hb:∀o∈o2,∀x∈st.obl,x∈o.st.obl:=fun o ho x hx=>by
       obtain⟨o',h1,h2⟩:=j1 o ho;exact h2 x ((ih dp).obl [b] st o1 ho1 o' h1 x hx)
      rcases yQB h o ho with⟨h1,_⟩|⟨o',ho',_,q,hq,y,hy,rfl⟩
      ·exact hb o h1 x hx
      ·exact(ih dp).obl r o'.st q hq y hy x (hb o' ho' x hx)
     ·obtain⟨o0,ho0,hpc0⟩:=(ih dp).total J [b] st o1 ho1;obtain⟨o,ho,hpc,_⟩:=j2 J o0 ho0 hpc0;obtain⟨h1,h2⟩:=xJA h o ho;by_cases hn:o.ex = .norm
      ·obtain⟨q,hq,hall⟩:=h2 hn;obtain⟨x,hx,hxp⟩:=(ih dp).total J r o.st q hq;exact⟨_,hall x hx,PcOk.append.2 ⟨hpc,hxp⟩⟩
      ·exact⟨o,h1 hn,hpc⟩
     ·obtain⟨b1,b2⟩:=yAB (ih dp) h hob hQ;show (Code.scope b).wp C.P (Exit.then (wpC C.P Q r) Q) a w;have hob1:∀o∈o1,PcOk X J o.pc->zCA X Pre o.st.obl J:=fun o ho hpc=>by
       obtain⟨q,hq,hqp,hqo⟩:=j2 J o ho hpc;exact zKA.2 fun x hx=>zKA.1 (b1 q hq hqp) x (hqo x hx)
      refine yCI (zOG (zTA (Q:=yHH C.P b _) ((ih dp).sound w0 J [b] st o1 g w a hm he ho1 hob1 _ (fun o ho hpc g' w' a' k1 k2 k3=>?_))));exact j3 w0 J st g _ b1 (fun q hq hqp g2 w2 a2 m1 m2 m3=>b2 q hq hqp g2 w2 a2 m1 m2 m3) o ho hpc g' w' a' k1 k2 k3
    | _=>simp[exec] at h
  exact⟨fun w0 J l st outs g w a hm he h hob Q hQ=>(key l st outs h).2.2 w0 J g w a hm he hob Q hQ,fun l st outs h=>(key l st outs h).1,fun J l st outs h=>(key l st outs h).2.1 J⟩
end
end Go.Dx
namespace Go.Dx
open Go
section
variable {P:Program} {X:Nat->List D->D} {Pre:Nat->List D->Prop} {w0:Base} {J δ':List D} {st:St} {g g':Gh} {w:World} {a:Act}
mutual
theorem xCA{n:Nat}(h:J.take n=δ'.take n):∀ {e:DE},e.shut n=true->e.eval X J=e.eval X δ'
 | .v i,hs=>by
  simp only[DE.shut,dtZ] at hs;have e1:(J.take n)[i]? = J[i]?:=by rw[List.getElem?_take];simp[hs]
  have e2:(δ'.take n)[i]? = δ'[i]?:=by rw[List.getElem?_take];simp[hs]
  simp only[DE.eval,List.getD_eq_getElem?_getD];rw[<- e1,<- e2,h]
 | .k d,_=>rfl
 | .f m as,hs=>by
  have:zQI n as=true:=by simpa[DE.shut] using hs
  simp only[DE.eval];rw[zTD h this]
 | .fold lv s is bs j,hs=>by
  simp only[DE.shut,baZ,dtZ] at hs;simp only[DE.eval];have e:J.take lv=δ'.take lv:=by
   have e1:(J.take n).take lv=J.take lv:=by rw[List.take_take,Nat.min_eq_left hs.1.1]
   have e2:(δ'.take n).take lv=δ'.take lv:=by rw[List.take_take,Nat.min_eq_left hs.1.1]
   rw[<- e1,<- e2,h]
  rw[e,xCA h hs.1.2,zTD h hs.2]
 | .wh lv gg is bs,hs=>by
  simp only[DE.shut,baZ,dtZ] at hs;simp only[DE.eval];have e:J.take lv=δ'.take lv:=by
   have e1:(J.take n).take lv=J.take lv:=by rw[List.take_take,Nat.min_eq_left hs.1]
   have e2:(δ'.take n).take lv=δ'.take lv:=by rw[List.take_take,Nat.min_eq_left hs.1]
   rw[<- e1,<- e2,h]
  rw[e,zTD h hs.2]
theorem zTD{n:Nat}(h:J.take n=δ'.take n):∀ {l:List DE},zQI n l=true->zDA X l J=zDA X l δ'
 | [],_=>rfl
 | x::l,hs=>by
  simp only[zQI,baZ] at hs;simp only[zDA];rw[xCA h hs.1,zTD h hs.2]
end
structure GhEq (ms:List Nat) (g g':Gh):Prop where
 rv:∀m,m∉ms->g'.rv m=g.rv m/\g'.rh m=g.rh m
 rb:∀o,g'.rb o=g.rb o
theorem qFB{m:Nat}{ms:List Nat}(h:(!ms.elem m)=true):m∉ms:=by
 intro hm
 have:ms.elem m=true:=List.elem_eq_true_of_mem hm
 rw[this] at h;cases h
mutual
theorem zJB{n:Nat}{ms:List Nat}(h:J.take n=δ'.take n)(hg:GhEq ms g g'):∀ {s:SV},s.closed n ms=true->s.den X δ' g'=s.den X J g
 | .i k e,hs=>by simp only[SV.den];rw[xCA h (by simpa[SV.closed] using hs)]
 | .b e,hs=>by simp only[SV.den];rw[xCA h (by simpa[SV.closed] using hs)]
 | .s e,hs=>by simp only[SV.den];rw[xCA h (by simpa[SV.closed] using hs)]
 | .fl e,hs=>by simp only[SV.den];rw[xCA h (by simpa[SV.closed] using hs)]
 | .c _,_=>rfl
 | .x m,hs=>by simp only[SV.den];exact(hg.rv m (qFB (by simpa only[SV.closed] using hs))).1
 | .xc m j,hs=>by simp only[SV.den];rw[(hg.rv m (qFB (by simpa only[SV.closed] using hs))).1]
 | .ra m j,hs=>by simp only[SV.den];rw[(hg.rv m (qFB (by simpa only[SV.closed] using hs))).2]
 | .oa o j,_=>by simp only[SV.den];rw[hg.rb o]
 | .osl o j,_=>by simp only[SV.den];rw[hg.rb o]
 | .ea m e k z,hs=>by
  simp only[SV.closed,baZ] at hs;simp only[SV.den];rw[(hg.rv m (qFB hs.2)).1,xCA h hs.1]
 | .agg l,hs=>by simp only[SV.den];rw[qQB h hg (by simpa only[SV.closed] using hs)]
 | .tup l,hs=>by simp only[SV.den];rw[qQB h hg (by simpa only[SV.closed] using hs)]
 | .w k l,hs=>by simp only[SV.den];rw[qQB h hg (by simpa only[SV.closed] using hs)]
theorem qQB{n:Nat}{ms:List Nat}(h:J.take n=δ'.take n)(hg:GhEq ms g g'):∀ {l:List SV},zOC n ms l=true->dens X δ' g' l=dens X J g l
 | [],_=>rfl
 | x::l,hs=>by
  simp only[zOC,baZ] at hs;simp only[dens];rw[zJB h hg hs.1,qQB h hg hs.2]
end
mutual
theorem zSC{n:Nat}{ms:List Nat}(h:J.take n=δ'.take n):∀ {s:SV},s.closed n ms=true->s.ok X J->s.ok X δ'
 | .i k e,hs,ho=>by
  simp only[SV.ok,SV.okk] at ho ⊢;rw[<- xCA h (by simpa[SV.closed] using hs)];exact ho
 | .b e,hs,ho=>by
  simp only[SV.ok,SV.okk] at ho ⊢;rw[<- xCA h (by simpa[SV.closed] using hs)];exact ho
 | .s e,hs,ho=>by
  simp only[SV.ok,SV.okk] at ho ⊢;rw[<- xCA h (by simpa[SV.closed] using hs)];exact ho
 | .fl e,hs,ho=>by
  simp only[SV.ok,SV.okk] at ho ⊢;rw[<- xCA h (by simpa[SV.closed] using hs)];exact ho
 | .c _,_,_=>trivial
 | .x m,_,_=>trivial
 | .xc m j,_,_=>trivial
 | .ra m j,_,_=>trivial
 | .oa o j,_,_=>trivial
 | .osl o j,_,_=>trivial
 | .ea ..,_,_=>trivial
 | .agg l,hs,ho=>by
  simp only[SV.ok] at ho ⊢;exact zTC h (by simpa only[SV.closed] using hs) ho
 | .tup l,hs,ho=>by
  simp only[SV.ok] at ho ⊢;exact zTC h (by simpa only[SV.closed] using hs) ho
 | .w k l,hs,ho=>by
  simp only[SV.ok] at ho ⊢;exact zTC h (by simpa only[SV.closed] using hs) ho
theorem zTC{n:Nat}{ms:List Nat}(h:J.take n=δ'.take n):∀ {l:List SV},zOC n ms l=true->oks X J l->oks X δ' l
 | [],_,_=>trivial
 | x::l,hs,ho=>by
  simp only[zOC,baZ] at hs;exact⟨zSC h hs.1 ho.1,zTC h hs.2 ho.2⟩
end
theorem Mem.re(h:Mem P X w0 J st g w)(t:St)(hlv:δ'.length=t.lvl)(hgx:g.ex=g'.ex)(hrb:∀o,g'.rb o=g.rb o)
  (hv:∀n vi,lk n t.vars=some vi->vi.vt = .dead∨(∃n' vj,lk n' st.vars=some vj/\vj.vt=vi.vt/\g'.rv n=g.rv n'/\(g'.rh n=g.rh n'∨xWB vi.vt=true)/\vi.de.eval X δ'=vj.de.eval X J) ∨
   ((∀ok,qUA P ok w vi.vt (g'.rv n) (g'.rh n) (vi.de.eval X δ'))/\zFA vi.vt (g'.rv n)=none))
  (hinj:∀n m vi vj b,lk n t.vars=some vi->lk m t.vars=some vj->zFA vi.vt (g'.rv n)=some b->zFA vj.vt (g'.rv m)=some b->n=m)
  (ho:∀o cs,lk o t.objs=some cs -> ∃cs',lk o st.objs=some cs'/\dens X J g cs'=dens X δ' g' cs/\oks X δ' cs)
  (hl:∀l∈t.loops,LpOk P X δ' g' l):Mem P X w0 δ' t g' w:=by
 have hact:∀b,Actv t g' b->Actv st g b:=by
  rintro b (⟨o,cs,h1,h2⟩|⟨n,vi,h1,h2⟩)
  ·obtain⟨cs',h3,_⟩:=ho o cs h1;exact .inl ⟨o,cs',h3,by rw[<- hrb];exact h2⟩
  ·rcases hv n vi h1 with hd|⟨n',vj,h3,h4,h5,_⟩|⟨_,h3⟩
   ·rw[hd] at h2;simp[zFA] at h2
   ·exact .inr ⟨n',vj,h3,by rw[h4,<- h5];exact h2⟩
   ·rw[h3] at h2;cases h2
 have hok:∀b,okOf st g w b->okOf t g' w b:=fun b hb=>⟨hb.1,fun e=>hb.2.1 (hact b e),hgx▸hb.2.2⟩
 refine⟨?_,?_,?_,hinj,?_,fun b hb=>h.lo b (hact b hb),hl,h.fr,hlv,hgx▸h.ex,h.gl⟩
 ·intro n vi hn;rcases hv n vi hn with hd|⟨n',vj,h3,h4,h5,h6,h7⟩|⟨h3,_⟩
  ·rw[hd];trivial
  ·have hv:=(h.va n' vj h3).mono hok (fun _ _=>rfl) (fun _ _=>rfl);rw[h4] at hv;rw[h5,h7];rcases h6 with h6|h6
   ·rw[h6];exact hv
   ·revert hv h6
    generalize vi.vt=q;cases q <;> intro hv h6 <;> first|exact hv|(simp[xWB] at h6)
  ·exact h3 _
 ·intro o cs hc;obtain⟨cs',h1,h2,h3⟩:=ho o cs hc;obtain⟨h4,h5,h6⟩:=h.ob o cs' h1;rw[h2] at h4 h5;exact⟨by rw[hrb];exact h4,h5,h3⟩
 ·intro o o' c c' h1 h2 h3;obtain⟨c1,h4,_⟩:=ho o c h1;obtain⟨c2,h5,_⟩:=ho o' c' h2;rw[hrb,hrb] at h3;exact h.oo o o' c1 c2 h4 h5 h3
 ·intro o n c vi h1 h2;obtain⟨c1,h3,_⟩:=ho o c h1;rw[hrb];rcases hv n vi h2 with hd|⟨n',vj,h5,h6,h7,_⟩|⟨_,h5⟩
  ·rw[hd];simp[zFA]
  ·rw[<- h6,h7];exact h.ov o n' c1 vj h3 h5
  ·rw[h5];simp
theorem Pl.beq_eq{p q:Pl}(h:p.beq q=true):p=q:=by
 cases p <;> cases q <;> simp_all [Pl.beq]
theorem zXE{p:Pl}:∀ {cars:List (Pl×Cr)} {i j:Nat} {cr:Cr},zXD p cars i=some (j,cr)->i<=j/\cars[j-i]? = some (p,cr)
 | [],_,_,_,h=>by simp[zXD] at h
 | (q,c)::r,i,j,cr,h=>by
  simp only[zXD] at h;split at h
  ·rename_i hb;cases h
   have:=Pl.beq_eq hb
   subst this
   simp
  ·obtain⟨h1,h2⟩:=zXE h;refine⟨by omega,?_⟩;rw[show j-i=(j-(i+1))+1 by omega];simpa using h2
theorem xZC:∀ {cars:List (Pl×Cr)} {ds:List (DE×Option Nat)},zPJ P st cars=some ds->cars.length=ds.length /\ ∀(j:Nat) (p:Pl) (cr:Cr),cars[j]? = some (p,cr) -> ∃b d,xIE st p=some b/\ds[j]? = some d/\carD P st cr b=some d
 | [],ds,h=>by simp only[zPJ,Option.some.injEq] at h;subst h;exact⟨rfl,by simp⟩
 | (p,cr)::r,ds,h=>by
  simp only[zPJ] at h;split at h
  ·rename_i b hb;split at h
   ·rename_i d ds' h1 h2;cases h;obtain⟨k1,k2⟩:=xZC h2;refine⟨by simp[k1],fun j q c hj=>?_⟩;cases j with
    | zero=>simp at hj;obtain⟨rfl,rfl⟩:=hj;exact⟨b,d,hb,rfl,h1⟩
    | succ j=>simp only[List.getElem?_cons_succ] at hj ⊢;exact k2 j q c hj
   ·cases h
  ·cases h
def xFE:List (Pl×Cr)->Nat->Nat->Option Nat
 | [],_,_=>none
 | (_,.var m _)::r,i,n=>if m=n then some i else xFE r (i+1) n
 | _::r,i,n=>xFE r (i+1) n
theorem xWA:∀ {cars:List (Pl×Cr)} {i n:Nat},n∉msOf cars->xFE cars i n=none
 | [],_,_,_=>rfl
 | (p,.var m vt)::r,i,n,h=>by
  simp only[msOf,List.mem_cons,not_or] at h;simp only[xFE,Ne.symm h.1,if_false];exact xWA h.2
 | (p,.int k)::r,i,n,h=>by simp only[xFE];exact xWA (by simpa[msOf] using h)
 | (p,.bool)::r,i,n,h=>by simp only[xFE];exact xWA (by simpa[msOf] using h)
theorem xYC:∀ {cars:List (Pl×Cr)} (i:Nat) {n j:Nat} {p:Pl} {vt:VT},qVB (msOf cars)=true->cars[j]? = some (p,.var n vt)->xFE cars i n=some (i+j)
 | [],_,_,_,_,_,_,h=>by simp at h
 | (q,.var m vt')::r,i,n,j,p,vt,hd,h=>by
  simp only[msOf,qVB,baZ] at hd;cases j with
  | zero =>
   simp at h;simp[xFE,h.2.1]
  | succ j =>
   simp at h;have hne:m≠n:=fun e=>by
    subst e
    have:m∈msOf r:=by
     clear hd
     induction r generalizing j with
     | nil=>simp at h
     | cons x r ih =>
      obtain⟨xp,xc⟩:=x;cases j with
      | zero=>simp at h;obtain⟨rfl,rfl⟩:=h;simp[msOf]
      | succ j=>simp at h;have:=ih j h;cases xc <;> simp[msOf,this]
    exact qFB hd.1 this
   simp only[xFE,hne,if_false];rw[xYC (i+1) hd.2 h]
   congr 1;omega
 | (q,.int k)::r,i,n,j,p,vt,hd,h=>by
  cases j with
  | zero=>simp at h
  | succ j =>
   simp at h;simp only[xFE];rw[xYC (i+1) (by simpa[msOf] using hd) h]
   congr 1;omega
 | (q,.bool)::r,i,n,j,p,vt,hd,h=>by
  cases j with
  | zero=>simp at h
  | succ j =>
   simp at h;simp only[xFE];rw[xYC (i+1) (by simpa[msOf] using hd) h]
   congr 1;omega
theorem xUE:∀ {cars:List (Pl×Cr)} {n:Nat},n∈msOf cars -> ∃(j:Nat) (p:Pl) (vt:VT),cars[j]? = some (p,Cr.var n vt)
 | [],_,h=>by simp[msOf] at h
 | (q,.var m vt)::r,n,h=>by
  simp only[msOf,List.mem_cons] at h;rcases h with rfl|h
  ·exact⟨0,q,vt,rfl⟩
  ·obtain⟨j,p,v,hj⟩:=xUE h;exact⟨j+1,p,v,by simpa using hj⟩
 | (q,.int k)::r,n,h=>by
  obtain⟨j,p,v,hj⟩:=xUE (cars:=r) (by simpa[msOf] using h);exact⟨j+1,p,v,by simpa using hj⟩
 | (q,.bool)::r,n,h=>by
  obtain⟨j,p,v,hj⟩:=xUE (cars:=r) (by simpa[msOf] using h);exact⟨j+1,p,v,by simpa using hj⟩
theorem zBC:∀ {cars:List (Pl×Cr)} {ds:List (DE×Option Nat)} {j:Nat} {p:Pl} {m n:Nat} {vt:VT} {d:DE},cars[j]? = some (p,.var m vt)->ds[j]? = some (d,some n)->xXC vt=true->n∈qDA cars ds
 | [],_,_,_,_,_,_,_,h,_,_=>by simp at h
 | _::_,[],_,_,_,_,_,_,_,h,_=>by simp at h
 | (q,c)::cs,(e,o)::ds,0,p,m,n,vt,d,h1,h2,h3=>by
  simp at h1 h2;obtain⟨rfl,rfl⟩:=h1;obtain⟨rfl,rfl⟩:=h2;simp[qDA,h3]
 | (q,c)::cs,(e,o)::ds,j+1,p,m,n,vt,d,h1,h2,h3=>by
  simp at h1 h2
  have:=zBC h1 h2 h3
  cases c with
  | var m' vt' =>
   cases o with
   | some n' =>
    simp only[qDA];split
    ·exact List.mem_cons_of_mem _ this
    ·exact this
   | none=>simpa[qDA] using this
  | int k=>simpa[qDA] using this
  | bool=>simpa[qDA] using this
theorem yYF:∀ {cars:List (Pl×Cr)} {ds:List (DE×Option Nat)} {i j:Nat} {p q:Pl} {m k n:Nat} {vt vt':VT} {d e:DE},qVB (qDA cars ds)=true ->
  cars[i]? = some (p,.var m vt)->ds[i]? = some (d,some n)->xXC vt=true->cars[j]? = some (q,.var k vt')->ds[j]? = some (e,some n)->xXC vt'=true->i=j
 | [],_,_,_,_,_,_,_,_,_,_,_,_,_,h,_,_,_,_,_=>by simp at h
 | _::_,[],_,_,_,_,_,_,_,_,_,_,_,_,_,h,_,_,_,_=>by simp at h
 | (x,c)::cs,(y,o)::ds,i,j,p,q,m,k,n,vt,vt',d,e,hn,h1,h2,h3,h4,h5,h6=>by
  cases i with
  | zero =>
   cases j with
   | zero=>rfl
   | succ j =>
    exfalso;simp at h1 h2 h4 h5;obtain⟨rfl,rfl⟩:=h1;obtain⟨rfl,rfl⟩:=h2;simp only[qDA,h3,if_true,qVB,baZ] at hn;exact qFB hn.1 (zBC h4 h5 h6)
  | succ i =>
   cases j with
   | zero =>
    exfalso;simp at h1 h2 h4 h5;obtain⟨rfl,rfl⟩:=h4;obtain⟨rfl,rfl⟩:=h5;simp only[qDA,h6,if_true,qVB,baZ] at hn;exact qFB hn.1 (zBC h1 h2 h3)
   | succ j =>
    simp at h1 h2 h4 h5;have hn':qVB (qDA cs ds)=true:=by
     cases c with
     | var m' v' =>
      cases o with
      | some n' =>
       simp only[qDA] at hn;split at hn
       ·simp only[qVB,baZ] at hn;exact hn.2
       ·exact hn
      | none=>simpa[qDA] using hn
     | int k'=>simpa[qDA] using hn
     | bool=>simpa[qDA] using hn
    rw[yYF hn' h1 h2 h3 h4 h5 h6]
end
end Go.Dx
namespace Go.Dx
open Go
section
variable {P:Program} {X:Nat->List D->D} {Pre:Nat->List D->Prop} {w0:Base} {J δ':List D} {st:St} {g g':Gh} {w:World} {a:Act}
theorem zDD{lv:Nat}{ms taken:List Nat}:∀ {l:List (Nat×VI)} {n:Nat} {vi:VI},xTG lv ms taken st l=true->(n,vi)∈l->n∈ms∨vi.vt = .dead ∨ ∃vj,lk n st.vars=some vj/\vj.vt=vi.vt/\vj.de=vi.de/\vi.de.shut lv=true/\n∉taken
 | [],_,_,_,h=>by cases h
 | (k,x)::r,n,vi,h,hm=>by
  simp only[xTG,baZ] at h;rcases List.mem_cons.1 hm with e|hm
  ·cases e;have h1:=h.1;simp only[Bool.or_eq_true,dtZ] at h1;rcases h1 with(h1|h1)|h1
   ·exact .inl (List.mem_of_elem_eq_true h1)
   ·exact .inr (.inl h1)
   ·split at h1
    ·rename_i vj hj;simp only[baZ,dtZ] at h1;exact .inr (.inr ⟨vj,hj,h1.1.1.1,DE.beq_eq h1.1.1.2,h1.1.2,qFB h1.2⟩)
    ·cases h1
  ·exact zDD h.2 hm
theorem yRC{lv:Nat}{ms:List Nat}{cars:List (Pl×Cr)}:∀ {l:List (Nat×SV)} {s:Nat} {v:SV},yRI lv ms cars st l=true->(s,v)∈l ->
  (∃j cr,zXD (.slot s) cars 0=some (j,cr)/\v=cr.sv (lv+2+j))∨(zXD (.slot s) cars 0=none/\lk s st.env=some v/\v.closed lv ms=true)
 | [],_,_,_,h=>by cases h
 | (k,x)::r,s,v,h,hm=>by
  simp only[yRI,baZ] at h;rcases List.mem_cons.1 hm with e|hm
  ·cases e;have h1:=h.1;split at h1
   ·rename_i j cr hj;exact .inl ⟨j,cr,hj,SV.beq_eq h1⟩
   ·rename_i hj;split at h1
    ·rename_i u hu;simp only[baZ] at h1
     have:=SV.beq_eq h1.1
     subst this;exact .inr ⟨hj,hu,h1.2⟩
    ·cases h1
  ·exact yRC h.2 hm
theorem yPC{lv:Nat}{ms:List Nat}{cars:List (Pl×Cr)}{o:Nat}:∀ {l u:List SV} {i:Nat},yOC lv ms cars o i l u=true->l.length=u.length /\ ∀(j:Nat) (v x:SV),l[j]? = some v->u[j]? = some x ->
  (∃q cr,zXD (.cell o (i+j)) cars 0=some (q,cr)/\v=cr.sv (lv+2+q))∨(zXD (.cell o (i+j)) cars 0=none/\x=v/\v.closed lv ms=true)
 | [],[],_,_=>⟨rfl,by simp⟩
 | [],_::_,_,h=>by simp[yOC] at h
 | _::_,[],_,h=>by simp[yOC] at h
 | v::vs,x::us,i,h=>by
  simp only[yOC,baZ] at h;obtain⟨h2,h3⟩:=yPC h.2;refine⟨by simp[h2],fun j y z hy hz=>?_⟩;cases j with
  | zero =>
   simp only[List.getElem?_cons_zero,Option.some.injEq] at hy hz;subst hy;subst hz
   have h1:=h.1;split at h1
   ·rename_i q cr hq;exact .inl ⟨q,cr,hq,SV.beq_eq h1⟩
   ·rename_i hq;simp only[baZ] at h1;exact .inr ⟨hq,SV.beq_eq h1.1,h1.2⟩
  | succ j =>
   simp only[List.getElem?_cons_succ] at hy hz
   have:=h3 j y z hy hz
   rw[show i+(j+1)=i+1+j by omega];exact this
theorem qPC{lv:Nat}{ms:List Nat}{cars:List (Pl×Cr)}:∀ {l:List (Nat×List SV)} {o:Nat} {cs:List SV},xDG lv ms cars st l=true->(o,cs)∈l -> ∃us,lk o st.objs=some us/\yOC lv ms cars o 0 cs us=true
 | [],_,_,_,h=>by cases h
 | (k,x)::r,o,cs,h,hm=>by
  simp only[xDG,baZ] at h;rcases List.mem_cons.1 hm with e|hm
  ·cases e;have h1:=h.1;split at h1
   ·rename_i us hu;exact⟨us,hu,h1⟩
   ·cases h1
  ·exact qPC h.2 hm
theorem yYC{lv:Nat}{ms:List Nat}:∀ {ls:List Lp} {l:Lp},xRE lv ms st ls=true->l∈ls->l∈st.loops/\l.lvl<lv/\l.src.closed lv ms=true/\l.row∉ms
 | [],_,_,h=>by cases h
 | k::r,l,h,hm=>by
  simp only[xRE,baZ,dtZ] at h;rcases List.mem_cons.1 hm with rfl|hm
  ·refine⟨?_,h.1.1.1.2,h.1.1.2,qFB h.1.2⟩
   have:=h.1.1.1.1
   simp only[List.any_eq_true] at this;obtain⟨l',h1,h2⟩:=this;simp only[lpBeq,baZ,beq_iff_eq] at h2;obtain⟨r1,s1,e1,v1⟩:=l;obtain⟨r2,s2,e2,v2⟩:=l';simp only at h2;rw[<- h2.1.1.1,<- SV.beq_eq h2.1.1.2,<- h2.1.2,<- h2.2];exact h1
  ·exact yYC h.2 hm
theorem yLC{lv:Nat}{h:St}:∀ {cars:List (Pl×Cr)} {i:Nat},yRB lv h cars i=true -> ∀(j:Nat) (p:Pl) (m:Nat) (vt:VT),cars[j]? = some (p,.var m vt)->lk m h.vars=some ⟨vt,.v (lv+2+(i+j))⟩
 | [],_,_,_,_,_,_,hj=>by simp at hj
 | (q,c)::r,i,hc,j,p,m,vt,hj=>by
  cases j with
  | zero =>
   simp only[List.getElem?_cons_zero,Option.some.injEq,Prod.mk.injEq] at hj;obtain⟨rfl,rfl⟩:=hj;simp only[yRB,baZ] at hc;have h1:=hc.1;split at h1
   ·rename_i vi hv;simp only[baZ,dtZ] at h1;obtain⟨vt',de⟩:=vi;simp only at h1;rw[hv,h1.1,DE.beq_eq h1.2];rfl
   ·cases h1
  | succ j =>
   simp only[List.getElem?_cons_succ] at hj;have hc':yRB lv h r (i+1)=true:=by
    cases c with
    | var m' vt'=>simp only[yRB,baZ] at hc;exact hc.2
    | int k=>simpa[yRB] using hc
    | bool=>simpa[yRB] using hc
   have:=yLC hc' j p m vt hj
   rw[show i+(j+1)=i+1+j by omega];exact this
noncomputable def yUD(X:Nat->List D->D)(J:List D)(g:Gh)(st:St)(cars:List (Pl×Cr))(j:Nat):Value :=
 match cars[j]? with
 | some (p,_)=>match xIE st p with
  | some b=>b.den X J g
  | none=>undef
 | none=>undef
noncomputable def Gh.carry(X:Nat->List D->D)(J:List D)(g:Gh)(st:St)(cars:List (Pl×Cr)):Gh :=
 { rv:=fun n=>match xFE cars 0 n with|some j=>yUD X J g st cars j|none=>g.rv n,rb:=g.rb,rh:=g.rh,ex:=g.ex }
theorem yQJ{s:Nat}{b:SV}(h:xIE st (.slot s)=some b):lk s st.env=some b:=h
theorem zHG{o j:Nat}{b:SV}(h:xIE st (.cell o j)=some b):∃cs,lk o st.objs=some cs/\cs[j]? = some b:=by
 simp only[xIE,Option.bind_eq_bind,Option.bind_eq_some_iff] at h;exact h
theorem zNJ{vt:VT}{v:Value}{b:Nat}(h:zFA vt v=some b):xXC vt=true:=by
 cases vt with
 | own t=>rfl
 | tags t=>rfl
 | set t=>simp[zFA] at h
 | row t=>simp[zFA] at h
 | dead=>simp[zFA] at h
 | gi=>simp[zFA] at h
theorem qYF{vt:VT}{cv:CV}(hl:xWB vt=true)(hn:qOC P vt (.c cv)=true)(hcv:cv = .nils∨cv = .nilm∨cv = .nilp)(hm:Nat×Nat):(∀ok,qUA P ok w vt cv.den hm .nil)/\zFA vt cv.den=none:=by
 rcases hcv with rfl|rfl|rfl
 ·cases vt with
  | set t =>
   obtain⟨e,i,hu,hi⟩:=zPB (t:=t) hn;exact⟨fun ok=>.snil hu,rfl⟩
  | own t =>
   obtain⟨e,i,hu,hi⟩:=zPB (t:=t) hn;exact⟨fun ok=>yRA.nilv hu hi,rfl⟩
  | tags t=>simp[qOC] at hn
  | row t=>simp[xWB] at hl
  | dead=>simp[xWB] at hl
  | gi=>simp[xWB] at hl
 ·cases vt with
  | set t =>
   obtain⟨k,e,hu⟩:=qIB (m:=t) hn;exact⟨fun ok=>.mnil hu,rfl⟩
  | tags t =>
   obtain⟨k,e,hu⟩:=qIB (m:=t) hn;exact⟨fun ok=>.nil hu,rfl⟩
  | own t=>simp[qOC] at hn
  | row t=>simp[xWB] at hl
  | dead=>simp[xWB] at hl
  | gi=>simp[xWB] at hl
 ·cases vt with
  | set t =>
   simp only[qOC] at hn;split at hn
   ·rename_i e hu;exact⟨fun ok=>.pnil hu,rfl⟩
   ·cases hn
  | own t=>simp[qOC] at hn
  | tags t=>simp[qOC] at hn
  | row t=>simp[xWB] at hl
  | dead=>simp[xWB] at hl
  | gi=>simp[xWB] at hl
theorem yLI(h:Mem P X w0 J st g w){m:Nat}{vt:VT}{b:SV}{d:DE}{o:Option Nat}(hc:carD P st (.var m vt) b=some (d,o)) :
  (∃n vi,b = .x n/\o=some n/\lk n st.vars=some vi/\vi.vt=vt/\vi.de=d)∨((∀ok (hm:Nat×Nat),qUA P ok w vt (b.den X J g) hm (d.eval X J))/\zFA vt (b.den X J g)=none):=by
 cases b with
 | x n =>
  simp only[carD] at hc;split at hc
  ·rename_i vi hv;split at hc
   ·rename_i hh;cases hc;exact .inl ⟨n,vi,rfl,rfl,hv,hh.1,rfl⟩
   ·cases hc
  ·cases hc
 | c cv =>
  right;cases cv with
  | nils =>
   simp only[carD] at hc;split at hc
   ·rename_i hh;cases hc;simp only[baZ] at hh;exact⟨fun ok hm=>(qYF hh.1 hh.2 (.inl rfl) hm).1 ok,(qYF (P:=P) (w:=w) hh.1 hh.2 (.inl rfl) (0,0)).2⟩
   ·cases hc
  | nilm =>
   simp only[carD] at hc;split at hc
   ·rename_i hh;cases hc;simp only[baZ] at hh;exact⟨fun ok hm=>(qYF hh.1 hh.2 (.inr (.inl rfl)) hm).1 ok,(qYF (P:=P) (w:=w) hh.1 hh.2 (.inr (.inl rfl)) (0,0)).2⟩
   ·cases hc
  | nilp =>
   simp only[carD] at hc;split at hc
   ·rename_i hh;cases hc;simp only[baZ] at hh;exact⟨fun ok hm=>(qYF hh.1 hh.2 (.inr (.inr rfl)) hm).1 ok,(qYF (P:=P) (w:=w) hh.1 hh.2 (.inr (.inr rfl)) (0,0)).2⟩
   ·cases hc
  | _=>simp[carD] at hc
 | _=>simp[carD] at hc
theorem qKJ{m:Nat}{vt:VT}{b:SV}{d:DE×Option Nat}(hc:carD P st (.var m vt) b=some d):xWB vt=true:=by
 cases b with
 | x n =>
  simp only[carD] at hc;split at hc
  ·split at hc
   ·rename_i hh;exact hh.2
   ·cases hc
  ·cases hc
 | c cv =>
  cases cv <;> simp only[carD,reduceCtorEq] at hc
  all_goals
   split at hc
   ·rename_i hh;simp only[baZ] at hh;exact hh.1
   ·cases hc
 | _=>simp[carD] at hc
theorem yFB{l:List DE}{j:Nat}{e:DE}(h:l[j]? = some e):(zDA X l J)[j]? = some (e.eval X J):=by rw[qTB,List.getElem?_map,h];rfl
theorem zND{lv:Nat}(hlv:lv<=J.length)(x y:D)(acc:List D)(j:Nat):(J.take lv++(x::y::acc)).getD (lv+2+j) .nil=acc.getD j .nil:=by
 have hl:(J.take lv).length=lv:=by rw[List.length_take];omega
 rw[List.getD_eq_getElem?_getD,List.getD_eq_getElem?_getD,List.getElem?_append_right (by omega),hl];rw[show lv+2+j-lv=j+1+1 by omega]
 simp
theorem qLJ(ext:List D){cars:List (Pl×Cr)}{ds:List (DE×Option Nat)}{lv:Nat}(hlv:lv<=J.length)(x y:D)(hnd:qVB (msOf cars)=true)(hcd:zPJ P st cars=some ds)(hok:∀p b,xIE st p=some b->b.ok X J){j:Nat}{p:Pl}{cr:Cr}(hj:cars[j]? = some (p,cr)) :
  ∃b,xIE st p=some b/\(cr.sv (lv+2+j)).den X (J.take lv++(x::y::(zDA X (ds.map (·.1)) J++ext))) (g.carry X J st cars)=b.den X J g/\(cr.sv (lv+2+j)).ok X (J.take lv++(x::y::(zDA X (ds.map (·.1)) J++ext))):=by
 obtain⟨_,hget⟩:=xZC hcd;obtain⟨b,d,hb,hd,hc⟩:=hget j p cr hj;have hdj:(zDA X (ds.map (·.1)) J++ext).getD j .nil=d.1.eval X J:=by
  have h1:=yFB (X:=X) (J:=J) (l:=ds.map (·.1)) (j:=j) (e:=d.1) (by rw[List.getElem?_map,hd];rfl);rw[List.getD_eq_getElem?_getD,List.getElem?_append_left (List.getElem?_eq_some_iff.1 h1).1,h1];rfl
 have hev:(DE.v (lv+2+j)).eval X (J.take lv++(x::y::(zDA X (ds.map (·.1)) J++ext)))=d.1.eval X J:=by
  simp only[DE.eval];rw[zND hlv x y _ j,hdj]
 refine⟨b,hb,?_⟩;have hbok:=hok p b hb;cases cr with
 | int k =>
  cases b with
  | i k' e =>
   simp only[carD] at hc;split at hc
   ·rename_i hk;subst hk;cases hc
    simp only[Cr.sv,SV.den,hev,SV.ok,SV.okk];exact⟨trivial,hbok⟩
   ·cases hc
  | _=>simp[carD] at hc
 | bool =>
  cases b with
  | b e =>
   simp only[carD,Option.some.injEq] at hc;cases hc;simp only[Cr.sv,SV.den,hev,SV.ok,SV.okk];exact⟨trivial,hbok⟩
  | _=>simp[carD] at hc
 | var m vt =>
  refine⟨?_,trivial⟩;simp only[Cr.sv,SV.den,Gh.carry];rw[xYC 0 hnd hj];simp[yUD,hj,hb]
theorem zLB{lv:Nat}{cars:List (Pl×Cr)}{h0:St}{ds:List DE}(h:Mem P X w0 J st g w)(hlv:lv<=J.length)(hf:fits P lv cars st h0=some ds)(hnd:qVB (msOf cars)=true)(hco:yRB lv h0 cars 0=true)(ext:List D)(hl0:h0.lvl=lv+2+cars.length+ext.length)
  (he:∀s sv,lk s st.env=some sv->a.tmps[s]? = some (sv.den X J g)/\sv.ok X J) (x y:D) :
  Mem P X w0 (J.take lv++(x::y::(zDA X ds J++ext))) h0 (g.carry X J st cars) w /\
  (∀s v,lk s h0.env=some v->a.tmps[s]? = some (v.den X (J.take lv++(x::y::(zDA X ds J++ext))) (g.carry X J st cars))/\v.ok X (J.take lv++(x::y::(zDA X ds J++ext)))) /\
  GhEq (msOf cars) g (g.carry X J st cars)/\ds.length=cars.length:=by
 unfold fits at hf;split at hf
 ·rename_i dsp hcd;split at hf
  ·rename_i hcond;cases hf;simp only[baZ,beq_iff_eq] at hcond;obtain⟨⟨⟨⟨⟨htk,hvf⟩,hef⟩,hof⟩,hlf⟩,hnt⟩:=hcond;obtain⟨hlen,hget⟩:=xZC hcd;have hplok:∀p b,xIE st p=some b->b.ok X J:=fun p b hb=>by
    cases p with
    | slot s=>exact(he s b hb).2
    | cell o j =>
     obtain⟨cs,h1,h2⟩:=zHG hb;exact yHA.1 (h.ob o cs h1).2.2 b (List.mem_of_getElem? h2)
   have hcar:=fun {j:Nat} {p:Pl} {cr:Cr} (hj:cars[j]? = some (p,cr))=>qLJ (g:=g) ext hlv x y hnd hcd hplok hj
   have hgh:GhEq (msOf cars) g (g.carry X J st cars):=⟨fun m hm=>by simp[Gh.carry,xWA hm],fun o=>rfl⟩;have htake:J.take lv=(J.take lv++(x::y::(zDA X (dsp.map (·.1)) J++ext))).take lv:=by
    have hl:(J.take lv).length=lv:=by rw[List.length_take];omega
    rw[List.take_append_of_le_length (Nat.le_of_eq hl.symm),List.take_take,Nat.min_self]
   have hms:∀n,n∈msOf cars -> ∃j p vt,cars[j]? = some (p,Cr.var n vt)/\lk n h0.vars=some ⟨vt,.v (lv+2+j)⟩:=fun n hn=>by
    obtain⟨j,p,vt,hj⟩:=xUE hn
    have:=yLC hco j p n vt hj
    rw[Nat.zero_add] at this;exact⟨j,p,vt,hj,this⟩
   have hrvm:∀j p n vt,cars[j]? = some (p,Cr.var n vt)->(g.carry X J st cars).rv n=yUD X J g st cars j:=fun j p n vt hj=>by
    simp only[Gh.carry];rw[xYC 0 hnd hj];simp
   have hmemd:∀n vi,lk n h0.vars=some vi->n∉msOf cars->vi.vt = .dead ∨ ∃vj,lk n st.vars=some vj/\vj.vt=vi.vt/\vj.de=vi.de/\vi.de.shut lv=true/\n∉qDA cars dsp:=fun n vi hn hnm=>by
    rcases zDD hvf (zBB hn) with h1|h1|h1
    ·exact absurd h1 hnm
    ·exact .inl h1
    ·exact .inr h1
   have hsrc:∀n vi b,lk n h0.vars=some vi->zFA vi.vt ((g.carry X J st cars).rv n)=some b ->
     ∃n' vj,lk n' st.vars=some vj/\zFA vj.vt (g.rv n')=some b/\((n∉msOf cars/\n'=n/\n∉qDA cars dsp) ∨ ∃j p vt d,cars[j]? = some (p,Cr.var n vt)/\dsp[j]? = some (d,some n')/\xXC vt=true):=fun n vi b hn hb=>by
    by_cases hnm:n∈msOf cars
    ·obtain⟨j,p,vt,hj,hlk⟩:=hms n hnm;rw[hn] at hlk;cases hlk
     obtain⟨bb,d,hpl,hd,hcd'⟩:=hget j p _ hj;have hv:=hrvm j p n vt hj;have hcv:yUD X J g st cars j=bb.den X J g:=by simp[yUD,hj,hpl]
     rw[hv,hcv] at hb;rcases yLI h (d:=d.1) (o:=d.2) hcd' with⟨n',vj,rfl,ho,hlk',hvt,_⟩|⟨_,hnone⟩
     ·refine⟨n',vj,hlk',by rw[hvt];exact hb,.inr ⟨j,p,vt,d.1,hj,?_,zNJ hb⟩⟩;rw[hd,<- ho]
     ·simp only at hb;rw[hnone] at hb;cases hb
    ·rcases hmemd n vi hn hnm with hd|⟨vj,h1,h2,_,_,h3⟩
     ·rw[hd] at hb;simp[zFA] at hb
     ·rw[(hgh.rv n hnm).1] at hb;exact⟨n,vj,h1,by rw[h2];exact hb,.inl ⟨hnm,rfl,h3⟩⟩
   refine⟨h.re h0 (by rw[hl0];simp[yAA,hlen];omega) rfl (fun o=>rfl) (fun n vi hn=>?_) (fun n m vi vj b h1 h2 h3 h4=>?_) (fun o cs hc=>?_) (fun l hl=>?_),fun s v hs=>?_,hgh,by simp[hlen]⟩
   ·by_cases hnm:n∈msOf cars
    ·obtain⟨j,p,vt,hj,hlk⟩:=hms n hnm;rw[hn] at hlk;cases hlk
     obtain⟨bb,d,hpl,hd,hcd'⟩:=hget j p _ hj;have hv:=hrvm j p n vt hj;have hcv:yUD X J g st cars j=bb.den X J g:=by simp[yUD,hj,hpl]
     have hdj:(DE.v (lv+2+j)).eval X (J.take lv++(x::y::(zDA X (dsp.map (·.1)) J++ext)))=d.1.eval X J:=by
      simp only[DE.eval];have h1:=yFB (X:=X) (J:=J) (l:=dsp.map (·.1)) (j:=j) (e:=d.1) (by rw[List.getElem?_map,hd];rfl);rw[zND hlv x y _ j,List.getD_eq_getElem?_getD,List.getElem?_append_left (List.getElem?_eq_some_iff.1 h1).1,h1];rfl
     right;have hlive:=qKJ hcd';rcases yLI h (d:=d.1) (o:=d.2) hcd' with⟨n',vj,rfl,ho,hlk',hvt,hde⟩|⟨hvar,hnone⟩
     ·exact .inl ⟨n',vj,hlk',hvt,by rw[hv,hcv];rfl,.inr hlive,by rw[hdj,hde]⟩
     ·right;refine⟨fun ok=>?_,?_⟩
      ·simp only;rw[hv,hcv,hdj];exact hvar ok _
      ·simp only;rw[hv,hcv];exact hnone
    ·rcases hmemd n vi hn hnm with hd|⟨vj,h1,h2,h3,h4,h5⟩
     ·exact .inl hd
     ·exact .inr (.inl ⟨n,vj,h1,h2,(hgh.rv n hnm).1,.inl (hgh.rv n hnm).2,by rw[h3];exact(xCA htake h4).symm⟩)
   ·obtain⟨n',vn,e1,e2,e3⟩:=hsrc n vi b h1 h3;obtain⟨m',vm,f1,f2,f3⟩:=hsrc m vj b h2 h4;have hnm:=h.vv n' m' vn vm b e1 f1 e2 f2;subst hnm;rcases e3 with⟨_,rfl,e4⟩|⟨j,p,vt,d,e4,e5,e6⟩
    ·rcases f3 with⟨_,f4,_⟩|⟨j,p,vt,d,f4,f5,f6⟩
     ·exact f4
     ·exact absurd (zBC f4 f5 f6) e4
    ·rcases f3 with⟨_,rfl,f4⟩|⟨j',p',vt',d',f4,f5,f6⟩
     ·exact absurd (zBC e4 e5 e6) f4
     ·have:=yYF htk e4 e5 e6 f4 f5 f6
      subst this;rw[e4] at f4;cases f4;rfl
   ·obtain⟨us,hu,hcf⟩:=qPC hof (zBB hc);obtain⟨c1,c2⟩:=yPC hcf;have hob:=h.ob o us hu;have hcell:∀(j:Nat) (v u:SV),cs[j]? = some v->us[j]? = some u->v.den X (J.take lv++(x::y::(zDA X (dsp.map (·.1)) J++ext))) (g.carry X J st cars)=u.den X J g/\v.ok X (J.take lv++(x::y::(zDA X (dsp.map (·.1)) J++ext))):=fun j v u hv hu'=>by
     rcases c2 j v u hv hu' with⟨q,cr,hq,rfl⟩|⟨_,rfl,hcl⟩
     ·obtain⟨_,hq2⟩:=zXE hq;rw[Nat.sub_zero] at hq2;obtain⟨b,k1,k2,k3⟩:=hcar hq2;obtain⟨cs',k4,k5⟩:=zHG k1;rw[hu] at k4;cases k4
      rw[Nat.zero_add,hu'] at k5;cases k5
      exact⟨k2,k3⟩
     ·exact⟨zJB htake hgh hcl,zSC htake hcl (yHA.1 hob.2.2 _ (List.mem_of_getElem? hu'))⟩
    refine⟨us,hu,?_,?_⟩
    ·apply List.ext_getElem?;intro j;rw[zRA,zRA,List.getElem?_map,List.getElem?_map];cases hv:cs[j]? with
     | none =>
      have:us[j]? = none:=by rw[List.getElem?_eq_none_iff] at hv ⊢;omega
      rw[this];rfl
     | some v =>
      have hlt:=(List.getElem?_eq_some_iff.1 hv).1;have hu':us[j]? = some us[j]:=List.getElem?_eq_getElem (by omega);rw[hu'];simp only[Option.map_some];rw[(hcell j v _ hv hu').1]
    ·rw[yHA];intro v hv;obtain⟨j,hj⟩:=List.mem_iff_getElem?.1 hv;have hlt:=(List.getElem?_eq_some_iff.1 hj).1;exact(hcell j v _ hj (List.getElem?_eq_getElem (show j<us.length by omega))).2
   ·obtain⟨h1,h2,h3,h4⟩:=yYC hlf hl;obtain⟨b,off,len,cap,k,i,k1,k2,k3,k4,k5⟩:=h.lp l h1;refine⟨b,off,len,cap,k,i,by rw[zJB htake hgh h3];exact k1,?_,k3,k4,by rw[(hgh.rv _ h4).2];exact k5⟩
    have:(J.take lv)[l.lvl]? = J[l.lvl]?:=by rw[List.getElem?_take];simp[h2]
    rw[List.getElem?_append_left (by rw[List.length_take];omega),this,k2]
   ·rcases yRC hef (zBB hs) with⟨j,cr,hj,rfl⟩|⟨_,hst,hcl⟩
    ·obtain⟨_,hq2⟩:=zXE hj;rw[Nat.sub_zero] at hq2;obtain⟨b,k1,k2,k3⟩:=hcar hq2;rw[k2];exact⟨(he s b (yQJ k1)).1,k3⟩
    ·obtain⟨k1,k2⟩:=he s v hst;rw[zJB htake hgh hcl];exact⟨k1,zSC htake hcl k2⟩
  ·cases hf
 ·cases hf
end
end Go.Dx
namespace Go.Dx
open Go
section
variable {P:Program} {X:Nat->List D->D} {Pre:Nat->List D->Prop} {w0:Base} {J δ':List D} {st:St} {g g':Gh} {w:World} {a:Act}
theorem xRA(f:Nat->D->List D->List D):∀(l:List D) (i:Nat) (r:D) (acc:List D),zQA f i (l++[r]) acc=f (i+l.length) r (zQA f i l acc)
 | [],i,r,acc=>by simp[zQA]
 | x::l,i,r,acc=>by
  simp only[List.cons_append,zQA];rw[xRA f l (i+1) r]
  congr 1
  simp;omega
theorem qGC{lv:Nat}{cars:List (Pl×Cr)}{h0:St}{ds:List DE}(hf:fits P lv cars st h0=some ds):st.nt=h0.nt:=by
 unfold fits at hf;split at hf
 ·split at hf
  ·rename_i hc;simp only[baZ,beq_iff_eq] at hc;exact hc.2
  ·cases hf
 ·cases hf
theorem xOE{Q:Exit->Act->World->Prop}:∀(c:Code) {r:List Code} {a:Act} {w:World},wpC P Q (qPG c++r) a w->c.wp P (Exit.then (wpC P Q r) Q) a w
 | .seq x y,r,a,w,h=>by
  simp only[qPG,List.append_assoc] at h;refine wp_seq ?_;rw[yTH];refine Go.Code.wp_mono (fun e a w hh=>?_) (xOE x h);cases e <;> first|exact xOE y hh|exact hh
 | .skip,_,_,_,h=>h
 | .region _ _ _,_,_,_,h=>h
 | .cond _ _ _,_,_,_,h=>h
 | .loop _,_,_,_,h=>h
 | .block _ _,_,_,_,h=>h
 | .exit _,_,_,_,h=>h
 | .goto _,_,_,_,h=>h
 | .label _,_,_,_,h=>h
 | .scope _,_,_,_,h=>h
 | .rangeFunc _ _ _ _,_,_,_,h=>h
 | .ret,_,_,_,h=>h
 | .refuse _,_,_,_,h=>h
end
end Go.Dx
namespace Go.Dx
open Go
section
variable {nm:Option Nat} {P:Program} {X:Nat->List D->D} {Pre:Nat->List D->Prop} {w0:Base} {J δ':List D} {st:St} {g g':Gh} {w:World} {a:Act}
theorem zIG{pd:Nat->DE}{cars:List (Pl×Cr)}:∀ {l:List (Nat×SV)} {s:Nat} {v:SV},lk s (zEB pd cars l)=some v ->
  ∃u,lk s l=some u/\((∃j cr,zXD (.slot s) cars 0=some (j,cr)/\v=cr.post pd j)∨(zXD (.slot s) cars 0=none/\v=u))
 | [],_,_,h=>by simp[zEB,yTA,yLA] at h
 | (k,x)::r,s,v,h=>by
  simp only[zEB] at h;by_cases hk:k=s
  ·subst hk;rw[zIA] at h;refine⟨x,zIA,?_⟩;simp only[Option.some.injEq] at h;split at h
   ·rename_i j cr hj;exact .inl ⟨j,cr,hj,h.symm⟩
   ·rename_i hj;exact .inr ⟨hj,h.symm⟩
  ·rw[zHA hk] at h;obtain⟨u,h1,h2⟩:=zIG h;exact⟨u,by rw[zHA hk];exact h1,h2⟩
theorem qSD{pd:Nat->DE}{cars:List (Pl×Cr)}{o:Nat}:∀ {l:List SV} {i:Nat},(zDB pd cars o i l).length=l.length /\ ∀(j:Nat) (v:SV),(zDB pd cars o i l)[j]? = some v ->
  ∃u,l[j]? = some u/\((∃q cr,zXD (.cell o (i+j)) cars 0=some (q,cr)/\v=cr.post pd q)∨(zXD (.cell o (i+j)) cars 0=none/\v=u))
 | [],_=>⟨rfl,by simp[zDB]⟩
 | x::r,i=>by
  obtain⟨h1,h2⟩:=qSD (pd:=pd) (cars:=cars) (o:=o) (l:=r) (i:=i+1);refine⟨by simp[zDB,h1],fun j v hj=>?_⟩;simp only[zDB] at hj;cases j with
  | zero =>
   simp only[List.getElem?_cons_zero,Option.some.injEq] at hj;refine⟨x,rfl,?_⟩;rw[Nat.add_zero];split at hj
   ·rename_i q cr hq;exact .inl ⟨q,cr,hq,hj.symm⟩
   ·rename_i hq;exact .inr ⟨hq,hj.symm⟩
  | succ j =>
   simp only[List.getElem?_cons_succ] at hj;obtain⟨u,k1,k2⟩:=h2 j v hj;refine⟨u,by simpa using k1,?_⟩;rw[show i+(j+1)=i+1+j by omega];exact k2
theorem yDB{pd:Nat->DE}{cars:List (Pl×Cr)}:∀ {l:List (Nat×List SV)} {o:Nat},lk o (zMB pd cars l)=(lk o l).map (zDB pd cars o 0)
 | [],_=>rfl
 | (k,x)::r,o=>by
  simp only[zMB];by_cases hk:k=o
  ·subst hk;rw[zIA,zIA];rfl
  ·rw[zHA hk,zHA hk];exact yDB
theorem qWB{pd:Nat->DE}{vs:List (Nat×VI)}:∀ {cars:List (Pl×Cr)} {i n:Nat} {vi:VI},lk n (xLA pd cars i vs)=some vi ->
  (n∉msOf cars/\lk n vs=some vi) ∨ ∃j p vt,cars[j]? = some (p,Cr.var n vt)/\vi=⟨vt,pd (i+j)⟩
 | [],_,_,_,h=>.inl ⟨by simp[msOf],h⟩
 | (p,.var m vt)::r,i,n,vi,h=>by
  simp only[xLA] at h;by_cases hm:m=n
  ·subst hm;rw[zZA] at h;cases h;exact .inr ⟨0,p,vt,rfl,rfl⟩
  ·rw[yJA hm] at h;rcases qWB h with⟨h1,h2⟩|⟨j,q,v,h1,h2⟩
   ·exact .inl ⟨by simp[msOf,Ne.symm hm,h1],h2⟩
   ·exact .inr ⟨j+1,q,v,by simpa using h1,by rw[h2];congr 2;omega⟩
 | (p,.int k)::r,i,n,vi,h=>by
  simp only[xLA] at h;rcases qWB h with⟨h1,h2⟩|⟨j,q,v,h1,h2⟩
  ·exact .inl ⟨by simpa[msOf] using h1,h2⟩
  ·exact .inr ⟨j+1,q,v,by simpa using h1,by rw[h2];congr 2;omega⟩
 | (p,.bool)::r,i,n,vi,h=>by
  simp only[xLA] at h;rcases qWB h with⟨h1,h2⟩|⟨j,q,v,h1,h2⟩
  ·exact .inl ⟨by simpa[msOf] using h1,h2⟩
  ·exact .inr ⟨j+1,q,v,by simpa using h1,by rw[h2];congr 2;omega⟩
theorem qAA{pd:Nat->DE}{vs:List (Nat×VI)}{n:Nat}{vi:VI}(h:lk n vs=some vi):∀ {cars:List (Pl×Cr)} {i:Nat},∃vj,lk n (xLA pd cars i vs)=some vj
 | [],_=>⟨vi,h⟩
 | (p,.var m vt)::r,i=>by
  simp only[xLA];exact qOA n _ (qAA h (cars:=r) (i:=i+1)).choose_spec
 | (p,.int k)::r,i=>by simp only[xLA];exact qAA h
 | (p,.bool)::r,i=>by simp only[xLA];exact qAA h
theorem yDC{lv:Nat}{cars:List (Pl×Cr)}{B h0 T:St}{pd:Nat->DE}{initsB:List DE}{acc:List D}{x y:D}(h:Mem P X w0 (J++(x::y::acc)) h0 g w)(he:∀s v,lk s h0.env=some v->a.tmps[s]? = some (v.den X (J++(x::y::acc)) g)/\v.ok X (J++(x::y::acc)))
  (hlv:J.length=lv) (hf:fits P lv cars B h0=some initsB) (hnd:qVB (msOf cars)=true) (hco:yRB lv h0 cars 0=true)
  (hfold:∀j,(pd j).eval X J=acc.getD j .nil)
  (hT:T = { env:=zEB pd cars h0.env,vars:=xLA pd cars 0 h0.vars,objs:=zMB pd cars h0.objs,loops:=h0.loops,obl:=T.obl,lvl:=lv,nx:=T.nx,nt:=h0.nt }) :
  Mem P X w0 J T g w/\(∀s v,lk s T.env=some v->a.tmps[s]? = some (v.den X J g)/\v.ok X J):=by
 have hTe:T.env=zEB pd cars h0.env:=by rw[hT]
 have hTv:T.vars=xLA pd cars 0 h0.vars:=by rw[hT]
 have hTo:T.objs=zMB pd cars h0.objs:=by rw[hT]
 have hTl:T.loops=h0.loops:=by rw[hT]
 have hTlv:T.lvl=lv:=by rw[hT]
 unfold fits at hf;split at hf
 ·rename_i dsp hcd;split at hf
  ·rename_i hcond;simp only[baZ,beq_iff_eq] at hcond;obtain⟨⟨⟨⟨⟨htk,hvf⟩,hef⟩,hof⟩,hlf⟩,hnt⟩:=hcond;have hgh:GhEq (msOf cars) g g:=⟨fun _ _=>⟨rfl,rfl⟩,fun _=>rfl⟩;have htake:(J++(x::y::acc)).take lv=J.take lv:=by rw[List.take_append_of_le_length (by omega)]
   have hdata:∀j,(DE.v (lv+2+j)).eval X (J++(x::y::acc))=acc.getD j .nil:=fun j=>by
    simp only[DE.eval]
    have:=zND (J:=J) (lv:=lv) (by omega) x y acc j
    rwa [List.take_of_length_le (by omega)] at this
   have hsv:∀(j:Nat) (cr:Cr),(cr.post pd j).den X J g=(cr.sv (lv+2+j)).den X (J++(x::y::acc)) g/\((cr.sv (lv+2+j)).ok X (J++(x::y::acc))->(cr.post pd j).ok X J):=fun j cr=>by
    cases cr with
    | int k=>simp only[Cr.post,Cr.sv,SV.den,SV.ok,SV.okk,hfold,hdata];exact⟨trivial,fun h=>h⟩
    | bool=>simp only[Cr.post,Cr.sv,SV.den,SV.ok,SV.okk,hfold,hdata];exact⟨trivial,fun h=>h⟩
    | var m vt=>exact⟨rfl,fun _=>trivial⟩
   refine⟨h.re T (by rw[hTlv,hlv]) rfl (fun o=>rfl) (fun n vi hn=>?_) (fun n m vi vj b h1 h2 h3 h4=>?_) (fun o cs hc=>?_) (fun l hl=>?_),fun s v hs=>?_⟩
   ·rw[hTv] at hn;rcases qWB hn with⟨hnm,h1⟩|⟨j,p,vt,hj,rfl⟩
    ·rcases zDD hvf (zBB h1) with h2|h2|⟨vj,h2,h3,h4,h5,h6⟩
     ·exact absurd h2 hnm
     ·exact .inl h2
     ·exact .inr (.inl ⟨n,vi,h1,rfl,rfl,.inl rfl,xCA htake.symm h5⟩)
    ·have:=yLC hco j p n vt hj
     rw[Nat.zero_add] at this;exact .inr (.inl ⟨n,_,this,rfl,rfl,.inl rfl,by simp only[Nat.zero_add];rw[hfold,hdata]⟩)
   ·have key:∀n vi,lk n T.vars=some vi -> ∃vi',lk n h0.vars=some vi'/\vi'.vt=vi.vt:=fun n vi hn=>by
     rw[hTv] at hn;rcases qWB hn with⟨hnm,h1⟩|⟨j,p,vt,hj,rfl⟩
     ·exact⟨vi,h1,rfl⟩
     ·exact⟨_,yLC hco j p n vt hj,rfl⟩
    obtain⟨v1,k1,k2⟩:=key n vi h1;obtain⟨v2,k3,k4⟩:=key m vj h2;exact h.vv n m v1 v2 b k1 k3 (by rw[k2];exact h3) (by rw[k4];exact h4)
   ·rw[hTo,yDB] at hc;cases ho:lk o h0.objs with
    | none=>rw[ho] at hc;cases hc
    | some us =>
     rw[ho] at hc;simp only[Option.map_some,Option.some.injEq] at hc;subst hc;obtain⟨p1,p2⟩:=qSD (pd:=pd) (cars:=cars) (o:=o) (l:=us) (i:=0);obtain⟨xs,hxs,hcf⟩:=qPC hof (zBB ho);obtain⟨c1,c2⟩:=yPC hcf;have hob:=h.ob o us ho;have hcell:∀(j:Nat) (v:SV),(zDB pd cars o 0 us)[j]? = some v -> ∃u,us[j]? = some u/\v.den X J g=u.den X (J++(x::y::acc)) g/\v.ok X J:=fun j v hv=>by
      obtain⟨u,hu,hh⟩:=p2 j v hv;have huok:=yHA.1 hob.2.2 u (List.mem_of_getElem? hu);have hlt:=(List.getElem?_eq_some_iff.1 hu).1;have hx:xs[j]? = some xs[j]:=List.getElem?_eq_getElem (by omega);refine⟨u,hu,?_⟩;rcases hh with⟨q,cr,hq,rfl⟩|⟨hq,rfl⟩
      ·rcases c2 j u _ hu hx with⟨q',cr',hq',rfl⟩|⟨hq',_,_⟩
       ·rw[hq] at hq';cases hq'
        exact⟨(hsv q cr).1,(hsv q cr).2 huok⟩
       ·rw[hq] at hq';cases hq'
      ·rcases c2 j v _ hu hx with⟨q',cr',hq',_⟩|⟨_,_,hcl⟩
       ·rw[hq] at hq';cases hq'
       ·exact⟨zJB htake hgh hcl,zSC htake hcl huok⟩
     refine⟨us,rfl,?_,?_⟩
     ·apply List.ext_getElem?;intro j;rw[zRA,zRA,List.getElem?_map,List.getElem?_map];cases hv:(zDB pd cars o 0 us)[j]? with
      | none =>
       have:us[j]? = none:=by rw[List.getElem?_eq_none_iff] at hv ⊢;omega
       rw[this];rfl
      | some v =>
       obtain⟨u,hu,k1,k2⟩:=hcell j v hv;rw[hu];simp only[Option.map_some];rw[k1]
     ·rw[yHA];intro v hv;obtain⟨j,hj⟩:=List.mem_iff_getElem?.1 hv;obtain⟨u,hu,k1,k2⟩:=hcell j v hj;exact k2
   ·rw[hTl] at hl;obtain⟨h1,h2,h3,h4⟩:=yYC hlf hl;obtain⟨b,off,len,cap,k,i,k1,k2,k3,k4,k5⟩:=h.lp l hl;refine⟨b,off,len,cap,k,i,by rw[zJB htake hgh h3];exact k1,?_,k3,k4,k5⟩
    rwa [List.getElem?_append_left (by omega)] at k2
   ·rw[hTe] at hs;obtain⟨u,hu,hh⟩:=zIG hs;obtain⟨e1,e2⟩:=he s u hu;rcases hh with⟨q,cr,hq,rfl⟩|⟨hq,rfl⟩
    ·rcases yRC hef (zBB hu) with⟨j,cr',hj,rfl⟩|⟨hj,_,_⟩
     ·rw[hq] at hj;cases hj
      exact⟨by rw[(hsv q cr).1];exact e1,(hsv q cr).2 e2⟩
     ·rw[hq] at hj;cases hj
    ·rcases yRC hef (zBB hu) with⟨j,cr',hj,_⟩|⟨_,_,hcl⟩
     ·rw[hq] at hj;cases hj
     ·exact⟨by rw[zJB htake hgh hcl];exact e1,zSC htake hcl e2⟩
  ·cases hf
 ·cases hf
end
end Go.Dx
namespace Go.Dx
open Go
section
variable {P:Program} {X:Nat->List D->D} {Pre:Nat->List D->Prop} {w0:Base} {J δ':List D} {st:St} {g g':Gh} {w:World} {a:Act}
theorem zSE{i:Nat}{b:Code}{lp:LoopP}(h:zKC (.block i b)=some lp) :
  ∃body hid hops aid aops l m,b = .loop body/\qPG body=[.region hid hops false,.cond (.tmp lp.tc) .skip (.exit i),.block lp.inner lp.body,.region aid aops false] /\
   headP hops.toList=some (lp.tc,lp.ti,lp.tn,l)/\tailP aops.toList=some (lp.ti,lp.kd,m)/\lp.sl=l++m/\lp.tn∉m/\(lp.kd = .i64∨lp.kd = .i32):=by
 unfold zKC at h;split at h
 ·rename_i bid body heq;cases heq;split at h
  ·rename_i hid hops tc bid' inner bd aid aops hfl;split at h
   ·rename_i tc' ti tn l ti' kd m hh ha;split at h
    ·rename_i hc;cases h;obtain⟨rfl,rfl,rfl,_,n1,n2⟩:=hc;exact⟨body,hid,hops,aid,aops,l,m,rfl,hfl,hh,ha,rfl,by simpa using n1,n2⟩
    ·cases h
   ·cases h
  ·cases h
 ·cases h
theorem zRJ{lv r ti:Nat}{e:TypeId}{src:SV}{h0 h:St}(hE:qMG lv e src ti r h0=some h):h0.freshV r=true/\src.men r=false /\
  h = { h0 with vars:=(r,⟨.row e,.v (lv+1)⟩)::h0.vars,env:=upd ti (.i .i64 (.v lv)) h0.env,loops:=⟨r,src,e,lv⟩::h0.loops,nx:=r+1 }:=by
 unfold qMG at hE;split at hE
 ·rename_i s1 hn;split at hE
  ·cases hE
  ·rename_i hm;cases hE;unfold newV at hn;split at hn
   ·rename_i hf;cases hn;exact⟨hf,by simpa using hm,rfl⟩
   ·cases hn
 ·cases hE
theorem zKB{t:Nat}{v:Value}(h:a.tmps[t]? = some v):a.eval (.tmp t)=v:=by simp[Act.eval,Array.getD_eq_getD_getElem?,h]
theorem wp_one{ops:Array Oper}{Q:Exit->Act->World->Prop}{id:Nat}{o:Oper}(ho:ops.toList=[o])(hg:o.guard=none){v:Value}(hr:(execOp a.eval o).run P w = .ok (.value v) w)(h:Q .normal (a.put o.dst v) w):(Code.region id ops false).wp P Q a w:=by
 refine wp_region_list ?_;rw[ho];show yHB P ops Q _ o a w;unfold yHB
 have:Region.wanted o (yielded ops a.tmps)=true:=by simp[Region.wanted,hg]
 rw[this];simp only[if_true];exact .inl (xRB hr h)
theorem wp_two{ops:Array Oper}{Q:Exit->Act->World->Prop}{id:Nat}{o1 o2:Oper}(ho:ops.toList=[o1,o2])(hg1:o1.guard=none)(hg2:o2.guard=none){v1 v2:Value}(hr:(execOp a.eval o1).run P w = .ok (.value v1) w)
  (hr2:(execOp (a.put o1.dst v1).eval o2).run P w = .ok (.value v2) w) (h:Q .normal ((a.put o1.dst v1).put o2.dst v2) w):(Code.region id ops false).wp P Q a w:=by
 refine wp_region_list ?_;rw[ho];show yHB P ops Q _ o1 a w;unfold yHB;have e1:Region.wanted o1 (yielded ops a.tmps)=true:=by simp[Region.wanted,hg1]
 rw[e1];simp only[if_true];refine .inl (xRB hr ?_);show yHB P ops Q _ o2 _ w;unfold yHB;have e2:Region.wanted o2 (yielded ops (a.put o1.dst v1).tmps)=true:=by simp[Region.wanted,hg2]
 rw[e2];simp only[if_true];exact .inl (xRB hr2 h)
theorem xZK{t t':TypeId}{x y:Operand}{n m:Int}{k:IntKind}{o:Oper}(hop:o.op = .binOp .lss t x y t')(hx:a.eval x = .int k n)(hy:a.eval y = .int k m)(w:World):(execOp a.eval o).run P w = .ok (.value (.bool (decide (n<m)))) w:=by
 unfold execOp;simp only[hop,hx,hy,Sem.run_bind];rw[xIB rfl (by simp)];simp[binOp,Op.intCmp]
theorem yAK{k:IntKind}(h:k = .i64∨k = .i32){n:Nat}(hn:(n:Int)<=k.max):(Lit.int k (n:Int)).wf=true/\k.wrap (n:Int)=(n:Int):=by
 rcases h with rfl|rfl
 ·have h2:(n:Int)<=9223372036854775807:=hn;refine⟨zJC ?_,?_⟩
  ·simp[IntKind.min,IntKind.max,IntKind.signed,IntKind.bits];omega
  ·rw[IntKind.wrap_i64];omega
 ·have h2:(n:Int)<=2147483647:=hn;refine⟨zJC ?_,?_⟩
  ·simp[IntKind.min,IntKind.max,IntKind.signed,IntKind.bits];omega
  ·rw[IntKind.wrap_i32];omega
theorem qHI{t:TypeId}{t':TypeId}{x:Operand}{n:Nat}{k:IntKind}(hk:k = .i64∨k = .i32){o:Oper}(hop:o.op = .binOp .add t x (.const (.int k 1)) t')(hx:a.eval x = .int k (n:Nat))(hn:((n+1:Nat):Int)<=k.max)(w:World):(execOp a.eval o).run P w = .ok (.value (.int k ((n+1:Nat):Int))) w:=by
 unfold execOp;have e:a.eval (.const (.int k 1)) = .int k 1:=rfl;simp only[hop,hx,e,Sem.run_bind];rw[xIB rfl (by simp)];have hw:k.wrap ((n:Int)+1)=((n+1:Nat):Int):=(yAK hk hn).2;simp[binOp,Op.intArith,hw]
theorem zFB{d s:Nat}{v:Value}(h:s≠d):(a.put (some d) v).tmps[s]? = a.tmps[s]?:=by
 rw[yIB];simp[h]
theorem qJB{d:Nat}{v:Value}(h:d<a.tmps.size):(a.put (some d) v).tmps[d]? = some v:=by
 rw[yIB];simp[h]
theorem qGA{d:Option Nat}{v:Value}:(a.put d v).tmps.size=a.tmps.size:=by cases d <;> simp[Act.put]
theorem zNB{d:Option Nat}{v:Value}:(a.put d v).defers=a.defers:=by cases d <;> rfl
theorem zBJ{ops:Array Oper}{Q:Exit->Act->World->Prop}{id:Nat}{o1 o2 o3:Oper}(ho:ops.toList=[o1,o2,o3])(hg1:o1.guard=none)(hg2:o2.guard=none)(hg3:o3.guard=none){v1 v2 v3:Value}(hr:(execOp a.eval o1).run P w = .ok (.value v1) w)
  (hr2:(execOp (a.put o1.dst v1).eval o2).run P w = .ok (.value v2) w) (hr3:(execOp ((a.put o1.dst v1).put o2.dst v2).eval o3).run P w = .ok (.value v3) w) (h:Q .normal (((a.put o1.dst v1).put o2.dst v2).put o3.dst v3) w):(Code.region id ops false).wp P Q a w:=by
 refine wp_region_list ?_;rw[ho];show yHB P ops Q _ o1 a w;unfold yHB;have e1:Region.wanted o1 (yielded ops a.tmps)=true:=by simp[Region.wanted,hg1]
 rw[e1];simp only[if_true];refine .inl (xRB hr ?_);show yHB P ops Q _ o2 _ w;unfold yHB;have e2:Region.wanted o2 (yielded ops (a.put o1.dst v1).tmps)=true:=by simp[Region.wanted,hg2]
 rw[e2];simp only[if_true];refine .inl (xRB hr2 ?_);show yHB P ops Q _ o3 _ w;unfold yHB;have e3:Region.wanted o3 (yielded ops ((a.put o1.dst v1).put o2.dst v2).tmps)=true:=by simp[Region.wanted,hg3]
 rw[e3];simp only[if_true];exact .inl (xRB hr3 h)
theorem qVD{x:Operand}{o:Oper}{v:Value}(hop:o.op = .move x∨o.op = .assign x)(hx:a.eval x=v)(w:World):(execOp a.eval o).run P w = .ok (.value v) w:=by
 unfold execOp;rcases hop with h|h
 ·simp only[h,hx];simp
 ·simp only[h,hx];simp
theorem zTK{ops:List Oper}{tc ti tn:Nat}{l:List Nat}(hp:headP ops=some (tc,ti,tn,l)):tc∈l/\ti∉l/\tn∉l /\
  ∀ {id:Nat} {aops:Array Oper} {a:Act} {w:World} {kd:IntKind} {k nn:Int} {Q:Exit->Act->World->Prop},aops.toList=ops->a.tmps[ti]? = some (.int kd k)->a.tmps[tn]? = some (.int kd nn)->(∀s∈l,s<a.tmps.size) ->
   (∀b1:Act,b1.tmps[tc]? = some (.bool (decide (k<nn)))->(∀s,s∉l->b1.tmps[s]? = a.tmps[s]?)->b1.defers=a.defers->b1.tmps.size=a.tmps.size->Q .normal b1 w)->(Code.region id aops false).wp P Q a w:=by
 unfold headP at hp;split at hp
 ·rename_i h;split at hp
  ·rename_i tc' t3 ti' tn' t4 h1 h2;split at hp
   ·rename_i hc;cases hp;obtain⟨g1,n1,n2,n3⟩:=hc;refine⟨by simp,by simpa using(Ne.symm n2),by simpa using(Ne.symm n3),fun {id aops a w kd k nn Q} ho hi hn hs hQ=>?_⟩;refine wp_one (P:=P) ho (by simpa using g1) (xZK h2 (zKB hi) (zKB hn) w) ?_;rw[h1];exact hQ _ (qJB (hs tc (by simp))) (fun s hs'=>zFB (by simpa using hs')) zNB qGA
   ·cases hp
  ·cases hp
 ·rename_i m1 m2 h;split at hp
  ·rename_i x ti' y tn' tc' t3 x' y' t4 h1 h2 h3 h4 h5 h6;split at hp
   ·rename_i hc;cases hp;obtain⟨g1,g2,g3,rfl,rfl,n1,n2,n3,n4,n5,n6,n7,n8⟩:=hc;refine⟨by simp,by simp[Ne.symm n7,Ne.symm n3,Ne.symm n5],by simp[Ne.symm n8,Ne.symm n4,Ne.symm n6],fun {id aops a w kd k nn Q} ho hi hn hs hQ=>?_⟩;have s1:x'<a.tmps.size:=hs x' (by simp);have s2:y'<a.tmps.size:=hs y' (by simp);have s3:tc<a.tmps.size:=hs tc (by simp);have e2:(a.put (some x') (.int kd k)).tmps[tn]? = some (.int kd nn):=by rw[zFB (Ne.symm n4)];exact hn
    refine zBJ (P:=P) ho (by simpa using g1) (by simpa using g2) (by simpa using g3) (v1:=.int kd k) (v2:=.int kd nn) (v3:=.bool (decide (k<nn))) (qVD (.inl h2) (zKB hi) w) (by rw[h1];exact qVD (.inl h4) (zKB e2) w) ?_ ?_
    ·rw[h1,h3];have e1:((a.put (some x') (.int kd k)).put (some y') (.int kd nn)).tmps[x']? = some (.int kd k):=by rw[zFB n1];exact qJB s1
     have e3:((a.put (some x') (.int kd k)).put (some y') (.int kd nn)).tmps[y']? = some (.int kd nn):=qJB (by rw[qGA];exact s2);exact xZK h6 (zKB e1) (zKB e3) w
    ·rw[h1,h3,h5];refine hQ _ (qJB (by rw[qGA,qGA];exact s3)) (fun s hs'=>?_) (by rw[zNB,zNB,zNB]) (by rw[qGA,qGA,qGA]);simp only[List.mem_cons,List.not_mem_nil,or_false,not_or] at hs';rw[zFB hs'.1,zFB hs'.2.2,zFB hs'.2.1]
   ·cases hp
  ·cases hp
 ·cases hp
theorem qXK{ops:List Oper}{ti:Nat}{kd:IntKind}{l:List Nat}(hp:tailP ops=some (ti,kd,l))(hk:kd = .i64∨kd = .i32):ti∉l /\
  ∀ {id:Nat} {aops:Array Oper} {a:Act} {w:World} {k:Nat} {Q:Exit->Act->World->Prop},aops.toList=ops->a.tmps[ti]? = some (.int kd (k:Nat))->((k+1:Nat):Int)<=kd.max->(∀s∈l,s<a.tmps.size)->ti<a.tmps.size ->
   (∀b1:Act,b1.tmps[ti]? = some (.int kd ((k+1:Nat):Int))->(∀s,s≠ti->s∉l->b1.tmps[s]? = a.tmps[s]?)->b1.defers=a.defers->b1.tmps.size=a.tmps.size->Q .normal b1 w)->(Code.region id aops false).wp P Q a w:=by
 unfold tailP at hp;split at hp
 ·rename_i a1 a2;split at hp
  ·rename_i t2 t5 ti' kd' t6 ti2 t2' h1 h2 h3 h4;split at hp
   ·rename_i hc;cases hp;obtain⟨g1,g2,rfl,rfl,n1⟩:=hc;refine⟨by simpa using(Ne.symm n1),fun {id aops a w k Q} ho hi hm hs ht hQ=>?_⟩;have s1:t2'<a.tmps.size:=hs t2' (by simp);refine wp_two (P:=P) ho (by simpa using g1) (by simpa using g2) (v1:=.int kd ((k+1:Nat):Int)) (v2:=.int kd ((k+1:Nat):Int)) (qHI hk h2 (zKB hi) hm w) (by rw[h1];exact qVD (.inl h4) (zKB (qJB s1)) w) ?_;rw[h1,h3];refine hQ _ (qJB (by rw[qGA];exact ht)) (fun s hs1 hs2=>?_) (by rw[zNB,zNB]) (by rw[qGA,qGA]);rw[zFB hs1,zFB (by simpa using hs2)]
   ·cases hp
  ·cases hp
 ·rename_i m a1 a2;split at hp
  ·rename_i x ti' y t5 x' kd' t6 ti2 y' h1 h2 h3 h4 h5 h6;split at hp
   ·rename_i hc;cases hp;obtain⟨g1,g2,g3,rfl,rfl,rfl,n1,n2⟩:=hc;refine⟨by simp[Ne.symm n1,Ne.symm n2],fun {id aops a w k Q} ho hi hm hs ht hQ=>?_⟩;have s1:x'<a.tmps.size:=hs x' (by simp);have s2:y'<a.tmps.size:=hs y' (by simp);refine zBJ (P:=P) ho (by simpa using g1) (by simpa using g2) (by simpa using g3) (v1:=.int kd (k:Nat)) (v2:=.int kd ((k+1:Nat):Int)) (v3:=.int kd ((k+1:Nat):Int)) (qVD (.inl h2) (zKB hi) w) (by rw[h1];exact qHI hk h4 (zKB (qJB s1)) hm w)
     (by rw[h1,h3];exact qVD (.inr h6) (zKB (qJB (by rw[qGA];exact s2))) w) ?_
    rw[h1,h3,h5];refine hQ _ (qJB (by rw[qGA,qGA];exact ht)) (fun s hs1 hs2=>?_) (by rw[zNB,zNB,zNB]) (by rw[qGA,qGA,qGA]);simp only[List.mem_cons,List.not_mem_nil,or_false,not_or] at hs2;rw[zFB hs1,zFB hs2.2,zFB hs2.1]
   ·cases hp
  ·cases hp
 ·cases hp
theorem zBF{o:Option SV}{v:SV}(h:isSV o v=true):o=some v:=by
 cases o with
 | none=>simp[isSV] at h
 | some u=>rw[SV.beq_eq h]
theorem qWA(l m:List DE)(J:List D):zDA X (l++m) J=zDA X l J++zDA X m J:=by
 simp[qTB]
theorem xGB{B h0:St}{cars:List (Pl×Cr)}{tn:SV}{lp:LoopP}(h:yGD B h0 cars tn lp=true) :
  h0.obl=[]/\qVB (msOf cars)=true/\yRB B.lvl h0 cars 0=true/\lk lp.ti h0.env=none/\(∀s∈lp.sl,lk s h0.env=none/\s<h0.nt)/\lk lp.tn h0.env=some tn /\
  lp.ti<h0.nt/\qKD B.vars h0.vars (msOf cars)=true/\qKD B.objs h0.objs []=true:=by
 unfold yGD at h;simp only[baZ,dtZ,List.isEmpty_iff,List.all_eq_true] at h;obtain⟨⟨⟨⟨⟨⟨⟨⟨h1,h2⟩,h3⟩,h4⟩,h5⟩,h7⟩,h8⟩,h11⟩,h12⟩:=h;exact⟨h1,h2,h3,by simpa using h4,fun s hs=>⟨by simpa using(h5 s hs).1,(h5 s hs).2⟩,zBF h7,h8,h11,h12⟩
structure Kept (B:St) (g g':Gh):Prop where
 rv:∀n vi,lk n B.vars=some vi->g'.rv n=g.rv n/\g'.rh n=g.rh n
 rb:∀o cs,lk o B.objs=some cs->g'.rb o=g.rb o
structure Enters (P:Program) (X:Nat->List D->D) (w0:Base) (B h0 h:St) (ti:Nat) (O:List D) (gk:Gh) (w:World) (gr:Gh):Prop where
 mem:Mem P X w0 O h gr w
 den:∀s v,lk s h0.env=some v->v.den X O gr=v.den X O gk
 rv:∀n vi,lk n B.vars=some vi->(∃vj,lk n h.vars=some vj)/\gr.rv n=gk.rv n/\gr.rh n=gk.rh n
 rb:∀o cs,lk o B.objs=some cs->(∃c,lk o h.objs=some c)/\gr.rb o=gk.rb o
theorem loopH{ex:ExecF}(hex:ExOk P X Pre ex){i:Nat}{b:Code}{lp:LoopP}(hlp:zKC (.block i b)=some lp){B h0 h s2:St}{cars:List (Pl×Cr)}{d':DE}{outs:List Out}{tnS:SV}
  {inits bodies itail tail:List DE} (hho:yGD B h0 cars tnS lp=true) (hl0:h0.lvl=B.lvl+2+cars.length+tail.length) (hit:itail.length=tail.length)
  (houts:ex [.block lp.inner lp.body] h=some outs) (hhnt:h.nt=h0.nt) (hhenv:∀s v,lk s h.env=some v->(s=lp.ti/\v = .i lp.kd (.v B.lvl))∨(s≠lp.ti/\lk s h0.env=some v))
  (hfit0:fits P B.lvl cars B h0=some inits) (hti2:lk lp.ti s2.env=some (.i lp.kd (.v B.lvl))) (hfit2:fits P B.lvl cars s2 h0=some bodies)
  {rows:List D} (step:Nat->D->List D->List D) (hstep:step=fun i r acc=>zDA X (bodies++tail) (J++(.int i::r::acc)))
  (acc:Nat->List D) (hacc:acc=fun k=>zQA step 0 (rows.take k) (zDA X (inits++itail) J))
  (dk:Nat->D->List D) (hdk:dk=fun k y=>J++(.int k::y::acc k))
  (hnum:∀(O:List D) (gk:Gh) (w':World),O.take B.lvl=J->Mem P X w0 O h0 gk w'->tnS.ok X O -> ∃nn:Int,tnS.den X O gk = .int lp.kd nn/\rows.length=nn.toNat/\(rows.length:Int)<=lp.kd.max)
  (henter:∀(k:Nat) (gk:Gh) (w':World),k<rows.length->Mem P X w0 (dk k (rows.getD k .nil)) h0 gk w' -> ∃gr,Enters P X w0 B h0 h lp.ti (dk k (rows.getD k .nil)) gk w' gr)
  (hN:∀(O:List D) (o:Out),o∈outs->PcOk X O o.pc->o.ex = .norm -> ∀(g0 g:Gh) (w:World) (a:Act),Mem P X w0 O o.st g w->Env X O o.st g a->Ext h g0 o.st g -> ∃g',Mem P X w0 O s2 g' w/\Env X O s2 g' a/\Ext h g0 s2 g')
  (Live:Nat->Prop) (hL0:Live 0) (hLs:∀k,k<rows.length->Live k -> ∀o∈outs,PcOk X (dk k (rows.getD k .nil)) o.pc->o.ex = .norm->Live (k+1))
  (hLob:∀k,k<rows.length->Live k -> ∀o∈outs,PcOk X (dk k (rows.getD k .nil)) o.pc->zCA X Pre o.st.obl (dk k (rows.getD k .nil)))
  (hm:Mem P X w0 J B g w) (he:∀s sv,lk s B.env=some sv->a.tmps[s]? = some (sv.den X J g)/\sv.ok X J) (hdf:a.defers=[]) (hsz:a.tmps.size=B.nt) (hti:a.tmps[lp.ti]? = some (.int lp.kd 0)) (Q:Exit->Act->World->Prop)
  (hend:∀(gk:Gh) (w':World) (a':Act),Live rows.length->Kept B g gk->Mem P X w0 (dk rows.length .nil) h0 gk w'->(∀s v,lk s h0.env=some v->a'.tmps[s]? = some (v.den X (dk rows.length .nil) gk)/\v.ok X (dk rows.length .nil))->a'.defers=[]->a'.tmps.size=h0.nt->Q .normal a' w')
  (hstop:∀(k:Nat),k<rows.length->Live k -> ∀o∈outs,PcOk X (dk k (rows.getD k .nil)) o.pc->o.ex ≠ .norm -> ∀(g0 g':Gh) (w':World) (a':Act),Kept B g g'->Ext h g0 o.st g'->Mem P X w0 (dk k (rows.getD k .nil)) o.st g' w'->Env X (dk k (rows.getD k .nil)) o.st g' a'->Q (zSF i o.ex).toExit a' w') :
  (Code.block i b).wp P Q a w:=by
 obtain⟨body,hid,hops,aid,aops,sh,st,rfl,hfl,hh,ha,hsl,ntn,nkd⟩:=zSE hlp;obtain⟨hd1,hd2,hd3,hdwp⟩:=zTK (P:=P) hh;obtain⟨tl1,tlwp⟩:=qXK (P:=P) ha nkd;obtain⟨hobe,hnd,hco,hnti,hsls,htn',hlt1,hkv,hko⟩:=xGB hho;have hshe:∀s∈sh,lk s h0.env=none/\s<h0.nt:=fun s hs=>hsls s (by rw[hsl];exact List.mem_append_left _ hs)
 have hste:∀s∈st,lk s h0.env=none/\s<h0.nt:=fun s hs=>hsls s (by rw[hsl];exact List.mem_append_right _ hs)
 have hlv:=hm.lv;have hδt:J.take B.lvl=J:=List.take_of_length_le (by omega);have htk:∀k y,(dk k y).take B.lvl=J:=fun k y=>by
  rw[hdk];show (J++_).take _=_;rw[List.take_append_of_le_length (by omega),hδt]
 have hitl:∀O,(zDA X itail O).length=tail.length:=fun O=>by rw[yAA,hit]
 have htl:∀O,(zDA X tail O).length=tail.length:=fun O=>by rw[yAA]
 let Inv:Nat->Act->World->Prop:=fun k a w=>k<=rows.length/\Live k/\a.tmps[lp.ti]? = some (.int lp.kd (k:Nat))/\a.defers=[]/\a.tmps.size=h0.nt /\
  ∃gk:Gh,(∀y,Mem P X w0 (dk k y) h0 gk w /\ ∀s v,lk s h0.env=some v->a.tmps[s]? = some (v.den X (dk k y) gk)/\v.ok X (dk k y))/\Kept B g gk
 have hbase:Inv 0 a w:=by
  refine⟨Nat.zero_le _,hL0,hti,hdf,by rw[hsz];exact qGC hfit0,g.carry X J B cars,fun y=>?_,⟨fun n vi hn=>?_,fun o cs _=>rfl⟩⟩
  ·obtain⟨k1,k2,k3,_⟩:=zLB hm (by omega) hfit0 hnd hco (zDA X itail J) (by rw[hitl];exact hl0) he (.int (0:Nat)) y;rw[hδt,<- qWA] at k1 k2;rw[hdk,hacc];exact⟨k1,k2⟩
  ·have:=(zXA hkv hn).2
   simp[Gh.carry,xWA this]
 refine wp_block (wp_loop (I:=fun a w=>∃k,Inv k a w) (μ:=fun a _=>rows.length-(match a.tmps[lp.ti]? with|some (.int _ x)=>x.toNat|_=>0)) ⟨0,hbase⟩ (fun a w hI=>?_));obtain⟨k,hkn,hkL,hkti,hkdf,hksz,gk,hgk,hgkept⟩:=hI;obtain⟨nn,hnn,hrl,hlen⟩:=hnum _ gk w (htk k .nil) (hgk .nil).1 ((hgk .nil).2 lp.tn _ htn').2;have htnv:a.tmps[lp.tn]? = some (.int lp.kd nn):=by
  rw[((hgk .nil).2 lp.tn _ htn').1,hnn]
 have hmu:(match a.tmps[lp.ti]? with|some (.int _ x)=>x.toNat|_=>0)=k:=by rw[hkti];simp
 rw[hmu];generalize hQ':(Exit.then (fun a' w'=>(∃k,Inv k a' w')/\(rows.length-(match a'.tmps[lp.ti]? with|some (.int _ x)=>x.toNat|_=>0))<rows.length-k) (Exit.inBlock i Q))=Q';have hflat:wpC P Q' (qPG body++[]) a w->body.wp P Q' a w:=fun hh=>by
  have h2:=xOE body hh;have e2:Exit.then (wpC P Q' []) Q'=Q':=by funext e a w;cases e <;> rfl
  rw[e2] at h2;exact h2
 refine hflat ?_;rw[List.append_nil,hfl];refine hdwp rfl hkti htnv (fun s hs=>by rw[hksz];exact(hshe s hs).2) (fun b1 hb1c hb1o hb1df hb1sz=>?_);rw[hkdf] at hb1df;rw[hksz] at hb1sz;have hb1env:∀y s v,lk s h0.env=some v->b1.tmps[s]? = some (v.den X (dk k y) gk)/\v.ok X (dk k y):=fun y s v hs=>by
  have hne:s∉sh:=fun e=>by rw[(hshe s e).1] at hs;cases hs
  rw[hb1o s hne];exact(hgk y).2 s v hs
 show (Code.cond (.tmp lp.tc) .skip (.exit i)).wp P _ b1 w;refine wp_cond_split (zKB hb1c) (fun hlt=>?_) (fun hge=>?_)
 ·skip
  have hkl:k<rows.length:=by
   have:(k:Int)<nn:=by simpa using hlt
   omega
  refine wp_skip ?_;obtain⟨hmk,_⟩:=hgk (rows.getD k .nil);obtain⟨gr,hent⟩:=henter k gk w hkl hmk;have hobk:=hLob k hkl hkL;have hLk:=hLs k hkl hkL;have hstopk:=hstop k hkl hkL;generalize hδk:dk k (rows.getD k .nil)=δk at hent hobk hLk hstopk;have hδlv:δk[B.lvl]? = some (.int (k:Nat)):=by rw[<- hδk,hdk];show (J++_)[B.lvl]? = _;rw[List.getElem?_append_right (by omega)];simp[hlv]
  have hδlv0:(DE.v B.lvl).eval X δk = .int (k:Nat):=by simp[DE.eval,List.getD_eq_getElem?_getD,hδlv]
  have hEh:Env X δk h gr b1:=by
   refine⟨fun s sv hs=>?_,hb1df,by rw[hhnt];exact hb1sz⟩;rcases hhenv s sv hs with⟨rfl,rfl⟩|⟨hst,hs⟩
   ·rw[hb1o _ hd2,hkti];exact⟨by simp[SV.den,hδlv0,D.asInt],⟨_,hδlv0,(yAK nkd (by omega)).1⟩⟩
   ·rw[hent.den s sv hs,<- hδk];exact hb1env (rows.getD k .nil) s sv hs
  have hkeptX:∀(s':St) (g2:Gh),Ext h gr s' g2->Kept B g g2:=fun s' g2 q1=>⟨fun n vi hn=>by
    obtain⟨⟨vj,hj⟩,e1,e2⟩:=hent.rv n vi hn;obtain⟨_,e3,e4⟩:=q1.rv n vj hj;obtain⟨k1,k2⟩:=hgkept.rv n vi hn;exact⟨by rw[e3,e1,k1],by rw[e4,e2,k2]⟩,fun o cs hc=>by
    obtain⟨⟨cj,hj⟩,e1⟩:=hent.rb o cs hc;obtain⟨_,e2⟩:=q1.rb o cj hj;rw[e2,e1];exact hgkept.rb o cs hc⟩
  show (Code.block lp.inner lp.body).wp P (Exit.then (wpC P Q' [.region aid aops false]) Q') b1 w;refine zTA (hex.sound w0 δk [.block lp.inner lp.body] h _ gr w b1 hent.mem hEh houts (fun o ho hpc=>hobk o ho hpc) _ (fun o ho hpc g1 w2 c2 q1' q2' q3'=>?_));by_cases hno:o.ex = .norm
  ·rw[hno];obtain⟨g2,q2,q3,q1⟩:=hN δk o ho hpc hno gr g1 w2 c2 q2' q3' q1';have hL1:=hLk o ho hpc hno;show (Code.region aid aops false).wp P (Exit.then (wpC P Q' []) Q') c2 w2;have hcti:c2.tmps[lp.ti]? = some (.int lp.kd ((k:Nat):Int)):=by
    have:=(q3.tm lp.ti _ hti2).1
    rw[this];simp[SV.den,hδlv0,D.asInt]
   have hcsz:c2.tmps.size=h0.nt:=by rw[q3.sz];exact qGC hfit2
   have hmaxk:((k+1:Nat):Int)<=lp.kd.max:=by omega
   refine tlwp rfl hcti hmaxk (fun s hs=>by rw[hcsz];exact(hste s hs).2) (by rw[hcsz];exact hlt1) (fun b3 hb3ti hb3o hb3df hb3sz=>?_);have hδkl:δk.take B.lvl=J:=by rw[<- hδk];exact htk _ _
   have hδkle:B.lvl<=δk.length:=by rw[<- hδk,hdk];show _<=(J++_).length;rw[List.length_append];omega
   have haccs:acc (k+1)=zDA X bodies δk++zDA X tail δk:=by
    rw[<- qWA,hacc];show zQA step 0 (rows.take (k+1)) _=_;have e1:rows.take (k+1)=rows.take k++[rows.getD k .nil]:=by
     rw[List.take_add_one]
     congr 1
     simp[List.getD,hkl]
    rw[e1,xRA];simp only[Nat.zero_add,List.length_take,Nat.min_eq_left (Nat.le_of_lt hkl)];rw[<- hδk,hdk,hacc,hstep]
   have hnext:Inv (k+1) b3 w2:=by
    refine⟨hkl,hL1,hb3ti,by rw[hb3df];exact q3.df,by rw[hb3sz];exact hcsz,g2.carry X δk s2 cars,fun y=>?_,⟨fun n vi hn=>?_,fun o cs hc=>?_⟩⟩
    ·obtain⟨k1,k2,k3,_⟩:=zLB q2 hδkle hfit2 hnd hco (zDA X tail δk) (by rw[htl];exact hl0) (a:=c2) q3.tm (.int ((k+1:Nat):Int)) y;rw[hδkl,<- haccs] at k1 k2;have e2:dk (k+1) y=J++(.int ((k+1:Nat):Int)::y::acc (k+1)):=by rw[hdk]
     rw[e2];refine⟨k1,fun s v hs=>?_⟩;have hs1:s≠lp.ti:=fun e=>by rw[e,hnti] at hs;cases hs
     have hs2:s∉st:=fun e=>by rw[(hste s e).1] at hs;cases hs
     rw[hb3o s hs1 hs2];exact k2 s v hs
    ·have hnm:=(zXA hkv hn).2;simp only[Gh.carry,xWA hnm];exact(hkeptX s2 g2 q1).rv n vi hn
    ·exact(hkeptX s2 g2 q1).rb o cs hc
   show Q' .normal b3 w2;rw[<- hQ'];refine⟨⟨k+1,hnext⟩,?_⟩;rw[hb3ti];simp only[Int.toNat_natCast];omega
  ·refine yHC hno ?_;have hq:=hstopk o ho hpc hno gr g1 w2 c2 (hkeptX o.st g1 q1') q1' q2' q3';rw[<- hQ'];refine yHC hno ?_;cases hx:o.ex with
   | norm=>exact absurd hx hno
   | ret=>rw[hx] at hq;exact hq
   | goto l=>rw[hx] at hq;exact hq
   | exit j =>
    rw[hx] at hq;simp only[Ex.toExit,Exit.inBlock];by_cases hji:j=i
    ·subst hji;simpa[zSF,Ex.toExit] using hq
    ·have:¬(Ex.exit j=Ex.exit i):=fun e=>by cases e;exact hji rfl
     simp only[zSF,this,if_false,Ex.toExit] at hq;simp only[hji,if_false];exact hq
 ·skip
  have hkl:k=rows.length:=by
   have:¬((k:Int)<nn):=by simpa using hge
   omega
  subst hkl;refine wp_exit ?_;show Q' (.exit i) b1 w;rw[<- hQ'];show Exit.inBlock i Q (.exit i) b1 w;simp only[Exit.inBlock,if_true];exact hend gk w b1 hkL hgkept (hgk .nil).1 (hb1env .nil) hb1df hb1sz
end
end Go.Dx
namespace Go.Dx
open Go
section
variable {P:Program} {X:Nat->List D->D} {Pre:Nat->List D->Prop} {w0:Base} {J δ':List D} {st:St} {g g':Gh} {w:World} {a:Act}
theorem xIA{X:Nat->List D->D}{J:List D}{α:Type}{e:DE}:∀ {l t f:List (List (DE×Bool)×α)},xKD e l=some (t,f) -> ∀p∈l,PcOk X J p.1 -> ∃b pc',(e.eval X J).asBool=b/\PcOk X J pc'/\(pc',p.2)∈(if b then t else f)
 | [],t,f,h,p,hp,_=>by cases hp
 | (pc,s)::r,t,f,h,p,hp,hpc=>by
  simp only[xKD] at h;split at h
  ·rename_i e' b pc' t' f' hs;split at h
   ·rename_i hbe;have he:=DE.beq_eq hbe;subst he;have ih:=fun hp'=>xIA hs p hp' hpc
    rcases List.mem_cons.1 hp with rfl|hp
    ·have h1:(e.eval X J).asBool=b:=hpc (e,b) (by simp);have h2:PcOk X J pc':=fun q hq=>hpc q (by simp[hq])
     refine⟨b,pc',h1,h2,?_⟩;cases b with
     | true=>simp only[if_true] at h ⊢;cases h;simp
     | false=>simp only[bfZ,if_false] at h ⊢;cases h;simp
    ·obtain⟨b',pc2,k1,k2,k3⟩:=ih hp;refine⟨b',pc2,k1,k2,?_⟩;cases b with
     | true =>
      simp only[if_true] at h;cases h
      cases b' with
      | true=>simp only[if_true] at k3 ⊢;exact List.mem_cons_of_mem _ k3
      | false=>exact k3
     | false =>
      simp only[bfZ,if_false] at h;cases h
      cases b' with
      | true=>exact k3
      | false=>simp only[bfZ,if_false] at k3 ⊢;exact List.mem_cons_of_mem _ k3
   ·cases h
  ·cases h
theorem qJA{st0:St}{g0:Gh}:∀ {n:Nat} {l:List (List (DE×Bool)×St)} {m:St},gath P st0 n l=some m -> ∀p∈l,PcOk X J p.1 ->
  (zCA X Pre m.obl J->zCA X Pre p.2.obl J) /\ ∀(g:Gh) (w:World) (a:Act),Mem P X w0 J p.2 g w->Env X J p.2 g a->Ext st0 g0 p.2 g -> ∃g',Mem P X w0 J m g' w/\Env X J m g' a/\Ext st0 g0 m g'
 | n,l,m,h,p,hp,hpc=>by
  unfold gath at h;split at h
  ·cases h;simp only[List.mem_singleton] at hp;subst hp;exact⟨fun h=>h,fun g w a h1 h2 h3=>⟨g,h1,h2,h3⟩⟩
  ·rename_i n e b pc s r _;split at h
   ·rename_i t hs;obtain⟨b',pc',k1,k2,k3⟩:=xIA hs p hp hpc;cases b' with
    | true=>exact qJA h (pc',p.2) k3 k2
    | false=>simp at k3
   ·rename_i f hs;obtain⟨b',pc',k1,k2,k3⟩:=xIA hs p hp hpc;cases b' with
    | true=>simp at k3
    | false=>exact qJA h (pc',p.2) k3 k2
   ·rename_i t f _ _ hs;obtain⟨b',pc',k1,k2,k3⟩:=xIA hs p hp hpc;split at h
    ·rename_i s1 s2 h1 h2;cases b' with
     | true =>
      obtain⟨i1,i2⟩:=qJA h1 (pc',p.2) k3 k2;refine⟨fun hob=>?_,fun g w a m1 m2 m3=>?_⟩
      ·rw[qPD h] at hob;exact i1 ((xZA (zPA.1 hob).1).1 k1)
      ·obtain⟨g',q1,q2,q3⟩:=i2 g w a m1 m2 m3;exact yCB true k1 q1 q2 q3 h
     | false =>
      obtain⟨i1,i2⟩:=qJA h2 (pc',p.2) k3 k2;refine⟨fun hob=>?_,fun g w a m1 m2 m3=>?_⟩
      ·rw[qPD h] at hob;exact i1 ((xZA (zPA.1 hob).1).2 k1)
      ·obtain⟨g',q1,q2,q3⟩:=i2 g w a m1 m2 m3;exact yCB false k1 q1 q2 q3 h
    ·cases h
   ·cases h
  ·cases h
theorem yQK(e a b:DE):((mkIf e a b).eval X J).asBool=if (e.eval X J).asBool then (a.eval X J).asBool else (b.eval X J).asBool:=by
 unfold mkIf;split
 ·cases hh:(e.eval X J).asBool <;> simp[DE.eval,D.asBool]
 ·rw[zEA];show (D.bool (!(e.eval X J).asBool)).asBool=_;cases hh:(e.eval X J).asBool <;> simp[DE.eval,D.asBool]
 ·simp only[DE.eval,zDA,Fn.eval];split <;> rfl
theorem xKB:∀ {n:Nat} {l:List (List (DE×Bool)×Bool)} {c:DE},yVH n l=some c -> ∀p∈l,PcOk X J p.1->(c.eval X J).asBool=p.2
 | n,l,c,h,p,hp,hpc=>by
  unfold yVH at h;split at h
  ·rename_i hall;cases h
   have:=List.all_eq_true.1 hall p hp
   simp[DE.eval,D.asBool,this]
  split at h
  ·rename_i hall;cases h
   have:=List.all_eq_true.1 hall p hp
   simp only[Bool.not_eq_true'] at this;simp[DE.eval,D.asBool,this]
  split at h
  ·split at h
   ·rename_i n e b pc x r _ _ t f hs;split at h
    ·rename_i a1 b1 h1 h2;cases h;obtain⟨b',pc',k1,k2,k3⟩:=xIA hs p hp hpc;rw[yQK,k1];cases b' with
     | true=>simp only[if_true];exact xKB h1 (pc',p.2) k3 k2
     | false=>simp only[bfZ,if_false];exact xKB h2 (pc',p.2) k3 k2
    ·cases h
   ·cases h
  ·cases h
theorem qKA{x:Ex}:zSB x=true↔x = .norm:=by cases x <;> simp[zSB]
theorem xAC{outs:List Out}{o:Out}(ho:o∈outs)(hn:o.ex = .norm):(o.pc,o.st)∈yZC outs:=by
 unfold yZC;exact List.mem_map.2 ⟨o,List.mem_filter.2 ⟨ho,qKA.2 hn⟩,rfl⟩
theorem xND{outs:List Out}{o:Out}(ho:o∈outs)(hn:o.ex ≠ .norm):(o.pc,o.st)∈yFE outs:=by
 unfold yFE;refine List.mem_map.2 ⟨o,List.mem_filter.2 ⟨ho,?_⟩,rfl⟩;cases hx:zSB o.ex with
 | true=>exact absurd (qKA.1 hx) hn
 | false=>rfl
theorem xLD:∀ {outs:List Out},yZE outs=some none -> ∀o∈outs,o.ex = .norm
 | [],_,o,ho=>by cases ho
 | p::r,h,o,ho=>by
  simp only[yZE] at h;split at h
  ·cases h
  ·rename_i hr;split at h
   ·rename_i hn;rcases List.mem_cons.1 ho with rfl|ho
    ·exact qKA.1 hn
    ·exact xLD hr o ho
   ·simp at h
  ·split at h <;> simp at h
theorem xMD:∀ {outs:List Out} {x:Ex},yZE outs=some (some x) -> ∀o∈outs,o.ex ≠ .norm->o.ex=x
 | [],_,_,o,ho,_=>by cases ho
 | p::r,x,h,o,ho,hn=>by
  simp only[yZE] at h;split at h
  ·cases h
  ·rename_i hr;split at h
   ·simp at h
   ·simp only[Option.some.injEq] at h;rcases List.mem_cons.1 ho with rfl|ho
    ·exact h
    ·exact absurd (xLD hr o ho) hn
  ·rename_i y hr;split at h
   ·rename_i hc;simp only[Option.some.injEq] at h;subst h;rcases List.mem_cons.1 ho with rfl|ho
    ·simp only[Bool.or_eq_true,dtZ] at hc;rcases hc with hc|hc
     ·exact absurd (qKA.1 hc) hn
     ·exact hc
    ·exact xMD hr o ho hn
   ·cases h
theorem xCF{lv:Nat}{s:St}:∀ {l vs:List (Nat×VI)},zFE lv s l=some vs->(∀n vi,lk n vs=some vi->vi.vt = .dead∨(lk n s.vars=some vi/\vi.de.shut lv=true)) /\ ∀n vi,lk n l=some vi -> ∃vj,lk n vs=some vj
 | [],vs,h=>by simp only[zFE,Option.some.injEq] at h;subst h;exact⟨by simp[yTA,yLA],by simp[yTA,yLA]⟩
 | (m,x)::r,vs,h=>by
  simp only[zFE] at h;split at h
  ·rename_i vi r' hv hr;cases h;obtain⟨k1,k2⟩:=xCF hr;refine⟨fun n vj hn=>?_,fun n vj hn=>?_⟩
   ·by_cases hmn:m=n
    ·subst hmn;rw[zIA] at hn;cases hn;split
     ·rename_i hsh;exact .inr ⟨hv,hsh⟩
     ·exact .inl rfl
    ·rw[zHA hmn] at hn;exact k1 n vj hn
   ·by_cases hmn:m=n
    ·subst hmn;exact⟨_,zIA⟩
    ·rw[zHA hmn] at hn;obtain⟨vk,hk⟩:=k2 n vj hn;exact⟨vk,by rw[zHA hmn];exact hk⟩
  ·cases h
theorem xBF{lv:Nat}{s:St}:∀ {l os:List (Nat×List SV)},zEE lv s l=some os->(∀o cs,lk o os=some cs->lk o s.objs=some cs/\zOC lv [] cs=true) /\ ∀o cs,lk o l=some cs -> ∃c,lk o os=some c
 | [],os,h=>by simp only[zEE,Option.some.injEq] at h;subst h;exact⟨by simp[yTA,yLA],by simp[yTA,yLA]⟩
 | (m,x)::r,os,h=>by
  simp only[zEE] at h;split at h
  ·rename_i cs r' hv hr;split at h
   ·rename_i hcl;cases h;obtain⟨k1,k2⟩:=xBF hr;refine⟨fun n vj hn=>?_,fun n vj hn=>?_⟩
    ·by_cases hmn:m=n
     ·subst hmn;rw[zIA] at hn;cases hn;exact⟨hv,hcl⟩
     ·rw[zHA hmn] at hn;exact k1 n vj hn
    ·by_cases hmn:m=n
     ·subst hmn;exact⟨_,zIA⟩
     ·rw[zHA hmn] at hn;obtain⟨vk,hk⟩:=k2 n vj hn;exact⟨vk,by rw[zHA hmn];exact hk⟩
   ·cases h
  ·cases h
theorem yIE{lv:Nat}:∀ {l:List (Nat×SV)} {s:Nat} {v:SV},lk s (yHE lv l)=some v->lk s l=some v/\v.closed lv []=true
 | [],_,_,h=>by simp[yHE,yTA,yLA] at h
 | (m,x)::r,s,v,h=>by
  simp only[yHE] at h;split at h
  ·rename_i hc;by_cases hm:m=s
   ·subst hm;rw[zIA] at h;cases h
    exact⟨zIA,hc⟩
   ·rw[zHA hm] at h;obtain⟨k1,k2⟩:=yIE h;exact⟨by rw[zHA hm];exact k1,k2⟩
  ·obtain⟨hne,h2⟩:=zAB h;obtain⟨k1,k2⟩:=yIE h2;exact⟨by rw[zHA hne];exact k1,k2⟩
theorem zFH{l:Lp}:∀ {r:List Lp},lpIn l r=true->l∈r
 | [],h=>by simp[lpIn] at h
 | x::r,h=>by
  simp only[lpIn,Bool.or_eq_true,baZ,beq_iff_eq] at h;rcases h with h|h
  ·obtain⟨⟨⟨h1,h2⟩,h3⟩,h4⟩:=h;obtain⟨r1,s1,e1,l1⟩:=x;obtain⟨r2,s2,e2,l2⟩:=l;simp only at h1 h2 h3 h4
   have:=SV.beq_eq h2
   subst h1;subst this;subst h3;subst h4
   simp
  ·exact List.mem_cons_of_mem _ (zFH h)
theorem zZI{B s W:St}{obl:List Ob}{O:List D}{g0:Gh}(hw:zLL B s obl=some W)(h:Mem P X w0 O s g w)(he:Env X O s g a)(hδ:O.take B.lvl=J)(hl:J.length=B.lvl)(hk:Kept B g0 g) :
  Mem P X w0 J W g w/\Env X J W g a/\Ext B g0 W g/\W.obl=obl:=by
 unfold zLL at hw;split at hw
 rotate_left
 ·cases hw
 rename_i vs os hvs hos;split at hw
 rotate_left
 ·cases hw
 rename_i hc;simp only[baZ,beq_iff_eq] at hc;cases hw;obtain⟨v1,v2⟩:=xCF hvs;obtain⟨o1,o2⟩:=xBF hos;have htake:O.take B.lvl=J.take B.lvl:=by rw[hδ,List.take_of_length_le (by omega)]
 have hgh:GhEq [] g g:=⟨fun _ _=>⟨rfl,rfl⟩,fun _=>rfl⟩;refine⟨h.re _ hl rfl (fun o=>rfl) (fun n vi hn=>?_) (fun n m vi vj b h1 h2 h3 h4=>?_) (fun o cs hc'=>?_) (fun l hl'=>?_),⟨fun s' sv hs=>?_,he.df,by rw[he.sz];exact hc.2⟩,⟨fun n vi hn=>⟨v2 n vi hn,hk.rv n vi hn⟩,fun o cs ho=>⟨o2 o cs ho,hk.rb o cs ho⟩⟩,rfl⟩
 ·rcases v1 n vi hn with hd|⟨k1,k2⟩
  ·exact .inl hd
  ·exact .inr (.inl ⟨n,vi,k1,rfl,rfl,.inl rfl,(xCA htake k2).symm⟩)
 ·rcases v1 n vi h1 with hd|⟨k1,_⟩
  ·rw[hd] at h3;simp[zFA] at h3
  ·rcases v1 m vj h2 with hd|⟨k2,_⟩
   ·rw[hd] at h4;simp[zFA] at h4
   ·exact h.vv n m vi vj b k1 k2 h3 h4
 ·obtain⟨k1,k2⟩:=o1 o cs hc';exact⟨cs,k1,(qQB htake hgh k2).symm,zTC htake k2 (h.ob o cs k1).2.2⟩
 ·have:=List.all_eq_true.1 hc.1 l hl'
  simp only[baZ,dtZ] at this;obtain⟨⟨q1,q2⟩,q3⟩:=this;obtain⟨b,off,len,cap,k,i,k1,k2,k3,k4,k5⟩:=h.lp l (zFH q1);refine⟨b,off,len,cap,k,i,by rw[zJB htake hgh q3];exact k1,?_,k3,k4,k5⟩;have e1:(O.take B.lvl)[l.lvl]? = O[l.lvl]?:=by rw[List.getElem?_take];simp[q2]
  rw[<- hδ,e1,k2]
 ·obtain⟨k1,k2⟩:=yIE hs;obtain⟨t1,t2⟩:=he.tm s' sv k1;exact⟨by rw[t1,zJB htake hgh k2],zSC htake k2 t2⟩
end
end Go.Dx
namespace Go.Dx
open Go
section
variable {nm:Option Nat} {P:Program} {X:Nat->List D->D} {Pre:Nat->List D->Prop} {w0:Base} {J δ':List D} {st:St} {g g':Gh} {w:World} {a:Act}
theorem qXF{i:Nat}{b:Code}{lp:LoopP}(h:zKC (.block i b)=some lp):lp.bid=i:=by
 unfold zKC at h;split at h
 ·rename_i bid body heq;cases heq;split at h
  ·split at h
   ·split at h
    ·cases h;rfl
    ·cases h
   ·cases h
  ·cases h
 ·cases h
theorem zYF{lv:Nat}{d:DE}{is bs:List DE}(h:zCA X Pre (nmOb nm lv d is bs) J)(j:Nat):(pdOf nm lv d is bs j).eval X J=(DE.fold lv d is bs j).eval X J:=by
 cases nm with
 | none=>rfl
 | some n =>
  have h1:=h.1;simp only[Ob.holds] at h1;show ((X n (zDA X (yJG lv) J)).cells).getD j .nil=_;rw[h1];simp only[DE.eval];rfl
theorem zAH{B h0 h:St}{cars:List (Pl×Cr)}{d:DE}{lp:LoopP}{outs fin:List Out}(hend:qHB P nm B h0 h cars d lp outs=some fin):∀o∈fin,∀x∈B.obl,x∈o.st.obl:=by
 unfold qHB at hend;simp only at hend;split at hend
 rotate_left
 ·cases hend
 split at hend
 ·split at hend
  ·split at hend
   ·split at hend
    ·split at hend
     ·cases hend;intro o ho x hx;simp only[List.mem_singleton] at ho;subst ho
      exact List.mem_append_right _ (List.mem_cons_of_mem _ hx)
     ·cases hend
    ·cases hend
   ·cases hend
  ·cases hend
 ·split at hend
  ·split at hend
   ·split at hend
    ·split at hend
     ·split at hend
      ·rename_i W hW;cases hend;intro o ho x hx;have hobl:=hW;unfold zLL at hobl;rcases List.mem_cons.1 ho with rfl|ho
       ·exact List.mem_append_right _ (List.mem_cons_of_mem _ hx)
       ·simp only[List.mem_singleton] at ho;subst ho
        split at hobl
        ·split at hobl
         ·cases hobl;exact List.mem_append_right _ (List.mem_cons_of_mem _ hx)
         ·cases hobl
        ·cases hobl
      ·cases hend
     ·cases hend
    ·cases hend
   ·cases hend
  ·cases hend
 ·cases hend
theorem yYH(e:DE)(x y:Ex)(s t:St)(J:List D):∃o∈[(⟨[(e,false)],x,s⟩:Out),⟨[(e,true)],y,t⟩],PcOk X J o.pc:=by
 cases hb:(e.eval X J).asBool with
 | false=>exact⟨_,List.mem_cons_self,fun p hp=>by simp only[List.mem_singleton] at hp;subst hp;exact hb⟩
 | true=>exact⟨_,List.mem_cons_of_mem _ (List.mem_singleton.2 rfl),fun p hp=>by simp only[List.mem_singleton] at hp;subst hp;exact hb⟩
theorem yID{B h0 h:St}{cars:List (Pl×Cr)}{d:DE}{lp:LoopP}{outs fin:List Out}(hend:qHB P nm B h0 h cars d lp outs=some fin)(J:List D):∃o∈fin,PcOk X J o.pc:=by
 unfold qHB at hend;simp only at hend;split at hend
 rotate_left
 ·cases hend
 split at hend
 ·split at hend
  ·split at hend
   ·split at hend
    ·split at hend
     ·cases hend;exact⟨_,List.mem_cons_self,PcOk.nil⟩
     ·cases hend
    ·cases hend
   ·cases hend
  ·cases hend
 ·split at hend
  ·split at hend
   ·split at hend
    ·split at hend
     ·split at hend
      ·cases hend;exact yYH _ _ _ _ _ J
      ·cases hend
     ·cases hend
    ·cases hend
   ·cases hend
  ·cases hend
 ·cases hend
theorem zWC(e:DE)(J:List D):zDA X [e] J=[e.eval X J]:=rfl
theorem loopG0{ex:ExecF}(hex:ExOk P X Pre ex){i:Nat}{b:Code}{lp:LoopP}(hlp:zKC (.block i b)=some lp){B h0 h:St}{cars:List (Pl×Cr)}{d':DE}{outs fin:List Out}{tnS:SV}
  (hho:yGD B h0 cars tnS lp=true) (houts:ex [.block lp.inner lp.body] h=some outs) (hend:qHB P nm B h0 h cars d' lp outs=some fin)
  (hBv:∀n vi,lk n B.vars=some vi -> ∃vj,lk n h.vars=some vj) (hBo:∀o cs,lk o B.objs=some cs -> ∃c,lk o h.objs=some c) (hhnt:h.nt=h0.nt) (hhenv:∀s v,lk s h.env=some v->(s=lp.ti/\v = .i lp.kd (.v B.lvl))∨(s≠lp.ti/\lk s h0.env=some v))
  {rows:List D} (hrows:(d'.eval X J).rows=rows)
  (hnum:∀(O:List D) (gk:Gh) (w':World),O.take B.lvl=J->Mem P X w0 O h0 gk w'->tnS.ok X O -> ∃nn:Int,tnS.den X O gk = .int lp.kd nn/\rows.length=nn.toNat/\(rows.length:Int)<=lp.kd.max)
  (henter:∀(k:Nat) (acc:List D) (gk:Gh) (w':World),k<rows.length->Mem P X w0 (J++(.int k::rows.getD k .nil::acc)) h0 gk w' -> ∃gr,Enters P X w0 B h0 h lp.ti (J++(.int k::rows.getD k .nil::acc)) gk w' gr)
  (hm:Mem P X w0 J B g w) (he:∀s sv,lk s B.env=some sv->a.tmps[s]? = some (sv.den X J g)/\sv.ok X J) (hdf:a.defers=[]) (hsz:a.tmps.size=B.nt) (hti:a.tmps[lp.ti]? = some (.int lp.kd 0))
  (hob:∀o∈fin,PcOk X J o.pc->zCA X Pre o.st.obl J) (Q:Exit->Act->World->Prop)
  (hQ:∀o∈fin,PcOk X J o.pc -> ∀g' w' a',Ext B g o.st g'->Mem P X w0 J o.st g' w'->Env X J o.st g' a'->Q o.ex.toExit a' w'):(Code.block i b).wp P Q a w:=by
 have hbid:=qXF hlp;obtain⟨hobe,hnd,hco,hnti,hsls,htn',hlt1,hkv,hko⟩:=xGB hho;have hlv:=hm.lv;have hδt:J.take B.lvl=J:=List.take_of_length_le (by omega);have hend0:=hend;unfold qHB at hend;simp only at hend;split at hend
 rotate_left
 ·cases hend
 rename_i inits hfit0;split at hend
 ·skip
  rename_i hse;have hall:=xLD hse;split at hend
  rotate_left
  ·cases hend
  rename_i hl0;simp only[beq_iff_eq] at hl0;split at hend
  rotate_left
  ·cases hend
  rename_i s2 hg2;split at hend
  rotate_left
  ·cases hend
  rename_i hti2;split at hend
  rotate_left
  ·cases hend
  rename_i bodies hfit2;cases hend;have hob1:=zPA.1 (hob _ List.mem_cons_self PcOk.nil);have hpd:=zYF (nm:=nm) hob1.1;obtain⟨hobA,_⟩:=hob1.2;simp only[Ob.holds] at hobA;rw[hrows] at hobA;have hgs:=fun(O:List D) (o:Out) (ho:o∈outs) (hpc:PcOk X O o.pc) (hn:o.ex = .norm) (g0:Gh)=>qJA (P:=P) (X:=X) (Pre:=Pre) (w0:=w0) (g0:=g0) hg2 (o.pc,o.st) (xAC ho hn) hpc
  refine loopH (d':=d') hex hlp (itail:=[]) (tail:=[]) hho (by simpa using hl0) rfl houts hhnt hhenv hfit0 (zBF hti2) hfit2 (rows:=rows) _ rfl _ rfl _ rfl hnum
   (fun k gk w' hk hmk=>henter k _ gk w' hk hmk) (fun O o ho hpc hn g0=>(hgs O o ho hpc hn g0).2) (fun _=>True) trivial (fun _ _ _ _ _ _ _=>trivial)
   (fun k hk _ o ho hpc=>(hgs _ o ho hpc (hall o ho) g).1 (by
    have:=hobA k hk
    simpa only[List.append_nil] using this)) hm he hdf hsz hti Q (fun gk w' a' _ hkept hmk henv hdf' hsz'=>?_) (fun k hk _ o ho hpc hn=>absurd (hall o ho) hn)
  have hpost:=yDC (lv:=B.lvl) (cars:=cars) (B:=B) (T:={ env:=zEB (pdOf nm B.lvl d' inits bodies) cars h0.env,vars:=xLA (pdOf nm B.lvl d' inits bodies) cars 0 h0.vars,objs:=zMB (pdOf nm B.lvl d' inits bodies) cars h0.objs,loops:=h0.loops,obl:=nmOb nm B.lvl d' inits bodies ++ .all d' inits bodies s2.obl::B.obl,lvl:=B.lvl,nx:=s2.nx,nt:=h0.nt })
   (pd:=pdOf nm B.lvl d' inits bodies) hmk (a:=a') henv hlv hfit0 hnd hco (fun j=>by
    rw[hpd];simp only[DE.eval,List.append_nil];rw[hδt,hrows,List.take_length]) rfl
  refine hQ _ List.mem_cons_self PcOk.nil gk w' a' ⟨fun n vi hn=>?_,fun o cs hc=>?_⟩ hpost.1 ⟨hpost.2,hdf',hsz'⟩
  ·obtain⟨⟨vj,hj⟩,_⟩:=zXA hkv hn;exact⟨qAA hj,hkept.rv n vi hn⟩
  ·obtain⟨⟨cj,hj⟩,_⟩:=zXA hko hc;exact⟨⟨_,by simp only;rw[yDB,hj];rfl⟩,hkept.rb o cs hc⟩
 ·skip
  rename_i x hse;have hstopx:=fun o ho hn=>xMD hse o ho hn
  split at hend
  rotate_left
  ·cases hend
  rename_i hl0;simp only[beq_iff_eq] at hl0;split at hend
  rotate_left
  ·cases hend
  rename_i s2 s3 stop hg2 hg3 htree;split at hend
  rotate_left
  ·cases hend
  rename_i hti2;split at hend
  rotate_left
  ·cases hend
  rename_i bodies hfit2;split at hend
  rotate_left
  ·cases hend
  rename_i W hW;cases hend;generalize hbs:bodies++[.f .ite [.v (B.lvl+2+cars.length),.k (.bool true),stop]]=bodies' at *;generalize his:inits++[.k (.bool false)]=inits' at *;generalize hobl':nmOb nm B.lvl d' inits' bodies'++Ob.all d' inits' bodies' [.when (.v (B.lvl+2+cars.length)) false (qPA stop s3.obl s2.obl)]::B.obl=obl' at *
  let step:Nat->D->List D->List D:=fun i r acc=>zDA X bodies' (J++(.int i::r::acc))
  let acc:Nat->List D:=fun k=>zQA step 0 (rows.take k) (zDA X inits' J)
  let dk:Nat->D->List D:=fun k y=>J++(.int k::y::acc k)
  have hfe:∀j,(DE.fold B.lvl d' inits' bodies' j).eval X J=(acc rows.length).getD j .nil:=fun j=>by
   simp only[DE.eval];rw[hδt,hrows];show _=(zQA step 0 (rows.take rows.length) (zDA X inits' J)).getD j .nil;rw[List.take_length]
  let flag:Nat->Bool:=fun k=>((acc k).getD cars.length .nil).asBool
  have hilen:inits.length=cars.length:=(zLB hm (by omega) hfit0 hnd hco [D.nil] (by simpa using hl0) he .nil .nil).2.2.2;have hflag0:flag 0=false:=by
   show ((zQA step 0 (rows.take 0) (zDA X inits' J)).getD cars.length .nil).asBool=false;rw[<- his,qWA];simp only[List.take_zero,zQA];rw[List.getD_eq_getElem?_getD,List.getElem?_append_right (by rw[yAA];omega),yAA,hilen];simp[zDA,DE.eval,D.asBool]
  have hbl:bodies.length=cars.length:=by
   unfold fits at hfit2;split at hfit2
   ·rename_i ds hds;split at hfit2
    ·cases hfit2
     have:=(xZC hds).1
     simp[this]
    ·cases hfit2
   ·cases hfit2
  have hdkv:∀k y,(DE.v (B.lvl+2+cars.length)).eval X (dk k y)=(acc k).getD cars.length .nil:=fun k y=>by
   simp only[DE.eval]
   have:=zND (J:=J) (lv:=B.lvl) (by omega) (.int k) y (acc k) cars.length
   rw[hδt] at this;exact this
  have haccS:∀k,k<rows.length->acc (k+1)=zDA X bodies' (dk k (rows.getD k .nil)):=fun k hk=>by
   show zQA step 0 (rows.take (k+1)) _=_;have e1:rows.take (k+1)=rows.take k++[rows.getD k .nil]:=by
    rw[List.take_add_one]
    congr 1
    simp[List.getD,hk]
   rw[e1,xRA];simp only[Nat.zero_add,List.length_take,Nat.min_eq_left (Nat.le_of_lt hk)];rfl
  have hflagS:∀k,k<rows.length->flag (k+1)=(flag k || (stop.eval X (dk k (rows.getD k .nil))).asBool):=fun k hk=>by
   show ((acc (k+1)).getD cars.length .nil).asBool=_;rw[haccS k hk,<- hbs,qWA];rw[List.getD_eq_getElem?_getD,List.getElem?_append_right (by rw[yAA];omega),yAA,hbl];simp only[Nat.sub_self,zWC,List.getElem?_cons_zero,Option.getD_some];show (if ((DE.v (B.lvl+2+cars.length)).eval X (dk k (rows.getD k .nil))).asBool=true then D.bool true else stop.eval X (dk k (rows.getD k .nil))).asBool=_;rw[hdkv];show (if flag k=true then D.bool true else stop.eval X (dk k (rows.getD k .nil))).asBool=_;cases hf:flag k <;> simp[D.asBool]
  have hsticky:∀k,k<=rows.length->flag k=true->flag rows.length=true:=fun k hk hf=>by
   have:∀j,k+j<=rows.length->flag (k+j)=true:=by
    intro j
    induction j with
    | zero=>intro _;exact hf
    | succ j ih =>
     intro hj;rw[<- Nat.add_assoc,hflagS (k+j) (by omega),ih (by omega)];rfl
   have:=this (rows.length-k) (by omega)
   rwa [show k+(rows.length-k)=rows.length by omega] at this
  have htree':=fun(O:List D) (o:Out) (ho:o∈outs) (hpc:PcOk X O o.pc)=>xKB (X:=X) (J:=O) htree (o.pc,!zSB o.ex) (List.mem_map.2 ⟨o,ho,rfl⟩) hpc
  obtain⟨fo,hfo,hfpc⟩:=yID (X:=X) hend0 J;have hWo:W.obl=obl':=by
   have hobl:=hW;unfold zLL at hobl;split at hobl
   ·split at hobl
    ·cases hobl;rfl
    ·cases hobl
   ·cases hobl
  have hobl:zCA X Pre obl' J:=by
   have h1:=hob fo (by
    unfold qHB at hend0;simp only[hfit0,hse,hg2,hg3,htree,hti2,hfit2,hl0,beq_self_eq_true,if_true,his,hbs,hobl',hW] at hend0;cases hend0;exact hfo) hfpc
   unfold qHB at hend0;simp only[hfit0,hse,hg2,hg3,htree,hti2,hfit2,hl0,beq_self_eq_true,if_true,his,hbs,hobl',hW] at hend0;cases hend0;rcases List.mem_cons.1 hfo with rfl|hfo
   ·exact h1
   ·simp only[List.mem_singleton] at hfo;subst hfo
    rw[hWo] at h1;exact h1
  have hpd:=zYF (nm:=nm) (zPA.1 (hobl'▸hobl)).1;have hobA:∀k,k<rows.length->flag k=false->zCA X Pre (qPA stop s3.obl s2.obl) (dk k (rows.getD k .nil)):=fun k hk hf=>by
   rw[<- hobl'] at hobl;have h1:=(zPA.1 hobl).2.1;simp only[Ob.holds] at h1;rw[hrows] at h1;have h2:=(h1 k hk).1;simp only[Ob.holds] at h2;refine h2 ?_;rw[hdkv k (rows.getD k .nil)];exact hf
  have hgs:=fun(O:List D) (o:Out) (ho:o∈outs) (hpc:PcOk X O o.pc) (hn:o.ex = .norm) (g0:Gh)=>qJA (P:=P) (X:=X) (Pre:=Pre) (w0:=w0) (g0:=g0) hg2 (o.pc,o.st) (xAC ho hn) hpc
  have hgs3:=fun(O:List D) (o:Out) (ho:o∈outs) (hpc:PcOk X O o.pc) (hn:o.ex ≠ .norm) (g0:Gh)=>qJA (P:=P) (X:=X) (Pre:=Pre) (w0:=w0) (g0:=g0) hg3 (o.pc,o.st) (xND ho hn) hpc
  have hstopN:∀O o,o∈outs->PcOk X O o.pc->o.ex = .norm->(stop.eval X O).asBool=false:=fun O o ho hpc hn=>by
   rw[htree' O o ho hpc];simp[hn,zSB]
  have hstopS:∀O o,o∈outs->PcOk X O o.pc->o.ex ≠ .norm->(stop.eval X O).asBool=true:=fun O o ho hpc hn=>by
   rw[htree' O o ho hpc];cases hx:zSB o.ex with
   | true=>exact absurd (qKA.1 hx) hn
   | false=>rfl
  refine loopH (d':=d') hex hlp (itail:=[.k (.bool false)]) (tail:=[.f .ite [.v (B.lvl+2+cars.length),.k (.bool true),stop]]) hho (by simpa using hl0) rfl houts hhnt hhenv hfit0 (zBF hti2) hfit2 (rows:=rows) step (by rw[hbs]) acc (by rw[his]) dk rfl hnum
   (fun k gk w' hk hmk=>henter k _ gk w' hk hmk) (fun O o ho hpc hn g0=>(hgs O o ho hpc hn g0).2) (fun k=>flag k=false) hflag0
   (fun k hk hf o ho hpc hn=>by rw[hflagS k hk,hf,hstopN _ o ho hpc hn];rfl)
   (fun k hk hf o ho hpc=>by
    have hmo:=xZA (hobA k hk hf);by_cases hn:o.ex = .norm
    ·exact(hgs _ o ho hpc hn g).1 (hmo.2 (hstopN _ o ho hpc hn))
    ·exact(hgs3 _ o ho hpc hn g).1 (hmo.1 (hstopS _ o ho hpc hn))) hm he hdf hsz hti Q (fun gk w' a' hf hkept hmk henv hdf' hsz'=>?_) (fun k hk hf o ho hpc hn g0 g1 w' a' hkept hx1 hm1 he1=>?_)
  ·have hpost:=yDC (lv:=B.lvl) (cars:=cars) (B:=B) (T:={ env:=zEB (pdOf nm B.lvl d' inits' bodies') cars h0.env,vars:=xLA (pdOf nm B.lvl d' inits' bodies') cars 0 h0.vars,objs:=zMB (pdOf nm B.lvl d' inits' bodies') cars h0.objs,loops:=h0.loops,obl:=obl',lvl:=B.lvl,nx:=s2.nx,nt:=h0.nt })
    (pd:=pdOf nm B.lvl d' inits' bodies') hmk (a:=a') henv hlv hfit0 hnd hco (fun j=>(hpd j).trans (hfe j)) rfl
   refine hQ _ (List.mem_cons_self) (fun p hp=>by
    simp only[List.mem_singleton] at hp;subst hp
    show ((pdOf nm B.lvl d' inits' bodies' cars.length).eval X J).asBool=false;rw[hpd,hfe];exact hf) gk w' a' ⟨fun n vi hn=>?_,fun o cs hc=>?_⟩ hpost.1 ⟨hpost.2,hdf',hsz'⟩
   ·obtain⟨⟨vj,hj⟩,_⟩:=zXA hkv hn;exact⟨qAA hj,hkept.rv n vi hn⟩
   ·obtain⟨⟨cj,hj⟩,_⟩:=zXA hko hc;exact⟨⟨_,by simp only;rw[yDB,hj];rfl⟩,hkept.rb o cs hc⟩
  ·obtain⟨g2,q2,q3,q1⟩:=(hgs3 _ o ho hpc hn g0).2 g1 w' a' hm1 he1 hx1;have hk2:Kept B g g2:=⟨fun n vi hn=>by
    obtain⟨vj,hj⟩:=hBv n vi hn;obtain⟨_,e1,e2⟩:=hx1.rv n vj hj;obtain⟨_,e3,e4⟩:=q1.rv n vj hj;obtain⟨k1,k2⟩:=hkept.rv n vi hn;exact⟨by rw[e3,<- e1,k1],by rw[e4,<- e2,k2]⟩,fun o cs ho=>by
    obtain⟨cj,hj⟩:=hBo o cs ho;obtain⟨_,e1⟩:=hx1.rb o cj hj;obtain⟨_,e3⟩:=q1.rb o cj hj;rw[e3,<- e1];exact hkept.rb o cs ho⟩
   obtain⟨p1,p2,p3,_⟩:=zZI hW q2 q3 (J:=J) (by
    show (J++_).take _=_;rw[List.take_append_of_le_length (by omega),hδt]) hlv hk2
   have hfk:flag rows.length=true:=hsticky (k+1) hk (by rw[hflagS k hk,hstopS _ o ho hpc hn];simp);have hfin:=hQ ⟨[(pdOf nm B.lvl d' inits' bodies' cars.length,true)],zSF lp.bid x,W⟩ (List.mem_cons_of_mem _ (List.mem_singleton.2 rfl)) (fun p hp=>by
    simp only[List.mem_singleton] at hp;subst hp
    show ((pdOf nm B.lvl d' inits' bodies' cars.length).eval X J).asBool=true;rw[hpd,hfe];exact hfk) g2 w' a' p3 p1 p2
   rw[hstopx o ho hn,<- hbid];exact hfin
 ·cases hend
end
end Go.Dx
namespace Go.Dx
open Go
section
variable {nm:Option Nat} {P:Program} {X:Nat->List D->D} {Pre:Nat->List D->Prop} {w0:Base} {J δ':List D} {st:St} {g g':Gh} {w:World} {a:Act}
theorem loopHG{ex:ExecF}(hex:ExOk P X Pre ex){i:Nat}{b:Code}{lp:LoopP}(hlp:zKC (.block i b)=some lp){B h0 h s2:St}{cars:List (Pl×Cr)}{d':DE}{outs:List Out}{tnS:SV}
  {inits bodies:List DE} {n:Nat} (hho:yGD B h0 cars tnS lp=true) (hl0:h0.lvl=B.lvl+2+cars.length+n)
  (houts:ex [.block lp.inner lp.body] h=some outs) (hhnt:h.nt=h0.nt) (hhenv:∀s v,lk s h.env=some v->(s=lp.ti/\v = .i lp.kd (.v B.lvl))∨(s≠lp.ti/\lk s h0.env=some v))
  (hfit0:fits P B.lvl cars B h0=some inits) (hti2:lk lp.ti s2.env=some (.i lp.kd (.v B.lvl))) (hfit2:fits P B.lvl cars s2 h0=some bodies)
  {rows:List D} (acc:Nat->List D) (hacc0:∃tl:List D,tl.length=n/\acc 0=zDA X inits J++tl)
  (dk:Nat->D->List D) (hdk:dk=fun k y=>J++(.int k::y::acc k))
  (hnum:∀(O:List D) (gk:Gh) (w':World),O.take B.lvl=J->Mem P X w0 O h0 gk w'->tnS.ok X O -> ∃nn:Int,tnS.den X O gk = .int lp.kd nn/\rows.length=nn.toNat/\(rows.length:Int)<=lp.kd.max)
  (henter:∀(k:Nat) (gk:Gh) (w':World),k<rows.length->Mem P X w0 (dk k (rows.getD k .nil)) h0 gk w' -> ∃gr,Enters P X w0 B h0 h lp.ti (dk k (rows.getD k .nil)) gk w' gr)
  (hN:∀(O:List D) (o:Out),o∈outs->PcOk X O o.pc->o.ex = .norm -> ∀(g0 g:Gh) (w:World) (a:Act),Mem P X w0 O o.st g w->Env X O o.st g a->Ext h g0 o.st g -> ∃g',Mem P X w0 O s2 g' w/\Env X O s2 g' a/\Ext h g0 s2 g')
  (Live:Nat->Prop) (hL0:Live 0) (hLs:∀k,k<rows.length->Live k -> ∀o∈outs,PcOk X (dk k (rows.getD k .nil)) o.pc->o.ex = .norm->Live (k+1))
  (haccS:∀k,k<rows.length->Live k -> ∀o∈outs,PcOk X (dk k (rows.getD k .nil)) o.pc->o.ex = .norm -> ∃tl:List D,tl.length=n/\acc (k+1)=zDA X bodies (dk k (rows.getD k .nil))++tl)
  (hLob:∀k,k<rows.length->Live k -> ∀o∈outs,PcOk X (dk k (rows.getD k .nil)) o.pc->zCA X Pre o.st.obl (dk k (rows.getD k .nil)))
  (hm:Mem P X w0 J B g w) (he:∀s sv,lk s B.env=some sv->a.tmps[s]? = some (sv.den X J g)/\sv.ok X J) (hdf:a.defers=[]) (hsz:a.tmps.size=B.nt) (hti:a.tmps[lp.ti]? = some (.int lp.kd 0)) (Q:Exit->Act->World->Prop)
  (hend:∀(gk:Gh) (w':World) (a':Act),Live rows.length->Kept B g gk->Mem P X w0 (dk rows.length .nil) h0 gk w'->(∀s v,lk s h0.env=some v->a'.tmps[s]? = some (v.den X (dk rows.length .nil) gk)/\v.ok X (dk rows.length .nil))->a'.defers=[]->a'.tmps.size=h0.nt->Q .normal a' w')
  (hstop:∀(k:Nat),k<rows.length->Live k -> ∀o∈outs,PcOk X (dk k (rows.getD k .nil)) o.pc->o.ex ≠ .norm -> ∀(g0 g':Gh) (w':World) (a':Act),Kept B g g'->Ext h g0 o.st g'->Mem P X w0 (dk k (rows.getD k .nil)) o.st g' w'->Env X (dk k (rows.getD k .nil)) o.st g' a'->Q (zSF i o.ex).toExit a' w') :
  (Code.block i b).wp P Q a w:=by
 obtain⟨body,hid,hops,aid,aops,sh,st,rfl,hfl,hh,ha,hsl,ntn,nkd⟩:=zSE hlp;obtain⟨hd1,hd2,hd3,hdwp⟩:=zTK (P:=P) hh;obtain⟨tl1,tlwp⟩:=qXK (P:=P) ha nkd;obtain⟨hobe,hnd,hco,hnti,hsls,htn',hlt1,hkv,hko⟩:=xGB hho;have hshe:∀s∈sh,lk s h0.env=none/\s<h0.nt:=fun s hs=>hsls s (by rw[hsl];exact List.mem_append_left _ hs)
 have hste:∀s∈st,lk s h0.env=none/\s<h0.nt:=fun s hs=>hsls s (by rw[hsl];exact List.mem_append_right _ hs)
 have hlv:=hm.lv;have hδt:J.take B.lvl=J:=List.take_of_length_le (by omega);have htk:∀k y,(dk k y).take B.lvl=J:=fun k y=>by
  rw[hdk];show (J++_).take _=_;rw[List.take_append_of_le_length (by omega),hδt]
 obtain⟨tl0,htl0,hacc0⟩:=hacc0
 let Inv:Nat->Act->World->Prop:=fun k a w=>k<=rows.length/\Live k/\a.tmps[lp.ti]? = some (.int lp.kd (k:Nat))/\a.defers=[]/\a.tmps.size=h0.nt /\
  ∃gk:Gh,(∀y,Mem P X w0 (dk k y) h0 gk w /\ ∀s v,lk s h0.env=some v->a.tmps[s]? = some (v.den X (dk k y) gk)/\v.ok X (dk k y))/\Kept B g gk
 have hbase:Inv 0 a w:=by
  refine⟨Nat.zero_le _,hL0,hti,hdf,by rw[hsz];exact qGC hfit0,g.carry X J B cars,fun y=>?_,⟨fun n vi hn=>?_,fun o cs _=>rfl⟩⟩
  ·obtain⟨k1,k2,k3,_⟩:=zLB hm (by omega) hfit0 hnd hco tl0 (by rw[htl0];exact hl0) he (.int (0:Nat)) y;rw[hδt,<- hacc0] at k1 k2;rw[hdk];exact⟨k1,k2⟩
  ·have:=(zXA hkv hn).2
   simp[Gh.carry,xWA this]
 refine wp_block (wp_loop (I:=fun a w=>∃k,Inv k a w) (μ:=fun a _=>rows.length-(match a.tmps[lp.ti]? with|some (.int _ x)=>x.toNat|_=>0)) ⟨0,hbase⟩ (fun a w hI=>?_));obtain⟨k,hkn,hkL,hkti,hkdf,hksz,gk,hgk,hgkept⟩:=hI;obtain⟨nn,hnn,hrl,hlen⟩:=hnum _ gk w (htk k .nil) (hgk .nil).1 ((hgk .nil).2 lp.tn _ htn').2;have htnv:a.tmps[lp.tn]? = some (.int lp.kd nn):=by
  rw[((hgk .nil).2 lp.tn _ htn').1,hnn]
 have hmu:(match a.tmps[lp.ti]? with|some (.int _ x)=>x.toNat|_=>0)=k:=by rw[hkti];simp
 rw[hmu];generalize hQ':(Exit.then (fun a' w'=>(∃k,Inv k a' w')/\(rows.length-(match a'.tmps[lp.ti]? with|some (.int _ x)=>x.toNat|_=>0))<rows.length-k) (Exit.inBlock i Q))=Q';have hflat:wpC P Q' (qPG body++[]) a w->body.wp P Q' a w:=fun hh=>by
  have h2:=xOE body hh;have e2:Exit.then (wpC P Q' []) Q'=Q':=by funext e a w;cases e <;> rfl
  rw[e2] at h2;exact h2
 refine hflat ?_;rw[List.append_nil,hfl];refine hdwp rfl hkti htnv (fun s hs=>by rw[hksz];exact(hshe s hs).2) (fun b1 hb1c hb1o hb1df hb1sz=>?_);rw[hkdf] at hb1df;rw[hksz] at hb1sz;have hb1env:∀y s v,lk s h0.env=some v->b1.tmps[s]? = some (v.den X (dk k y) gk)/\v.ok X (dk k y):=fun y s v hs=>by
  have hne:s∉sh:=fun e=>by rw[(hshe s e).1] at hs;cases hs
  rw[hb1o s hne];exact(hgk y).2 s v hs
 show (Code.cond (.tmp lp.tc) .skip (.exit i)).wp P _ b1 w;refine wp_cond_split (zKB hb1c) (fun hlt=>?_) (fun hge=>?_)
 ·skip
  have hkl:k<rows.length:=by
   have:(k:Int)<nn:=by simpa using hlt
   omega
  refine wp_skip ?_;obtain⟨hmk,_⟩:=hgk (rows.getD k .nil);obtain⟨gr,hent⟩:=henter k gk w hkl hmk;have hobk:=hLob k hkl hkL;have hLk:=hLs k hkl hkL;have hstopk:=hstop k hkl hkL;have haccSk:=haccS k hkl hkL;generalize hδk:dk k (rows.getD k .nil)=δk at hent hobk hLk hstopk haccSk;have hδlv:δk[B.lvl]? = some (.int (k:Nat)):=by rw[<- hδk,hdk];show (J++_)[B.lvl]? = _;rw[List.getElem?_append_right (by omega)];simp[hlv]
  have hδlv0:(DE.v B.lvl).eval X δk = .int (k:Nat):=by simp[DE.eval,List.getD_eq_getElem?_getD,hδlv]
  have hEh:Env X δk h gr b1:=by
   refine⟨fun s sv hs=>?_,hb1df,by rw[hhnt];exact hb1sz⟩;rcases hhenv s sv hs with⟨rfl,rfl⟩|⟨hst,hs⟩
   ·rw[hb1o _ hd2,hkti];exact⟨by simp[SV.den,hδlv0,D.asInt],⟨_,hδlv0,(yAK nkd (by omega)).1⟩⟩
   ·rw[hent.den s sv hs,<- hδk];exact hb1env (rows.getD k .nil) s sv hs
  have hkeptX:∀(s':St) (g2:Gh),Ext h gr s' g2->Kept B g g2:=fun s' g2 q1=>⟨fun n vi hn=>by
    obtain⟨⟨vj,hj⟩,e1,e2⟩:=hent.rv n vi hn;obtain⟨_,e3,e4⟩:=q1.rv n vj hj;obtain⟨k1,k2⟩:=hgkept.rv n vi hn;exact⟨by rw[e3,e1,k1],by rw[e4,e2,k2]⟩,fun o cs hc=>by
    obtain⟨⟨cj,hj⟩,e1⟩:=hent.rb o cs hc;obtain⟨_,e2⟩:=q1.rb o cj hj;rw[e2,e1];exact hgkept.rb o cs hc⟩
  show (Code.block lp.inner lp.body).wp P (Exit.then (wpC P Q' [.region aid aops false]) Q') b1 w;refine zTA (hex.sound w0 δk [.block lp.inner lp.body] h _ gr w b1 hent.mem hEh houts (fun o ho hpc=>hobk o ho hpc) _ (fun o ho hpc g1 w2 c2 q1' q2' q3'=>?_));by_cases hno:o.ex = .norm
  ·rw[hno];obtain⟨g2,q2,q3,q1⟩:=hN δk o ho hpc hno gr g1 w2 c2 q2' q3' q1';have hL1:=hLk o ho hpc hno;show (Code.region aid aops false).wp P (Exit.then (wpC P Q' []) Q') c2 w2;have hcti:c2.tmps[lp.ti]? = some (.int lp.kd ((k:Nat):Int)):=by
    have:=(q3.tm lp.ti _ hti2).1
    rw[this];simp[SV.den,hδlv0,D.asInt]
   have hcsz:c2.tmps.size=h0.nt:=by rw[q3.sz];exact qGC hfit2
   have hmaxk:((k+1:Nat):Int)<=lp.kd.max:=by omega
   refine tlwp rfl hcti hmaxk (fun s hs=>by rw[hcsz];exact(hste s hs).2) (by rw[hcsz];exact hlt1) (fun b3 hb3ti hb3o hb3df hb3sz=>?_);have hδkl:δk.take B.lvl=J:=by rw[<- hδk];exact htk _ _
   have hδkle:B.lvl<=δk.length:=by rw[<- hδk,hdk];show _<=(J++_).length;rw[List.length_append];omega
   obtain⟨tl,htl,haccs⟩:=haccSk o ho hpc hno;have hnext:Inv (k+1) b3 w2:=by
    refine⟨hkl,hL1,hb3ti,by rw[hb3df];exact q3.df,by rw[hb3sz];exact hcsz,g2.carry X δk s2 cars,fun y=>?_,⟨fun n vi hn=>?_,fun o cs hc=>?_⟩⟩
    ·obtain⟨k1,k2,k3,_⟩:=zLB q2 hδkle hfit2 hnd hco tl (by rw[htl];exact hl0) (a:=c2) q3.tm (.int ((k+1:Nat):Int)) y;rw[hδkl,<- haccs] at k1 k2;have e2:dk (k+1) y=J++(.int ((k+1:Nat):Int)::y::acc (k+1)):=by rw[hdk]
     rw[e2];refine⟨k1,fun s v hs=>?_⟩;have hs1:s≠lp.ti:=fun e=>by rw[e,hnti] at hs;cases hs
     have hs2:s∉st:=fun e=>by rw[(hste s e).1] at hs;cases hs
     rw[hb3o s hs1 hs2];exact k2 s v hs
    ·have hnm:=(zXA hkv hn).2;simp only[Gh.carry,xWA hnm];exact(hkeptX s2 g2 q1).rv n vi hn
    ·exact(hkeptX s2 g2 q1).rb o cs hc
   show Q' .normal b3 w2;rw[<- hQ'];refine⟨⟨k+1,hnext⟩,?_⟩;rw[hb3ti];simp only[Int.toNat_natCast];omega
  ·refine yHC hno ?_;have hq:=hstopk o ho hpc hno gr g1 w2 c2 (hkeptX o.st g1 q1') q1' q2' q3';rw[<- hQ'];refine yHC hno ?_;cases hx:o.ex with
   | norm=>exact absurd hx hno
   | ret=>rw[hx] at hq;exact hq
   | goto l=>rw[hx] at hq;exact hq
   | exit j =>
    rw[hx] at hq;simp only[Ex.toExit,Exit.inBlock];by_cases hji:j=i
    ·subst hji;simpa[zSF,Ex.toExit] using hq
    ·have:¬(Ex.exit j=Ex.exit i):=fun e=>by cases e;exact hji rfl
     simp only[zSF,this,if_false,Ex.toExit] at hq;simp only[hji,if_false];exact hq
 ·skip
  have hkl:k=rows.length:=by
   have:¬((k:Int)<nn):=by simpa using hge
   omega
  subst hkl;refine wp_exit ?_;show Q' (.exit i) b1 w;rw[<- hQ'];show Exit.inBlock i Q (.exit i) b1 w;simp only[Exit.inBlock,if_true];exact hend gk w b1 hkL hgkept (hgk .nil).1 (hb1env .nil) hb1df hb1sz
theorem zNE{D:DE}:∀ {es:List (Nat×Nat×DE)} {i:Nat} {T T':St},qFD D i es T=some T'->T'.obl=T.obl
 | [],_,_,_,h=>by simp only[qFD,Option.some.injEq] at h;rw[h]
 | (k,m,d)::es,i,T,T',h=>by
  simp only[qFD] at h;split at h
  ·rename_i T1 hn;have e:=zNE h;rw[e];show T1.obl=T.obl;exact xGA hn
  ·cases h
theorem yRE{D:DE}:∀ {es:List (Nat×Nat×DE)} {i:Nat} {T T':St} {g:Gh},Mem P X w0 J T g w->Env X J T g a->qFD D i es T=some T' ->
  (∀(j k m:Nat) (d:DE),es[j]? = some (k,m,d) -> ∃v,a.tmps[k]? = some v/\qUA P (fun _=>True) w .gi v (0,0) ((DE.f (.get (i+j)) [D]).eval X J)) ->
  ∃g',Mem P X w0 J T' g' w/\Env X J T' g' a/\Ext T g T' g'
 | [],_,_,_,g,hm,he,h,_=>by
  simp only[qFD,Option.some.injEq] at h;subst h;exact⟨g,hm,he,Ext.refl ..⟩
 | (k,m,d)::es,i,T,T',g,hm,he,h,hes=>by
  simp only[qFD] at h;split at h
  ·rename_i T1 hn;obtain⟨v,hv1,hv2⟩:=hes 0 k m d rfl;rw[Nat.add_zero] at hv2;obtain⟨k1,k2,k3,k4,_⟩:=qOB hm he (Fr.refl (fun _=>False) w) (fun _ _ e=>e.elim) (Drops.same T g) hn (v:=v) (fun b hb=>by simp[zFA] at hb) (fun ok' _ _=>hv2);have hm2:Mem P X w0 J { T1 with env:=upd k (.x T.nx) T1.env,nx:=T.nx+1 } (g.setV T.nx v (0,0)) w:=k1.same rfl rfl rfl rfl;have he2:Env X J { T1 with env:=upd k (.x T.nx) T1.env,nx:=T.nx+1 } (g.setV T.nx v (0,0)) a:=⟨fun s sv hs=>by
    by_cases hk:k=s
    ·subst hk;simp only[zZA,Option.some.injEq] at hs;subst hs;exact⟨by rw[k4];exact hv1,trivial⟩
    ·simp only[yJA hk] at hs;exact k2.tm s sv hs,k2.df,k2.sz⟩
   obtain⟨g',q1,q2,q3⟩:=yRE hm2 he2 h (fun j k' m' d' hj=>by
    have:=hes (j+1) k' m' d' hj
    rwa [show i+(j+1)=i+1+j by omega] at this)
   refine⟨g',q1,q2,?_⟩;have k3':Ext T g { T1 with env:=upd k (.x T.nx) T1.env,nx:=T.nx+1 } (g.setV T.nx v (0,0)):=⟨k3.rv,k3.rb⟩;exact k3'.trans q3
  ·cases h
theorem qIC{s:St}:∀ {l:List (Nat×SV)} {j k m:Nat} {d:DE},(giOf s l)[j]? = some (k,m,d)->lk k s.env=some (.x m)/\lk m s.vars=some ⟨.gi,d⟩
 | [],_,_,_,_,h=>by simp[giOf] at h
 | (k0,v)::l,j,k,m,d,h=>by
  unfold giOf at h;split at h
  ·simp at h
  ·rename_i heq;cases heq;split at h
   ·rename_i d' hl;split at h
    ·rename_i hs;cases j with
     | zero=>simp only[List.getElem?_cons_zero,Option.some.injEq,Prod.mk.injEq] at h;obtain⟨rfl,rfl,rfl⟩:=h;exact⟨zBF hs,hl⟩
     | succ j =>
      simp only[List.getElem?_cons_succ] at h;exact qIC h
    ·exact qIC h
   ·exact qIC h
  ·rename_i heq;cases heq;exact qIC h
theorem xDI{F stop:DE}{lv:Nat}{O:List D}:∀ {es bs:List DE} {j:Nat},es.length=bs.length ->
  zDA X (frz F stop lv j es bs) O=if (F.eval X O).asBool then (if (stop.eval X O).asBool then zDA X es O else zDA X bs O) else (List.range es.length).map fun i=>O.getD (lv+2+(j+i)) .nil
 | [],[],j,_=>by simp[frz,zDA]
 | e::es,b::bs,j,h=>by
  have ih:=xDI (F:=F) (stop:=stop) (lv:=lv) (O:=O) (es:=es) (bs:=bs) (j:=j+1) (by simpa using h);simp only[frz,zDA];rw[ih];have e1:(DE.f .ite [F,.f .ite [stop,e,b],.v (lv+2+j)]).eval X O=if (F.eval X O).asBool then (if (stop.eval X O).asBool then e.eval X O else b.eval X O) else O.getD (lv+2+j) .nil:=by
   simp[DE.eval,zDA,Fn.eval]
  rw[e1];cases (F.eval X O).asBool <;> cases (stop.eval X O).asBool <;> simp[List.range_succ_eq_map,Function.comp_def,Nat.add_assoc,Nat.add_comm 1]
 | [],_::_,_,h=>by simp at h
 | _::_,[],_,h=>by simp at h
theorem qLC{B h0 h:St}{cars:List (Pl×Cr)}{d:DE}{lp:LoopP}{outs fin:List Out}(hend:zPD P nm B h0 h cars d lp outs=some fin) :
  ∃inits x s2 s3 stop bodies ends zs T',fits P B.lvl cars B h0=some inits/\yZE outs=some (some x)/\h0.lvl=B.lvl+2+cars.length+1/\gath P h 12 (yZC outs)=some s2/\gath P h 12 (yFE outs)=some s3 /\
   yVH 20 (outs.map fun o=>(o.pc,!zSB o.ex))=some stop/\isSV (lk lp.ti s2.env) (.i lp.kd (.v B.lvl))=true/\fits P B.lvl cars s2 h0=some bodies /\
   fits P B.lvl cars s3 { h0 with env:=qEA ((giOf s3 s3.env).map (·.1)) h0.env }=some ends/\fits P B.lvl cars B { h0 with env:=qEA ((giOf s3 s3.env).map (·.1)) h0.env }=some zs /\
   ∃(V F:DE) (inits' bodies':List DE) (obl':List Ob) (T:St),V=DE.v (B.lvl+2+cars.length)/\F=DE.f .isNil [V]/\inits'=inits++[.k .nil] /\
    bodies'=frz F stop B.lvl 0 ends bodies++[.f .ite [F,.f .ite [stop,.f .mkrow ((giOf s3 s3.env).map (·.2.2)),.k .nil],V]] /\
    obl'=nmOb nm B.lvl d inits' bodies' ++ .all d inits' bodies' [.when F true (qPA stop s3.obl s2.obl)]::B.obl /\
    T = { env:=zEB (pdOf nm B.lvl d inits' bodies') cars h0.env,vars:=xLA (pdOf nm B.lvl d inits' bodies') cars 0 h0.vars,objs:=zMB (pdOf nm B.lvl d inits' bodies') cars h0.objs,loops:=h0.loops,obl:=obl',lvl:=B.lvl,nx:=max s2.nx s3.nx,nt:=h0.nt } /\
    qFD (pdOf nm B.lvl d inits' bodies' cars.length) 0 (giOf s3 s3.env) { T with env:=zEB (pdOf nm B.lvl d inits' bodies') cars (qEA ((giOf s3 s3.env).map (·.1)) h0.env) }=some T' /\
    fin=[⟨[(.f .isNil [pdOf nm B.lvl d inits' bodies' cars.length],false)],zSF lp.bid x,T'⟩,⟨[(.f .isNil [pdOf nm B.lvl d inits' bodies' cars.length],true)],.norm,T⟩]:=by
 unfold zPD at hend;simp only at hend;split at hend
 rotate_left
 ·cases hend
 rename_i inits hf0;split at hend
 rotate_left
 ·cases hend
 rename_i x hse;split at hend
 rotate_left
 ·cases hend
 rename_i hl0;split at hend
 rotate_left
 ·cases hend
 rename_i s2 s3 stop hg2 hg3 htree;split at hend
 rotate_left
 ·cases hend
 rename_i hti2;split at hend
 rotate_left
 ·cases hend
 rename_i bodies ends zs hf2 hf3 hfz;split at hend
 rotate_left
 ·cases hend
 rename_i T' hT';cases hend;exact⟨inits,x,s2,s3,stop,bodies,ends,zs,T',hf0,hse,by simpa using hl0,hg2,hg3,htree,hti2,hf2,hf3,hfz,_,_,_,_,_,_,rfl,rfl,rfl,rfl,rfl,rfl,hT',rfl⟩
theorem zBH{B h0 h:St}{cars:List (Pl×Cr)}{d:DE}{lp:LoopP}{outs fin:List Out}(hend:zPD P nm B h0 h cars d lp outs=some fin):∀o∈fin,∀x∈B.obl,x∈o.st.obl:=by
 obtain⟨inits,x,s2,s3,stop,bodies,ends,zs,T',_,_,_,_,_,_,_,_,_,_,V,F,inits',bodies',obl',T,_,_,_,_,ho,hT,hg,rfl⟩:=qLC hend;intro o hm y hy;have hy':y∈obl':=by rw[ho];exact List.mem_append_right _ (List.mem_cons_of_mem _ hy)
 rcases List.mem_cons.1 hm with rfl|hm
 ·have:=zNE hg
  simp only;rw[this,hT];exact hy'
 ·simp only[List.mem_singleton] at hm;subst hm
  simp only;rw[hT];exact hy'
theorem yJD{B h0 h:St}{cars:List (Pl×Cr)}{d:DE}{lp:LoopP}{outs fin:List Out}(hend:zPD P nm B h0 h cars d lp outs=some fin)(J:List D):∃o∈fin,PcOk X J o.pc:=by
 obtain⟨inits,x,s2,s3,stop,bodies,ends,zs,T',_,_,_,_,_,_,_,_,_,_,V,F,inits',bodies',obl',T,_,_,_,_,ho,hT,hg,rfl⟩:=qLC hend;exact yYH _ _ _ _ _ J
theorem zJF{B h0 h:St}{cars:List (Pl×Cr)}{d:DE}{lp:LoopP}{outs fin:List Out}(hend:yXC P nm B h0 h cars d lp outs=some fin):∀o∈fin,∀x∈B.obl,x∈o.st.obl:=by
 unfold yXC at hend;split at hend
 ·rename_i r hr;cases hend;exact zAH hr
 ·exact zBH hend
theorem qLD{B h0 h:St}{cars:List (Pl×Cr)}{d:DE}{lp:LoopP}{outs fin:List Out}(hend:yXC P nm B h0 h cars d lp outs=some fin)(J:List D):∃o∈fin,PcOk X J o.pc:=by
 unfold yXC at hend;split at hend
 ·rename_i r hr;cases hend;exact yID hr J
 ·exact yJD hend J
theorem zPK{ends bodies:List DE}{stop R:DE}{lv c:Nat}{O:List D}(hlen:ends.length=bodies.length)(hc:ends.length=c) :
  zDA X (frz (.f .isNil [.v (lv+2+c)]) stop lv 0 ends bodies++[.f .ite [.f .isNil [.v (lv+2+c)],.f .ite [stop,R,.k .nil],.v (lv+2+c)]]) O =
   if (O.getD (lv+2+c) .nil).isNil then (if (stop.eval X O).asBool then zDA X ends O++[R.eval X O] else zDA X bodies O++[.nil])
   else ((List.range c).map fun i=>O.getD (lv+2+i) .nil)++[O.getD (lv+2+c) .nil]:=by
 have hF:((DE.f .isNil [.v (lv+2+c)]).eval X O).asBool=(O.getD (lv+2+c) .nil).isNil:=by simp[DE.eval,zDA,Fn.eval,D.asBool]
 have hI:(DE.f .ite [.f .isNil [.v (lv+2+c)],.f .ite [stop,R,.k .nil],.v (lv+2+c)]).eval X O=if (O.getD (lv+2+c) .nil).isNil then (if (stop.eval X O).asBool then R.eval X O else .nil) else O.getD (lv+2+c) .nil:=by
  show (if ((DE.f .isNil [.v (lv+2+c)]).eval X O).asBool=true then (DE.f .ite [stop,R,.k .nil]).eval X O else O.getD (lv+2+c) .nil)=_;rw[hF];rfl
 rw[qWA,xDI hlen,hF,zWC,hI,hc];cases (O.getD (lv+2+c) .nil).isNil <;> cases (stop.eval X O).asBool <;> simp
theorem yMG{lv:Nat}{cars:List (Pl×Cr)}{s h0:St}{ds:List DE}(h:fits P lv cars s h0=some ds):ds.length=cars.length:=by
 unfold fits at h;split at h
 ·rename_i dsp hds;split at h
  ·cases h
   have:=(xZC hds).1
   simp[this]
  ·cases h
 ·cases h
end
end Go.Dx
namespace Go.Dx
open Go
section
variable {nm:Option Nat} {P:Program} {X:Nat->List D->D} {Pre:Nat->List D->Prop} {w0:Base} {J δ':List D} {st:St} {g g':Gh} {w:World} {a:Act}
theorem yMC{lv:Nat}{h h':St}(hv:h'.vars=h.vars):∀ {cars:List (Pl×Cr)} {j:Nat},yRB lv h' cars j=yRB lv h cars j
 | [],_=>rfl
 | (p,.var m vt)::r,j=>by simp only[yRB];rw[hv,yMC hv (cars:=r)]
 | (p,.int k)::r,j=>by simp only[yRB];exact yMC hv (cars:=r)
 | (p,.bool)::r,j=>by simp only[yRB];exact yMC hv (cars:=r)
theorem loopGZ{ex:ExecF}(hex:ExOk P X Pre ex){i:Nat}{b:Code}{lp:LoopP}(hlp:zKC (.block i b)=some lp){B h0 h:St}{cars:List (Pl×Cr)}{d':DE}{outs fin:List Out}{tnS:SV}
  (hho:yGD B h0 cars tnS lp=true) (houts:ex [.block lp.inner lp.body] h=some outs) (hend:zPD P nm B h0 h cars d' lp outs=some fin)
  (hBv:∀n vi,lk n B.vars=some vi -> ∃vj,lk n h.vars=some vj) (hBo:∀o cs,lk o B.objs=some cs -> ∃c,lk o h.objs=some c) (hhnt:h.nt=h0.nt) (hhenv:∀s v,lk s h.env=some v->(s=lp.ti/\v = .i lp.kd (.v B.lvl))∨(s≠lp.ti/\lk s h0.env=some v))
  {rows:List D} (hrows:(d'.eval X J).rows=rows)
  (hnum:∀(O:List D) (gk:Gh) (w':World),O.take B.lvl=J->Mem P X w0 O h0 gk w'->tnS.ok X O -> ∃nn:Int,tnS.den X O gk = .int lp.kd nn/\rows.length=nn.toNat/\(rows.length:Int)<=lp.kd.max)
  (henter:∀(k:Nat) (acc:List D) (gk:Gh) (w':World),k<rows.length->Mem P X w0 (J++(.int k::rows.getD k .nil::acc)) h0 gk w' -> ∃gr,Enters P X w0 B h0 h lp.ti (J++(.int k::rows.getD k .nil::acc)) gk w' gr)
  (hm:Mem P X w0 J B g w) (he:∀s sv,lk s B.env=some sv->a.tmps[s]? = some (sv.den X J g)/\sv.ok X J) (hdf:a.defers=[]) (hsz:a.tmps.size=B.nt) (hti:a.tmps[lp.ti]? = some (.int lp.kd 0))
  (hob:∀o∈fin,PcOk X J o.pc->zCA X Pre o.st.obl J) (Q:Exit->Act->World->Prop)
  (hQ:∀o∈fin,PcOk X J o.pc -> ∀g' w' a',Ext B g o.st g'->Mem P X w0 J o.st g' w'->Env X J o.st g' a'->Q o.ex.toExit a' w'):(Code.block i b).wp P Q a w:=by
 have hbid:=qXF hlp;obtain⟨hobe,hnd,hco,hnti,hsls,htn',hlt1,hkv,hko⟩:=xGB hho;have hlv:=hm.lv;have hδt:J.take B.lvl=J:=List.take_of_length_le (by omega);obtain⟨inits,x,s2,s3,stop,bodies,ends,zs,T',hfit0,hse,hl0,hg2,hg3,htree,hti2,hfit2,hfit3,hfitz,V,F,inits',bodies',obl',T,hV,hF,his,hbs,hobl',hT,hgp,hfin⟩:=qLC hend;have hstopx:=fun o ho hn=>xMD hse o ho hn
 have hilen:=yMG hfit0;have hblen:=yMG hfit2;have helen:=yMG hfit3
 let step:Nat->D->List D->List D:=fun i r acc=>zDA X bodies' (J++(.int i::r::acc))
 let acc:Nat->List D:=fun k=>zQA step 0 (rows.take k) (zDA X inits' J)
 let dk:Nat->D->List D:=fun k y=>J++(.int k::y::acc k)
 have hfe:∀j,(DE.fold B.lvl d' inits' bodies' j).eval X J=(acc rows.length).getD j .nil:=fun j=>by
  simp only[DE.eval];rw[hδt,hrows];show _=(zQA step 0 (rows.take rows.length) (zDA X inits' J)).getD j .nil;rw[List.take_length]
 have hacc0:acc 0=zDA X inits J++[.nil]:=by
  show zQA step 0 (rows.take 0) (zDA X inits' J)=_;rw[his,qWA];rfl
 have hget:∀k y j,(dk k y).getD (B.lvl+2+j) .nil=(acc k).getD j .nil:=fun k y j=>by
  have:=zND (J:=J) (lv:=B.lvl) (by omega) (.int k) y (acc k) j
  rw[hδt] at this;exact this
 let fl:Nat->D:=fun k=>(acc k).getD cars.length .nil
 have hFe:∀k y,(F.eval X (dk k y)).asBool=(fl k).isNil:=fun k y=>by
  rw[hF,hV];show (D.isNil ((dk k y).getD (B.lvl+2+cars.length) .nil))=_;rw[hget]
 have haccS:∀k,k<rows.length->acc (k+1)=zDA X bodies' (dk k (rows.getD k .nil)):=fun k hk=>by
  show zQA step 0 (rows.take (k+1)) _=_;have e1:rows.take (k+1)=rows.take k++[rows.getD k .nil]:=by
   rw[List.take_add_one]
   congr 1
   simp[List.getD,hk]
  rw[e1,xRA];simp only[Nat.zero_add,List.length_take,Nat.min_eq_left (Nat.le_of_lt hk)];rfl
 have haccE:∀k,k<rows.length->acc (k+1)=if (fl k).isNil then (if (stop.eval X (dk k (rows.getD k .nil))).asBool then zDA X ends (dk k (rows.getD k .nil))++[(DE.f .mkrow ((giOf s3 s3.env).map (·.2.2))).eval X (dk k (rows.getD k .nil))] else zDA X bodies (dk k (rows.getD k .nil))++[.nil]) else ((List.range cars.length).map fun i=>(acc k).getD i .nil)++[fl k]:=fun k hk=>by
  rw[haccS k hk,hbs,hF,hV,zPK (by rw[helen,hblen]) helen];simp only[hget];rfl
 have hstopN:∀O o,o∈outs->PcOk X O o.pc->o.ex = .norm->(stop.eval X O).asBool=false:=fun O o ho hpc hn=>by
  rw[xKB (X:=X) (J:=O) htree (o.pc,!zSB o.ex) (List.mem_map.2 ⟨o,ho,rfl⟩) hpc];simp[hn,zSB]
 have hstopS:∀O o,o∈outs->PcOk X O o.pc->o.ex ≠ .norm->(stop.eval X O).asBool=true:=fun O o ho hpc hn=>by
  rw[xKB (X:=X) (J:=O) htree (o.pc,!zSB o.ex) (List.mem_map.2 ⟨o,ho,rfl⟩) hpc];cases hx:zSB o.ex with
  | true=>exact absurd (qKA.1 hx) hn
  | false=>rfl
 have hfl0:(fl 0).isNil=true:=by
  show ((acc 0).getD cars.length .nil).isNil=true;rw[hacc0,List.getD_eq_getElem?_getD,List.getElem?_append_right (by rw[yAA];omega),yAA,hilen];simp[D.isNil]
 have hfrozen:∀k A r,A.length=cars.length->D.isNil r=false->acc k=A++[r] -> ∀j,k+j<=rows.length->acc (k+j)=A++[r]:=fun k A r hA hr hk j=>by
  induction j with
  | zero=>intro _;exact hk
  | succ j ih =>
   intro hj;have h1:=ih (by omega);have hflr:fl (k+j)=r:=by
    show (acc (k+j)).getD cars.length .nil=r;rw[h1,List.getD_eq_getElem?_getD,List.getElem?_append_right (by omega),hA]
    simp
   rw[<- Nat.add_assoc,haccE (k+j) (by omega),hflr,hr];simp only[bfZ,if_false]
   congr 1
   rw[h1];refine List.ext_getElem (by simp[hA]) (fun n h1 h2=>?_);simp only[List.getElem_map,List.getElem_range];rw[List.getD_eq_getElem?_getD,List.getElem?_append_left h2,List.getElem?_eq_getElem h2];rfl
 have hobl:zCA X Pre obl' J:=by
  obtain⟨fo,hfo,hfpc⟩:=yJD (X:=X) hend J;have h1:=hob fo hfo hfpc;rw[hfin] at hfo;rcases List.mem_cons.1 hfo with rfl|hfo
  ·simp only at h1;rw[zNE hgp,hT] at h1;exact h1
  ·simp only[List.mem_singleton] at hfo;subst hfo
   simp only at h1;rw[hT] at h1;exact h1
 have hpd:=zYF (nm:=nm) (zPA.1 (hobl'▸hobl)).1;have hobA:∀k,k<rows.length->(fl k).isNil=true->zCA X Pre (qPA stop s3.obl s2.obl) (dk k (rows.getD k .nil)):=fun k hk hf=>by
  rw[hobl'] at hobl;have h1:=(zPA.1 hobl).2.1;simp only[Ob.holds] at h1;rw[hrows] at h1;have h2:=(h1 k hk).1;simp only[Ob.holds] at h2;refine h2 ?_;exact(hFe k (rows.getD k .nil)).trans hf
 have hgs:=fun(O:List D) (o:Out) (ho:o∈outs) (hpc:PcOk X O o.pc) (hn:o.ex = .norm) (g0:Gh)=>qJA (P:=P) (X:=X) (Pre:=Pre) (w0:=w0) (g0:=g0) hg2 (o.pc,o.st) (xAC ho hn) hpc
 have hgs3:=fun(O:List D) (o:Out) (ho:o∈outs) (hpc:PcOk X O o.pc) (hn:o.ex ≠ .norm) (g0:Gh)=>qJA (P:=P) (X:=X) (Pre:=Pre) (w0:=w0) (g0:=g0) hg3 (o.pc,o.st) (xND ho hn) hpc
 refine loopHG (d':=d') hex hlp (n:=1) hho (by simpa using hl0) houts hhnt hhenv hfit0 (zBF hti2) hfit2 (rows:=rows) acc ⟨_,rfl,hacc0⟩ dk rfl hnum
  (fun k gk w' hk hmk=>henter k _ gk w' hk hmk) (fun O o ho hpc hn g0=>(hgs O o ho hpc hn g0).2) (fun k=>(fl k).isNil=true) hfl0
  (fun k hk hf o ho hpc hn=>by
   show ((acc (k+1)).getD cars.length .nil).isNil=true;rw[haccE k hk,hf,hstopN _ o ho hpc hn];simp only[if_true,bfZ,if_false];rw[List.getD_eq_getElem?_getD,List.getElem?_append_right (by rw[yAA];omega),yAA,hblen];simp[D.isNil])
  (fun k hk hf o ho hpc hn=>⟨[.nil],rfl,by
   rw[haccE k hk,hf,hstopN _ o ho hpc hn];simp only[if_true,bfZ,if_false]⟩)
  (fun k hk hf o ho hpc=>by
   have hmo:=xZA (hobA k hk hf);by_cases hn:o.ex = .norm
   ·exact(hgs _ o ho hpc hn g).1 (hmo.2 (hstopN _ o ho hpc hn))
   ·exact(hgs3 _ o ho hpc hn g).1 (hmo.1 (hstopS _ o ho hpc hn))) hm he hdf hsz hti Q (fun gk w' a' hf hkept hmk henv hdf' hsz'=>?_) (fun k hk hf o ho hpc hn g0 g1 w' a' hkept hx1 hm1 he1=>?_)
 ·have hpost:=yDC (lv:=B.lvl) (cars:=cars) (B:=B) (T:=T) (pd:=pdOf nm B.lvl d' inits' bodies') hmk (a:=a') henv hlv hfit0 hnd hco (fun j=>(hpd j).trans (hfe j)) (by rw[hT]);refine hQ ⟨[(.f .isNil [pdOf nm B.lvl d' inits' bodies' cars.length],true)],.norm,T⟩ (by rw[hfin];exact List.mem_cons_of_mem _ (List.mem_singleton.2 rfl)) (fun p hp=>by
   simp only[List.mem_singleton] at hp;subst hp
   show D.isNil ((pdOf nm B.lvl d' inits' bodies' cars.length).eval X J)=true;rw[hpd,hfe];exact hf) gk w' a' ⟨fun n vi hn=>?_,fun o cs hc=>?_⟩ hpost.1 ⟨hpost.2,hdf',by rw[hT];exact hsz'⟩
  ·obtain⟨⟨vj,hj⟩,_⟩:=zXA hkv hn;exact⟨by rw[hT];exact qAA hj,hkept.rv n vi hn⟩
  ·obtain⟨⟨cj,hj⟩,_⟩:=zXA hko hc;exact⟨⟨_,by rw[hT];simp only;rw[yDB,hj];rfl⟩,hkept.rb o cs hc⟩
 ·obtain⟨g2,q2,q3,q1⟩:=(hgs3 _ o ho hpc hn g0).2 g1 w' a' hm1 he1 hx1;have hk2:Kept B g g2:=⟨fun n vi hn=>by
   obtain⟨vj,hj⟩:=hBv n vi hn;obtain⟨_,e1,e2⟩:=hx1.rv n vj hj;obtain⟨_,e3,e4⟩:=q1.rv n vj hj;obtain⟨k1,k2⟩:=hkept.rv n vi hn;exact⟨by rw[e3,<- e1,k1],by rw[e4,<- e2,k2]⟩,fun o cs ho=>by
   obtain⟨cj,hj⟩:=hBo o cs ho;obtain⟨_,e1⟩:=hx1.rb o cj hj;obtain⟨_,e3⟩:=q1.rb o cj hj;rw[e3,<- e1];exact hkept.rb o cs ho⟩
  let hz:St:={ h0 with env:=qEA ((giOf s3 s3.env).map (·.1)) h0.env }
  let T0:St:={ T with env:=zEB (pdOf nm B.lvl d' inits' bodies') cars hz.env }
  let R:DE:=.f .mkrow ((giOf s3 s3.env).map (·.2.2))
  let O:=dk k (rows.getD k .nil)
  have hcoz:yRB B.lvl hz cars 0=true:=(yMC (h:=h0) (h':=hz) rfl).trans hco;have hξt:O.take B.lvl=J:=by
   show (J++_).take _=_;rw[List.take_append_of_le_length (by omega),hδt]
  have hak:acc (k+1)=zDA X ends O++[R.eval X O]:=by
   rw[haccE k hk,hf,hstopS _ o ho hpc hn];rfl
  have hRe:R.eval X O = .row (zDA X ((giOf s3 s3.env).map (·.2.2)) O):=rfl;have haL:acc rows.length=zDA X ends O++[R.eval X O]:=by
   have:=hfrozen (k+1) (zDA X ends O) (R.eval X O) (by rw[yAA,helen]) (by rw[hRe];rfl) hak (rows.length-(k+1)) (by omega)
   rwa [show k+1+(rows.length-(k+1))=rows.length by omega] at this
  have hξl:B.lvl<=O.length:=by
   show _<=(J++_).length;rw[List.length_append];omega
  obtain⟨k1,k2,k3,_⟩:=zLB q2 hξl hfit3 hnd hcoz [R.eval X O] (by simpa using hl0) (a:=a') q3.tm (.int (rows.length:Nat)) .nil;rw[hξt,<- haL] at k1 k2;have hpost:=yDC (lv:=B.lvl) (cars:=cars) (B:=B) (h0:=hz) (T:=T0) (pd:=pdOf nm B.lvl d' inits' bodies') k1 (a:=a') k2 hlv hfitz hnd hcoz (fun j=>(hpd j).trans (hfe j)) (by show T0=_;simp only[T0];rw[hT]);have hT0e:Env X J T0 (g2.carry X O s3 cars) a':=⟨hpost.2,q3.df,by
   rw[q3.sz,qGC hfit3];show h0.nt=T.nt;rw[hT]⟩
  have hfR:(pdOf nm B.lvl d' inits' bodies' cars.length).eval X J=R.eval X O:=by
   rw[hpd,hfe,haL,List.getD_eq_getElem?_getD,List.getElem?_append_right (by rw[yAA];omega),yAA,helen]
   simp
  obtain⟨g',p1,p2,p3⟩:=yRE hpost.1 hT0e hgp (fun j kk m d hj=>by
   obtain⟨e1,e2⟩:=qIC hj;refine⟨_,(q3.tm kk _ e1).1,?_⟩;have hd:(DE.f (.get (0+j)) [pdOf nm B.lvl d' inits' bodies' cars.length]).eval X J=d.eval X O:=by
    show (((pdOf nm B.lvl d' inits' bodies' cars.length).eval X J).cells).getD (0+j) .nil=_;rw[hfR,hRe,Nat.zero_add];show (zDA X ((giOf s3 s3.env).map (·.2.2)) O).getD j .nil=_;rw[List.getD_eq_getElem?_getD,yFB (e:=d) (by rw[List.getElem?_map,hj];rfl)];rfl
   rw[hd];exact q2.va m _ e2)
  have hfinQ:=hQ ⟨[(.f .isNil [pdOf nm B.lvl d' inits' bodies' cars.length],false)],zSF lp.bid x,T'⟩ (by rw[hfin];exact List.mem_cons_self) (fun p hp=>by
   simp only[List.mem_singleton] at hp;subst hp
   show D.isNil ((pdOf nm B.lvl d' inits' bodies' cars.length).eval X J)=false;rw[hfR,hRe];rfl) g' w' a' ⟨fun n vi hn=>?_,fun o cs hc=>?_⟩ p1 p2
  ·rw[hstopx o ho hn,<- hbid];exact hfinQ
  ·obtain⟨⟨vj,hj⟩,hnm⟩:=zXA hkv hn;have hT0v:∃vi,lk n T0.vars=some vi:=by
    have:=qAA (pd:=pdOf nm B.lvl d' inits' bodies') (cars:=cars) (i:=0) hj
    obtain⟨vi,hvi⟩:=this;exact⟨vi,by show lk n T.vars=_;rw[hT];exact hvi⟩
   obtain⟨vi',hvi'⟩:=hT0v;obtain⟨⟨vi2,hvi2⟩,e1,e2⟩:=p3.rv n vi' hvi';refine⟨⟨vi2,hvi2⟩,?_⟩;rw[e1,e2];simp only[Gh.carry,xWA hnm];exact hk2.rv n vi hn
  ·obtain⟨⟨cj,hj⟩,_⟩:=zXA hko hc;have hT0o:lk o T0.objs=some (zDB (pdOf nm B.lvl d' inits' bodies') cars o 0 cj):=by
    show lk o T.objs=_;rw[hT];simp only;rw[yDB,hj];rfl
   obtain⟨⟨c2,hc2⟩,e1⟩:=p3.rb o _ hT0o;exact⟨⟨c2,hc2⟩,by rw[e1];exact hk2.rb o cs hc⟩
theorem loopG{ex:ExecF}(hex:ExOk P X Pre ex){i:Nat}{b:Code}{lp:LoopP}(hlp:zKC (.block i b)=some lp){B h0 h:St}{cars:List (Pl×Cr)}{d':DE}{outs fin:List Out}{tnS:SV}
  (hho:yGD B h0 cars tnS lp=true) (houts:ex [.block lp.inner lp.body] h=some outs) (hend:yXC P nm B h0 h cars d' lp outs=some fin)
  (hBv:∀n vi,lk n B.vars=some vi -> ∃vj,lk n h.vars=some vj) (hBo:∀o cs,lk o B.objs=some cs -> ∃c,lk o h.objs=some c) (hhnt:h.nt=h0.nt) (hhenv:∀s v,lk s h.env=some v->(s=lp.ti/\v = .i lp.kd (.v B.lvl))∨(s≠lp.ti/\lk s h0.env=some v))
  {rows:List D} (hrows:(d'.eval X J).rows=rows)
  (hnum:∀(O:List D) (gk:Gh) (w':World),O.take B.lvl=J->Mem P X w0 O h0 gk w'->tnS.ok X O -> ∃nn:Int,tnS.den X O gk = .int lp.kd nn/\rows.length=nn.toNat/\(rows.length:Int)<=lp.kd.max)
  (henter:∀(k:Nat) (acc:List D) (gk:Gh) (w':World),k<rows.length->Mem P X w0 (J++(.int k::rows.getD k .nil::acc)) h0 gk w' -> ∃gr,Enters P X w0 B h0 h lp.ti (J++(.int k::rows.getD k .nil::acc)) gk w' gr)
  (hm:Mem P X w0 J B g w) (he:∀s sv,lk s B.env=some sv->a.tmps[s]? = some (sv.den X J g)/\sv.ok X J) (hdf:a.defers=[]) (hsz:a.tmps.size=B.nt) (hti:a.tmps[lp.ti]? = some (.int lp.kd 0))
  (hob:∀o∈fin,PcOk X J o.pc->zCA X Pre o.st.obl J) (Q:Exit->Act->World->Prop)
  (hQ:∀o∈fin,PcOk X J o.pc -> ∀g' w' a',Ext B g o.st g'->Mem P X w0 J o.st g' w'->Env X J o.st g' a'->Q o.ex.toExit a' w'):(Code.block i b).wp P Q a w:=by
 unfold yXC at hend;split at hend
 ·rename_i r hr;cases hend;exact loopG0 hex hlp hho houts hr hBv hBo hhnt hhenv hrows hnum henter hm he hdf hsz hti hob Q hQ
 ·exact loopGZ hex hlp hho houts hend hBv hBo hhnt hhenv hrows hnum henter hm he hdf hsz hti hob Q hQ
end
end Go.Dx
namespace Go.Dx
open Go
section
variable {nm:Option Nat} {P:Program} {X:Nat->List D->D} {Pre:Nat->List D->Prop} {w0:Base} {J δ':List D} {st:St} {g g':Gh} {w:World} {a:Act}
theorem zEH{ex:ExecF}{B h0:St}{cars:List (Pl×Cr)}{src:SV}{d:DE}{t e:TypeId}{lp:LoopP}{fin:List Out}(hV:yHK P nm ex B h0 cars src d t e lp=some fin) :
  ∃i h outs,svT P h0 t src=some d/\P.info? e=some i/\(P.underlying e=some (.int .u8)->i.size=1)/\d.shut B.lvl=true/\src.closed B.lvl (msOf cars)=true/\yGD B h0 cars (.i .i64 (.f .len [d])) lp=true/\lp.kd = .i64 /\
   qMG B.lvl e src lp.ti h0.nx h0=some h/\ex [.block lp.inner lp.body] h=some outs/\yXC P nm B h0 h cars d lp outs=some fin:=by
 unfold yHK at hV;split at hV
 rotate_left
 ·cases hV
 rename_i d' i hsv hinf;split at hV
 rotate_left
 ·cases hV
 rename_i hc;simp only[baZ,dtZ] at hc;obtain⟨⟨⟨⟨⟨h8,hdd⟩,hsh⟩,hcl⟩,hho⟩,hkd⟩:=hc
 have:=DE.beq_eq hdd
 subst this;split at hV
 rotate_left
 ·cases hV
 rename_i h hent;split at hV
 rotate_left
 ·cases hV
 rename_i outs houts;exact⟨i,h,outs,hsv,hinf,zYI h8,hsh,hcl,hho,hkd,hent,houts,hV⟩
theorem ok_src{O:List D}{s:St}{t e:TypeId}{src:SV}{d:DE}(hu:P.underlying t=some (.slice e))(hsv:svT P s t src=some d):src.ok X O:=by
 unfold svT at hsv;cases src <;> first|trivial|(simp[hu,zGA] at hsv)
theorem qOH{ex:ExecF}(hex:ExOk P X Pre ex){i:Nat}{b:Code}{lp:LoopP}(hlp:zKC (.block i b)=some lp){B h0:St}{cars:List (Pl×Cr)}{src:SV}{d:DE}{t e:TypeId}{fin:List Out}(hu:P.underlying t=some (.slice e))
  (hV:yHK P nm ex B h0 cars src d t e lp=some fin) (hm:Mem P X w0 J B g w) (he:∀s sv,lk s B.env=some sv->a.tmps[s]? = some (sv.den X J g)/\sv.ok X J) (hdf:a.defers=[]) (hsz:a.tmps.size=B.nt)
  (hti:a.tmps[lp.ti]? = some (.int .i64 0)) (hob:∀o∈fin,PcOk X J o.pc->zCA X Pre o.st.obl J) (Q:Exit->Act->World->Prop)
  (hQ:∀o∈fin,PcOk X J o.pc -> ∀g' w' a',Ext B g o.st g'->Mem P X w0 J o.st g' w'->Env X J o.st g' a'->Q o.ex.toExit a' w'):(Code.block i b).wp P Q a w:=by
 obtain⟨inf,h,outs,hsv,hinf,hu8,hdsh,hscl,hho,hkd,hent,houts,hend⟩:=zEH hV;obtain⟨hobe,hnd,hco,hnti,hsls,htn',hlt1,hkv,hko⟩:=xGB hho;obtain⟨hfr,hsmen,hdef⟩:=zRJ hent;have hlv:=hm.lv;have hδt:J.take B.lvl=J:=List.take_of_length_le (by omega);have hdev:∀O:List D,O.take B.lvl=J->d.eval X O=d.eval X J:=fun O hξ=>xCA (by rw[hξ,hδt]) hdsh
 have hne:∀n vi,lk n B.vars=some vi->n≠h0.nx:=fun n vi hn e=>by
  obtain⟨⟨vj,hj⟩,_⟩:=zXA hkv hn;rw[e,qNA hfr] at hj;cases hj
 have hBv:∀n vi,lk n B.vars=some vi -> ∃vj,lk n h.vars=some vj:=fun n vi hn=>by
  obtain⟨⟨vj,hj⟩,_⟩:=zXA hkv hn;exact⟨vj,by rw[hdef];show lk n ((h0.nx,_)::h0.vars)=_;rw[zHA (Ne.symm (hne n vi hn))];exact hj⟩
 have hBo:∀o cs,lk o B.objs=some cs -> ∃c,lk o h.objs=some c:=fun o cs hc=>by
  obtain⟨⟨cj,hj⟩,_⟩:=zXA hko hc;exact⟨cj,by rw[hdef];exact hj⟩
 have hδh:∀(k:Nat) (y:D) (acc:List D),(J++(.int k::y::acc)).take B.lvl=J:=fun k y acc=>by
  rw[List.take_append_of_le_length (by omega),hδt]
 refine loopG hex hlp hho houts hend hBv hBo (by rw[hdef]) (fun s v hs=>?_) rfl (fun O gk w' hξ hmk hok=>?_) (fun k acc gk w' hk hmk=>?_) hm he hdf hsz (by rw[hkd];exact hti) hob Q hQ
 ·rw[hdef] at hs;by_cases hst:lp.ti=s
  ·subst hst;simp only[zZA,Option.some.injEq] at hs;exact .inl ⟨rfl,by rw[hkd];exact hs.symm⟩
  ·simp only at hs;rw[yJA hst] at hs;exact .inr ⟨Ne.symm hst,hs⟩
 ·have hrep:=yYA hmk (ok_src hu hsv) hsv;obtain⟨l1,l2,_⟩:=hrep.rowAt hu hinf hu8;rw[hdev O hξ] at l1 l2;refine⟨((d.eval X J).len:Int),?_,by omega,by rw[hkd];have:(d.eval X J).rows.length<=9223372036854775807:=(by rw[<- l1];exact l2);show _<=(9223372036854775807:Int);omega⟩;rw[hkd];simp only[SV.den,DE.eval,zDA,Fn.eval,D.asInt];rw[hdev O hξ]
 ·generalize hξ:J++(.int (k:Nat)::(d.eval X J).rows.getD k .nil::acc)=O at hmk;have hξt:O.take B.lvl=J:=by rw[<- hξ];exact hδh _ _ _
  have hrep:=yYA hmk (ok_src hu hsv) hsv;obtain⟨l1,l2,l3⟩:=hrep.rowAt hu hinf hu8;rw[hdev O hξt] at l3;obtain⟨bb,off,len,cap,rv,hsd,hklen,hrepk,hokb,hcells⟩:=l3 k hk;have hδlv:O[B.lvl]? = some (.int (k:Nat)):=by rw[<- hξ,List.getElem?_append_right (by omega)];simp[hlv]
  have hδlv1:(DE.v (B.lvl+1)).eval X O=(d.eval X J).rows.getD k .nil:=by
   rw[<- hξ];show (J++_).getD _ _=_;rw[List.getD_eq_getElem?_getD,List.getElem?_append_right (by omega)];rw[show B.lvl+1-J.length=1 by omega];rfl
  have hrowM:=hmk.change (Fr.refl (fun _=>False) w') (fun b _ e=>e.elim) h0 rfl (fun l hl=>hl) (fun o cs ho=>⟨ho,fun e=>e⟩) (fun m vi hm=>.inr ⟨hm,fun b _ e=>e⟩) h0.nx ⟨.row e,.v (B.lvl+1)⟩ rv (bb,off+k*inf.size) hfr
   (by simp[zFA]) (fun ok' h1 h2=>by
    simp only[qUA];rw[hδlv1];exact⟨hrepk.mono h1 (fun _ _=>rfl),h1 bb hokb,hcells⟩)
  obtain⟨fden,_⟩:=qMF (X:=X) (J:=O) (g:=gk) hfr rv (bb,off+k*inf.size);have hsden:src.den X O (gk.setV h0.nx rv (bb,off+k*inf.size))=src.den X O gk:=zID X O gk h0.nx rv _ src hsmen;refine⟨gk.setV h0.nx rv (bb,off+k*inf.size),?_,fden,fun n vi hn=>⟨hBv n vi hn,?_⟩,fun o cs hc=>⟨hBo o cs hc,rfl⟩⟩
  ·rw[hdef];refine⟨hrowM.va,hrowM.ob,hrowM.oo,hrowM.vv,hrowM.ov,hrowM.lo,fun l hl=>?_,hrowM.fr,hrowM.lv,hrowM.ex,hrowM.gl⟩;rcases List.mem_cons.1 hl with rfl|hl
   ·exact⟨bb,off,len,cap,k,inf,by rw[hsden];exact hsd,hδlv,hklen,hinf,by simp[Gh.setV]⟩
   ·exact hrowM.lp l hl
  ·have:=hne n vi hn
   simp[Gh.setV,this]
theorem zDH{ex:ExecF}(hex:ExOk P X Pre ex){i:Nat}{b:Code}{lp:LoopP}(hlp:zKC (.block i b)=some lp){B h0:St}{cars:List (Pl×Cr)}{e:DE}{fin:List Out}
  (hV:zCH P nm ex B h0 cars e lp=some fin) (hm:Mem P X w0 J B g w) (he:∀s sv,lk s B.env=some sv->a.tmps[s]? = some (sv.den X J g)/\sv.ok X J) (hdf:a.defers=[]) (hsz:a.tmps.size=B.nt)
  (hti:a.tmps[lp.ti]? = some (.int lp.kd 0)) (hob:∀o∈fin,PcOk X J o.pc->zCA X Pre o.st.obl J) (Q:Exit->Act->World->Prop)
  (hQ:∀o∈fin,PcOk X J o.pc -> ∀g' w' a',Ext B g o.st g'->Mem P X w0 J o.st g' w'->Env X J o.st g' a'->Q o.ex.toExit a' w'):(Code.block i b).wp P Q a w:=by
 unfold zCH at hV;split at hV
 rotate_left
 ·cases hV
 rename_i hc;simp only[baZ] at hc;obtain⟨hesh,hho⟩:=hc;split at hV
 rotate_left
 ·cases hV
 rename_i outs houts;obtain⟨hobe,hnd,hco,hnti,hsls,htn',hlt1,hkv,hko⟩:=xGB hho;have hlv:=hm.lv;have hδt:J.take B.lvl=J:=List.take_of_length_le (by omega);have hBv:∀n vi,lk n B.vars=some vi -> ∃vj,lk n (yOE lp.kd B.lvl lp.ti h0).vars=some vj:=fun n vi hn=>(zXA hkv hn).1
 have hBo:∀o cs,lk o B.objs=some cs -> ∃c,lk o (yOE lp.kd B.lvl lp.ti h0).objs=some c:=fun o cs hc=>(zXA hko hc).1
 refine loopG hex hlp hho houts hV hBv hBo rfl (fun s v hs=>?_) rfl (fun O gk w' hξ hmk hok=>?_) (fun k acc gk w' hk hmk=>?_) hm he hdf hsz hti hob Q hQ
 ·by_cases hst:lp.ti=s
  ·subst hst;simp only[yOE,zZA,Option.some.injEq] at hs;exact .inl ⟨rfl,hs.symm⟩
  ·simp only[yOE] at hs;rw[yJA hst] at hs;exact .inr ⟨Ne.symm hst,hs⟩
 ·obtain⟨nn,h1,h2⟩:=hok;have h3:e.eval X J = .int nn:=by rw[<- xCA (show O.take B.lvl=J.take B.lvl by rw[hξ,hδt]) hesh,h1]
  have hb:=zZC h2;have hmx:(0:Int)<=lp.kd.max:=by
   obtain⟨_,_,_,_,_,_,_,_,_,_,_,_,_,nkd⟩:=zSE hlp;rcases nkd with h|h <;> rw[h] <;> decide
  refine⟨nn,by simp only[SV.den,h1,D.asInt],by simp[DE.eval,zDA,Fn.eval,D.rows,h3,D.asInt],?_⟩;simp only[DE.eval,zDA,Fn.eval,D.rows,h3,D.asInt,List.length_map,List.length_range];omega
 ·exact⟨gk,hmk.same rfl rfl rfl rfl,fun _ _ _=>rfl,fun n vi hn=>⟨hBv n vi hn,rfl,rfl⟩,fun o cs hc=>⟨hBo o cs hc,rfl⟩⟩
theorem qEC{st:St}{rs:List Nat}:∀ {l:List (Nat×SV)} {s:Nat} {v:SV},lk s (zVC st rs l)=some v->lk s l=some v
 | [],_,_,h=>by simp[zVC,yTA,yLA] at h
 | (m,x)::r,s,v,h=>by
  unfold zVC at h;by_cases hc:(isOwnX st x && !rs.elem m&&st.env.any (fun p=>p.2.beq x&&rs.elem p.1))=true
  ·rw[if_pos hc] at h;obtain⟨hne,h2⟩:=zAB h;rw[zHA hne];exact qEC h2
  ·rw[if_neg hc] at h;by_cases hm:m=s
   ·subst hm;rw[zIA] at h ⊢;exact h
   ·rw[zHA hm] at h ⊢;exact qEC h
theorem qOE{α:Type}:∀ {ss:List Nat} {l:List (Nat×α)} {s:Nat} {v:α},lk s (qEA ss l)=some v->lk s l=some v
 | [],_,_,_,h=>h
 | x::r,l,s,v,h=>qOE (ss:=r) (zAB h).2
theorem yIK{ex:ExecF}{B h0:St}{cars:List (Pl×Cr)}{src:SV}{d:DE}{t e:TypeId}{lp:LoopP}{fin:List Out}(hV:yHK P nm ex B h0 cars src d t e lp=some fin):(∀o∈fin,∀x∈B.obl,x∈o.st.obl) /\ ∀J,∃o∈fin,PcOk X J o.pc:=by
 obtain⟨inf,h,outs,hsv,hinf,hu8,hdsh,hscl,hho,hkd,hent,houts,hend⟩:=zEH hV;exact⟨zJF hend,qLD hend⟩
theorem yEJ{ex:ExecF}{B h0:St}{cars:List (Pl×Cr)}{e:DE}{lp:LoopP}{fin:List Out}(hV:zCH P nm ex B h0 cars e lp=some fin):(∀o∈fin,∀x∈B.obl,x∈o.st.obl) /\ ∀J,∃o∈fin,PcOk X J o.pc:=by
 unfold zCH at hV;split at hV
 ·split at hV
  ·exact⟨zJF hV,qLD hV⟩
  ·cases hV
 ·cases hV
theorem loopOk:LoopOk P X Pre:=by
 intro ex hex lp i b hlp st outs hn hs;unfold loopS at hs;split at hs
 ·rename_i d hti htn;split at hs
  ·rename_i src hsrc;split at hs
   ·rename_i t ht;split at hs
    ·rename_i e hu;split at hs
     ·rename_i cars h0 hh;generalize hB:({ Dx.settle st src with env:=zVC st (zMC lp.body) (qEA (lp.ti::lp.sl) (Dx.settle st src).env) }:St)=B at hs;have k:=zGB st src;obtain⟨o1,o2⟩:=yIK (X:=X) hs;refine⟨fun o ho x hx=>o1 o ho x (by rw[<- hB];simp only;rw[k.2.2.1];exact hx),o2,fun w0 J g w a hm he hob Q hQ=>?_⟩;have hm':Mem P X w0 J B g w:=by rw[<- hB];exact(Mem.settle src hm).1.same rfl rfl rfl rfl
      have hBe:∀s sv,lk s B.env=some sv->lk s st.env=some sv:=fun s sv hs'=>by
       rw[<- hB] at hs';simp only at hs';rw[k.1] at hs';exact qOE (qEC hs')
      have hBv:∀n vi,lk n st.vars=some vi -> ∃vj,lk n B.vars=some vj:=fun n vi hn=>by rw[<- hB];exact k.2.2.2.2.2.2 n vi hn
      have hBo:∀o cs,lk o st.objs=some cs->lk o B.objs=some cs:=fun o cs ho=>by rw[<- hB];simp only;rw[k.2.1];exact ho
      have hti':a.tmps[lp.ti]? = some (.int .i64 0):=(he.tm _ _ hti).1;refine qOH hex hlp hu hs hm' (fun s sv hs'=>he.tm s sv (hBe s sv hs')) he.df (by rw[he.sz,<- hB];exact k.2.2.2.2.1.symm) hti' hob Q (fun o ho hpc g' w' a' h1 h3 h4=>?_);refine hQ o ho hpc g' w' a' ⟨fun n vi hn=>?_,fun o cs ho=>?_⟩ h3 h4
      ·obtain⟨vj,hj⟩:=hBv n vi hn;exact h1.rv n vj hj
      ·exact h1.rb o cs (hBo o cs ho)
     ·cases hs
    ·cases hs
   ·cases hs
  ·cases hs
 ·rename_i ka kb e ha hb hcx;split at hs
  rotate_left
  ·cases hs
  rename_i hkk;split at hs
  ·rename_i cars h0 hh;generalize hB:({ st with env:=zVC st (zMC lp.body) (qEA (lp.ti::lp.sl) st.env) }:St)=B at hs;obtain⟨o1,o2⟩:=yEJ (X:=X) hs;refine⟨fun o ho x hx=>o1 o ho x (by rw[<- hB];exact hx),o2,fun w0 J g w a hm he hob Q hQ=>?_⟩;have hm':Mem P X w0 J B g w:=by rw[<- hB];exact hm.same rfl rfl rfl rfl
   have hBe:∀s sv,lk s B.env=some sv->lk s st.env=some sv:=fun s sv hs'=>by
    rw[<- hB] at hs';exact qOE (qEC hs')
   have hti':a.tmps[lp.ti]? = some (.int lp.kd 0):=by
    rw[<- hkk.1]
    first
     | exact(he.tm _ _ ha).1
     | exact(he.tm _ _ hb).1
     | exact(he.tm _ _ hcx).1
     | exact(he.tm _ _ e).1
   refine zDH hex hlp hs hm' (fun s sv hs'=>he.tm s sv (hBe s sv hs')) he.df (by rw[he.sz,<- hB]) hti' hob Q (fun o ho hpc g' w' a' h1 h3 h4=>?_);exact hQ o ho hpc g' w' a' ⟨fun n vi hn=>h1.rv n vi (by rw[<- hB];exact hn),fun o cs ho=>h1.rb o cs (by rw[<- hB];exact ho)⟩ h3 h4
  ·cases hs
 ·cases hs
end
end Go.Dx
namespace Go.Dx
open Go
section
variable {nm:Option Nat} {P:Program} {X:Nat->List D->D} {Pre:Nat->List D->Prop} {w0:Base} {J δ':List D} {st:St} {g g':Gh} {w:World} {a:Act}
theorem xBE(lv:Nat):∀(n j:Nat),j<n->(zNC lv n)[j]? = some (.v (lv+2+j))
 | 0,j,h=>by omega
 | n+1,j,h=>by
  have hl:∀n,(zNC lv n).length=n:=fun n=>by
   induction n with
   | zero=>rfl
   | succ n ih=>simp[zNC,ih]
  simp only[zNC];by_cases hj:j<n
  ·rw[List.getElem?_append_left (by rw[hl];exact hj)];exact xBE lv n j hj
  ·have:j=n:=by omega
   subst this;rw[List.getElem?_append_right (by rw[hl];omega),hl]
   simp
theorem xCE(lv:Nat):∀n,(zNC lv n).length=n
 | 0=>rfl
 | n+1=>by simp[zNC,xCE lv n]
theorem xDE{i:Nat}:∀ {outs:List Out},Dx.whileOk i outs=true -> ∀o∈outs,o.ex ≠ .norm->o.ex = .exit i
 | [],_,o,ho,_=>by cases ho
 | p::r,h,o,ho,hn=>by
  simp only[Dx.whileOk,baZ,Bool.or_eq_true,dtZ] at h;rcases List.mem_cons.1 ho with rfl|ho
  ·rcases h.1 with h1|h1
   ·exact absurd (qKA.1 h1) hn
   ·exact h1
  ·exact xDE h.2 o ho hn
theorem qTF(n k:Nat)(h:k<=n):(qGB n).take k=qGB k:=by
 unfold qGB;rw[<- List.map_take,List.take_range,Nat.min_eq_left h]
theorem qJD(n:Nat):(qGB n).length=n:=by simp[qGB]
theorem qXG(n k:Nat)(h:k<n):(qGB n).getD k .nil = .int (k:Nat):=by
 simp[qGB,List.getD_eq_getElem?_getD,List.getElem?_range h]
theorem qSF(n:Nat):qGB (n+1)=qGB n++[.int (n:Nat)]:=by simp[qGB,List.range_succ]
theorem xMJ:xQJ P X Pre:=by
 intro ex hex i b st st' hs;unfold loopW at hs;generalize hB:({ st with env:=zVC st (zMC b) st.env }:St)=B at hs;unfold loopWB at hs;simp only at hs;split at hs
 ·cases hs
 rename_i outs0 _;split at hs
 ·cases hs
 rename_i s1 _;split at hs
 ·cases hs
 rename_i cars h0 _;split at hs
 ·cases hs
 rename_i outs houts;split at hs
 rotate_left
 ·cases hs
 rename_i hc;simp only[baZ,beq_iff_eq,List.isEmpty_iff] at hc;obtain⟨⟨⟨⟨⟨⟨hwo,hobe⟩,hnd⟩,hco⟩,hl0⟩,hkv⟩,hko⟩:=hc;split at hs
 rotate_left
 ·cases hs
 rename_i s2 s3 go hg2 hg3 htree;split at hs
 rotate_left
 ·cases hs
 rename_i inits bodies ends hfit0 hfit2 hfit3;split at hs
 rotate_left
 ·cases hs
 rename_i hends;have hends':=xBA hends;cases hs;have hBe:∀s sv,lk s B.env=some sv->lk s st.env=some sv:=fun s sv hs'=>by rw[<- hB] at hs';exact qEC hs'
 have hBv:B.vars=st.vars:=by rw[<- hB]
 have hBo:B.objs=st.objs:=by rw[<- hB]
 have hBob:B.obl=st.obl:=by rw[<- hB]
 refine⟨fun x hx=>by rw[hBob];exact List.mem_cons_of_mem _ (List.mem_cons_of_mem _ hx),fun w0 J g w a hm0 he0 hob Q hQ=>?_⟩;have hm:Mem P X w0 J B g w:=by rw[<- hB];exact hm0.same rfl rfl rfl rfl
 have he:∀s sv,lk s B.env=some sv->a.tmps[s]? = some (sv.den X J g)/\sv.ok X J:=fun s sv hs'=>he0.tm s sv (hBe s sv hs')
 have hsz:a.tmps.size=B.nt:=by rw[he0.sz,<- hB]
 have hlv:=hm.lv;have hδt:J.take B.lvl=J:=List.take_of_length_le (by omega)
 let step:Nat->D->List D->List D:=fun i r acc=>zDA X bodies (J++(.int i::r::acc))
 let acc:Nat->List D:=fun k=>zQA step 0 (qGB k) (zDA X inits J)
 let dk:Nat->D->List D:=fun k y=>J++(.int k::y::acc k)
 obtain⟨hterm,hall,hobB⟩:=hob;simp only[Ob.holds] at hterm hall;rw[hδt] at hterm;obtain⟨hN1,hN2⟩:=zGF (p:=fun n=>(go.eval X (J++(.int n :: .int n::acc n))).asBool=false) hterm;have hwh:(DE.wh B.lvl go inits bodies).eval X J = .int (zFF (fun n=>(go.eval X (J++(.int n :: .int n::acc n))).asBool=false):Nat):=by
  simp only[DE.eval];rw[hδt]
 generalize hNN:zFF (fun n=>(go.eval X (J++(.int n :: .int n::acc n))).asBool=false)=N at hN1 hN2 hwh;have hgo:∀k,k<N->(go.eval X (dk k (.int k))).asBool=true:=fun k hk=>by
  have:=hN2 k hk
  cases hb:(go.eval X (dk k (.int k))).asBool with
  | true=>rfl
  | false=>exact absurd hb this
 have hrowsN:((DE.f .iota [.wh B.lvl go inits bodies]).eval X J).rows=qGB N:=by
  show (Fn.eval X .iota (zDA X [.wh B.lvl go inits bodies] J)).rows=_;rw[zWC,hwh];simp[Fn.eval,D.rows,D.asInt,qGB]
 have hrowsS:((DE.f .iotaS [.wh B.lvl go inits bodies]).eval X J).rows=qGB (N+1):=by
  show (Fn.eval X .iotaS (zDA X [.wh B.lvl go inits bodies] J)).rows=_;rw[zWC,hwh];simp[Fn.eval,D.rows,D.asInt,qGB]
 have hobk:∀k,k<=N->zCA X Pre (qPA go s2.obl s3.obl) (dk k (.int k)):=fun k hk=>by
  rw[hrowsS] at hall
  have:=hall k (by rw[qJD];omega)
  rw[qXG _ _ (by omega),qTF _ _ (by omega)] at this;exact this
 have hgs:=fun(O:List D) (o:Out) (ho:o∈outs) (hpc:PcOk X O o.pc) (hn:o.ex = .norm) (g0:Gh)=>qJA (P:=P) (X:=X) (Pre:=Pre) (w0:=w0) (g0:=g0) hg2 (o.pc,o.st) (xAC ho hn) hpc
 have hgs3:=fun(O:List D) (o:Out) (ho:o∈outs) (hpc:PcOk X O o.pc) (hn:o.ex ≠ .norm) (g0:Gh)=>qJA (P:=P) (X:=X) (Pre:=Pre) (w0:=w0) (g0:=g0) hg3 (o.pc,o.st) (xND ho hn) hpc
 have htree':=fun(O:List D) (o:Out) (ho:o∈outs) (hpc:PcOk X O o.pc)=>xKB (X:=X) (J:=O) htree (o.pc,zSB o.ex) (List.mem_map.2 ⟨o,ho,rfl⟩) hpc
 let Inv:Nat->Act->World->Prop:=fun k a w=>k<=N/\a.defers=[]/\a.tmps.size=h0.nt /\
  ∃gk:Gh,(∀y,Mem P X w0 (dk k y) h0 gk w /\ ∀s v,lk s h0.env=some v->a.tmps[s]? = some (v.den X (dk k y) gk)/\v.ok X (dk k y))/\Kept B g gk
 have hbase:Inv 0 a w:=by
  refine⟨Nat.zero_le _,he0.df,by rw[hsz];exact qGC hfit0,g.carry X J B cars,fun y=>?_,⟨fun n vi hn=>?_,fun o cs _=>rfl⟩⟩
  ·obtain⟨k1,k2,k3,_⟩:=zLB hm (by omega) hfit0 hnd hco [] (by simpa using hl0) he (.int (0:Nat)) y;rw[hδt,List.append_nil] at k1 k2;exact⟨k1,k2⟩
  ·have:=(zXA hkv hn).2
   simp[Gh.carry,xWA this]
 have hkeptX:∀(gk:Gh) (s':St) (g2:Gh),Kept B g gk->Ext h0 gk s' g2->Kept B g g2:=fun gk s' g2 hk q1=>⟨fun n vi hn=>by
   obtain⟨⟨vj,hj⟩,_⟩:=zXA hkv hn;obtain⟨_,e3,e4⟩:=q1.rv n vj hj;obtain⟨k1,k2⟩:=hk.rv n vi hn;exact⟨by rw[e3,k1],by rw[e4,k2]⟩,fun o cs hc=>by
   obtain⟨⟨cj,hj⟩,_⟩:=zXA hko hc;obtain⟨_,e2⟩:=q1.rb o cj hj;rw[e2];exact hk.rb o cs hc⟩
 have hacc1:∀k,acc (k+1)=zDA X bodies (dk k (.int k)):=fun k=>by
  show zQA step 0 (qGB (k+1)) _=_;rw[qSF,xRA,qJD,Nat.zero_add]
 have hfold:∀j,(DE.fold B.lvl (.f .iota [.wh B.lvl go inits bodies]) inits bodies j).eval X J=(acc N).getD j .nil:=fun j=>by
  show (zQA (fun i r acc=>zDA X bodies (J.take B.lvl++(.int i::r::acc))) 0 ((DE.f .iota [.wh B.lvl go inits bodies]).eval X J).rows (zDA X inits J)).getD j .nil=_;rw[hδt,hrowsN]
 refine wp_block (wp_loop_rounds (N+1) ?_);have key:∀j k a w,k+j=N+1->Inv k a w->Code.rounds P b (Exit.inBlock i Q) j a w:=by
  intro j
  induction j with
  | zero=>intro k a w hk hI;have:=hI.1;omega
  | succ j ih =>
   intro k a w hk hI;obtain⟨hkN,hkdf,hksz,gk,hgk,hkept⟩:=hI;rw[rounds_succ];obtain⟨hmk,hek⟩:=hgk (.int k);have hEk:Env X (dk k (.int k)) h0 gk a:=⟨hek,hkdf,hksz⟩;have hmo:=xZA (hobk k hkN);refine zTA (hex.sound w0 (dk k (.int k)) [b] h0 _ gk w a hmk hEk houts (fun o ho hpc=>?_) _ (fun o ho hpc g1 w2 c2 q1' q2' q3'=>?_))
   ·have ht:=htree' _ o ho hpc;by_cases hn:o.ex = .norm
    ·exact(hgs _ o ho hpc hn g).1 (hmo.1 (by rw[ht];exact qKA.2 hn))
    ·exact(hgs3 _ o ho hpc hn g).1 (hmo.2 (by
      rw[ht];cases hx:zSB o.ex with
      | true=>exact absurd (qKA.1 hx) hn
      | false=>rfl))
   ·have ht:=htree' _ o ho hpc;by_cases hn:o.ex = .norm
    ·skip
     rw[hn];obtain⟨g2,q2,q3,q1⟩:=(hgs _ o ho hpc hn gk).2 g1 w2 c2 q2' q3' q1';show Code.rounds P b (Exit.inBlock i Q) j c2 w2;have hkN':k<N:=by
      rcases Nat.lt_or_ge k N with h1|h1
      ·exact h1
      ·have:k=N:=by omega
       subst this;have h2:(go.eval X (dk k (.int k))).asBool=true:=by rw[ht];exact qKA.2 hn
       have h3:(go.eval X (dk k (.int k))).asBool=false:=hN1;rw[h2] at h3;cases h3
     refine ih (k+1) c2 w2 (by omega) ⟨hkN',q3.df,by rw[q3.sz];exact qGC hfit2,g2.carry X (dk k (.int k)) s2 cars,fun y=>?_,⟨fun n vi hn=>?_,fun o cs hc=>?_⟩⟩
     ·have hle:B.lvl<=(dk k (.int k)).length:=by show _<=(J++_).length;rw[List.length_append];omega
      obtain⟨k1,k2,k3,_⟩:=zLB q2 hle hfit2 hnd hco [] (by simpa using hl0) (a:=c2) q3.tm (.int ((k+1:Nat):Int)) y;have e1:(dk k (.int k)).take B.lvl=J:=by
       show (J++_).take _=_;rw[List.take_append_of_le_length (by omega),hδt]
      rw[e1,List.append_nil,<- hacc1] at k1 k2;exact⟨k1,k2⟩
     ·have hnm:=(zXA hkv hn).2;simp only[Gh.carry,xWA hnm];exact(hkeptX gk s2 g2 hkept q1).rv n vi hn
     ·exact(hkeptX gk s2 g2 hkept q1).rb o cs hc
    ·skip
     have hxi:=xDE hwo o ho hn;obtain⟨g2,q2,q3,q1⟩:=(hgs3 _ o ho hpc hn gk).2 g1 w2 c2 q2' q3' q1';have hkN':k=N:=by
      rcases Nat.lt_or_ge k N with h1|h1
      ·have h2:=hgo k h1;rw[ht] at h2;exact absurd (qKA.1 h2) hn
      ·omega
     subst hkN';rw[hxi];show Exit.inBlock i Q (.exit i) c2 w2;simp only[Exit.inBlock,if_true];have hle:B.lvl<=(dk k (.int k)).length:=by show _<=(J++_).length;rw[List.length_append];omega
     obtain⟨k1,k2,k3,hel⟩:=zLB q2 hle hfit3 hnd hco [] (by simpa using hl0) (a:=c2) q3.tm (.int (k:Nat)) (.int k);have e1:(dk k (.int k)).take B.lvl=J:=by
      show (J++_).take _=_;rw[List.take_append_of_le_length (by omega),hδt]
     have hac:(acc k).length=cars.length:=by
      have:=hmk.lv
      rw[hl0] at this;simp only[dk,List.length_append,List.length_cons] at this;omega
     have e2:zDA X ends (dk k (.int k))=acc k:=by
      rw[hends'];apply List.ext_getElem?;intro q;by_cases hq:q<cars.length
      ·rw[yFB (e:=.v (B.lvl+2+q)) (xBE B.lvl cars.length q hq)]
       have:=zND (J:=J) (lv:=B.lvl) (by omega) (.int k) (.int k) (acc k) q
       rw[hδt] at this;simp only[DE.eval,dk];rw[this,List.getD_eq_getElem?_getD,List.getElem?_eq_getElem (by omega)];rfl
      ·rw[List.getElem?_eq_none (by rw[yAA,xCE];omega),List.getElem?_eq_none (by omega)]
     rw[e1,e2,List.append_nil] at k1 k2;have hpost:=yDC (lv:=B.lvl) (cars:=cars) (B:=B) (T:={ env:=zEB (pdOf none B.lvl (.f .iota [.wh B.lvl go inits bodies]) inits bodies) cars h0.env,vars:=xLA (pdOf none B.lvl (.f .iota [.wh B.lvl go inits bodies]) inits bodies) cars 0 h0.vars,objs:=zMB (pdOf none B.lvl (.f .iota [.wh B.lvl go inits bodies]) inits bodies) cars h0.objs,loops:=h0.loops,obl:=Ob.term B.lvl go inits bodies :: .all (.f .iotaS [.wh B.lvl go inits bodies]) inits bodies (qPA go s2.obl s3.obl)::B.obl,lvl:=B.lvl,nx:=max s2.nx s3.nx,nt:=h0.nt })
      (pd:=pdOf none B.lvl (.f .iota [.wh B.lvl go inits bodies]) inits bodies) k1 (a:=c2) k2 hlv hfit0 hnd hco (fun j=>hfold j) rfl
     refine hQ _ w2 c2 ⟨fun n vi hn=>?_,fun o cs hc=>?_⟩ hpost.1 ⟨hpost.2,q3.df,(show c2.tmps.size=h0.nt from q3.sz.trans (qGC hfit3))⟩
     ·rw[<- hBv] at hn;obtain⟨⟨vj,hj⟩,hnm⟩:=zXA hkv hn;refine⟨qAA hj,?_⟩;simp only[Gh.carry,xWA hnm];exact(hkeptX gk s3 g2 hkept q1).rv n vi hn
     ·rw[<- hBo] at hc;obtain⟨⟨cj,hj⟩,_⟩:=zXA hko hc;exact⟨⟨_,by simp only;rw[yDB,hj];rfl⟩,(hkeptX gk s3 g2 hkept q1).rb o cs hc⟩
 exact key (N+1) 0 a w (by omega) hbase
theorem zLE{C:Cfg}(hnm:yWA C.P)(hord:C.P.follows .mixedOrders=true)(hctr:∀f c,C.ctr f=some c->xDA C.P X Pre f c)(n dp:Nat):ExOk C.P X Pre (exec C n dp) :=
 zDK hnm hord hctr loopOk xMJ n dp
end
end Go.Dx
namespace Go.Dx
open Go
structure Sa where
 as:List SV
 vs:List (Nat×VI)
 os:List (Nat×List SV)
def srcE(m:Bool)(i:Nat):DE:=if m then .f (.get 1) [.v i] else .v i
def yNA(P:Program):Nat->List AK->Option Sa
 | _,[]=>some ⟨[],[],[]⟩
 | i,.val t::r =>
  match yNA P (i+1) r,P.underlying t with
  | some q,some d=>if qUB d then some ⟨zCD P i t (.v i)::q.as,q.vs,q.os⟩ else some ⟨.x i::q.as,(i,⟨.set t,.v i⟩)::q.vs,q.os⟩
  | _,_=>none
 | i,.own t::r =>
  match yNA P (i+1) r with
  | some q=>some ⟨.x i::q.as,(i,⟨.own t,.v i⟩)::q.vs,q.os⟩
  | none=>none
 | i,.rd t m::r =>
  match yNA P (i+1) r with
  | some q=>some ⟨.oa i 0::q.as,(i,⟨.set t,srcE m i⟩)::q.vs,(i,[.x i,.b (badE m (.v i))])::q.os⟩
  | none=>none
 | _,_::_=>none
def yGC(n:Nat)(q:Sa)(nt:Nat):St:={ env:=xWC 0 q.as,vars:=q.vs,objs:=q.os,loops:=[],obl:=[],lvl:=n,nx:=n,nt:=nt }
def owns:List AK->Nat
 | []=>0
 | .own _::r=>owns r+1
 | .rd _ _::r=>owns r+1
 | _::r=>owns r
def rdAt:Nat->List AK->Option (Nat×TypeId×Bool)
 | _,[]=>none
 | i,.rd t m::_=>some (i,t,m)
 | i,_::r=>rdAt (i+1) r
def ptrK(P:Program)(s:St)(t:TypeId)(cs:List SV):Option DE :=
 match P.underlying t with
 | some (.pointer e) =>
  match yED P s e cs with
  | some v=>(svT P s e v).map fun d=>mkf .mkptr [d]
  | none=>none
 | _=>none
def retV(P:Program)(s:St)(t:TypeId)(r:SV):Option DE :=
 match svT P (settle s r) t r with
 | some d=>some d
 | none =>
  match r with
  | .oa o 0 =>
   match lk o s.objs with
   | some cs=>ptrK P (settles s cs) t cs
   | none=>none
  | _=>none
def retO(P:Program)(s:St)(t:TypeId):SV->Option DE
 | .x n =>
  match lk n s.vars with
  | some ⟨.own u,d⟩=>if u=t then some d else none
  | _=>none
 | .c .nils=>if qZB P t then some (.k .nil) else none
 | _=>none
def notO(i:Nat):SV->Bool
 | .oa o _=>!(o==i)
 | _=>true
def retR(P:Program)(s:St)(as:List AK)(t:TypeId)(m:Bool)(r:SV):Option DE :=
 match rdAt 0 as with
 | some (i,tb,m') =>
  if m=m' then
  match retV P s t r,lk i s.objs with
  | some d,some [x,.b e] =>
   if notO i r then
    match svT P (settle s r) tb x with
    | some d'=>some (.f .mkrow [d,d',e])
    | none=>none
   else none
  | _,_=>none
  else none
 | none=>none
def retD(P:Program)(s:St)(as:List AK)(k:RK):List SV->Option DE
 | [] =>
  match k with
  | .unit=>some (.k .nil)
  | _=>none
 | [r] =>
  match k with
  | .val t=>retV P s t r
  | .own t=>retO P s t r
  | .rd t m=>retR P s as t m r
  | _=>none
 | [r,.b (.k (.bool true))] =>
  match k with
  | .valT t=>retV P s t r
  | .ownT t=>retO P s t r
  | .valB t =>
   match retV P s t r with
   | some d=>some (.f .mkrow [d,.k (.bool true)])
   | none=>none
  | _=>none
 | [r,.b e] =>
  match k with
  | .valB t =>
   match retV P s t r with
   | some d=>some (.f .mkrow [d,e])
   | none=>none
  | _=>none
 | _=>none
def yWH:Nat->List (List (DE×Bool)×DE)->Option DE
 | _,[(_,d)]=>some d
 | n+1,((e,b)::pc,x)::r =>
  match xKD e (((e,b)::pc,x)::r) with
  | some (t,[])=>yWH n t
  | some ([],f)=>yWH n f
  | some (t,f) =>
   match yWH n t,yWH n f with
   | some a,some b=>some (if a.beq b then a else .f .ite [e,a,b])
   | _,_=>none
  | none=>none
 | _,_=>none
def yXH:Nat->List (List (DE×Bool)×List Ob)->Option (List Ob)
 | _,[(_,d)]=>some d
 | n+1,((e,b)::pc,x)::r =>
  match xKD e (((e,b)::pc,x)::r) with
  | some (t,[])=>yXH n t
  | some ([],f)=>yXH n f
  | some (t,f) =>
   match yXH n t,yXH n f with
   | some a,some b=>some (qPA e a b)
   | _,_=>none
  | none=>none
 | _,_=>none
def outD(P:Program)(as:List AK)(k:RK)(rs:List ResultVar)(o:Out):Option (List (DE×Bool)×DE) :=
 match zHI P o.st rs with
 | some l=>(retD P o.st as k l).map fun d=>(o.pc,d)
 | _=>none
def xEK(P:Program)(as:List AK)(k:RK)(rs:List ResultVar):List Out->Option (List (List (DE×Bool)×DE))
 | []=>some []
 | o::r =>
  match outD P as k rs o,xEK P as k rs r with
  | some d,some ds=>some (d::ds)
  | _,_=>none
def zFG(P:Program)(c:Ctr):Bool :=
 match c.res with
 | .val _=>owns c.args==0
 | .own t=>owns c.args==0 || (owns c.args==1&&(rdAt 0 c.args).isNone&&(match P.underlying t with|some (.slice e)=>isU8 P e|_=>false))
 | .valT _=>owns c.args==0
 | .ownT _=>owns c.args==0
 | .valB _=>owns c.args==0
 | .rd _ _=>owns c.args==1
 | .unit=>owns c.args==0
 | _=>false
def runF(C:Cfg)(n dp:Nat)(c:Ctr)(fn:Func):Option (DE×List Ob) :=
 match fn.body,yNA C.P 0 c.args with
 | some body,some q =>
  if zFG C.P c&&decide (c.args.length<=fn.ntmps) then
   match exec C n dp [body] (yGC c.args.length q fn.ntmps) with
   | some outs =>
    if qCE outs then
     match xEK C.P c.args c.res fn.results.toList outs with
     | some ds =>
      match yWH 40 ds,yXH 40 (outs.map fun o=>(o.pc,o.st.obl)) with
      | some d,some os=>some (d,os)
      | _,_=>none
     | none=>none
    else none
   | none=>none
  else none
 | _,_=>none
def xCD(ks:List (Nat×Int)):Nat->List SV->List SV
 | _,[]=>[]
 | i,v::r=>(match v with
   | .i t (.v j)=>match lk j ks with
    | some k=>.i t (.k (.int k))
    | none=>.i t (.v j)
   | v=>v)::xCD ks (i+1) r
def zWH(C:Cfg)(n dp:Nat)(c:Ctr)(fn:Func)(ks:List (Nat×Int)):Option (DE×List Ob) :=
 match fn.body,yNA C.P 0 c.args with
 | some body,some q =>
  if zFG C.P c&&decide (c.args.length<=fn.ntmps) then
   match exec C n dp [body] (yGC c.args.length { q with as:=xCD ks 0 q.as } fn.ntmps) with
   | some outs =>
    if qCE outs then
     match xEK C.P c.args c.res fn.results.toList outs with
     | some ds =>
      match yWH 40 ds,yXH 40 (outs.map fun o=>(o.pc,o.st.obl)) with
      | some d,some os=>some (d,os)
      | _,_=>none
     | none=>none
    else none
   | none=>none
  else none
 | _,_=>none
end Go.Dx
