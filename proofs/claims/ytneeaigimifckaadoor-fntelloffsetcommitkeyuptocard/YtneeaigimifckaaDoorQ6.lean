/- Part of a verified symbolic run of the program's code (no condition of its own). -/
import Derived.Test.YtneeaigimifckaaDoorQ5
import Derived.Shelf.Bin.BEUint64
import Derived.Shelf.Bin.BEUint32
set_option linter.unusedVariables false
set_option linter.unusedSimpArgs false
namespace Go.Mx
open Go Go.Dx
def deK3:Nat->DE
 | 301=>.k .nil
 | 303=>de303
 | 304=>de304
 | 305=>de305
 | 306=>de306
 | 307=>de307
 | _=>.k .nil
def obK3:Nat->List Ob
 | 301=>ob301
 | 303=>ob303
 | 304=>ob304
 | 305=>ob305
 | 306=>ob306
 | 307=>ob307
 | _=>[]
def sig3:Nat->List K
 | 301=>[.tags]
 | 303=>[.fls,.int .i64,.bool,.tree,.tree]
 | 304=>[.fl,.int .i64,.bool,.tree,.tree]
 | 305=>[.fls,.tree]
 | 306=>[.int .i64,.int .i64]
 | 307=>[.fls,.tree]
 | _=>[]
def xWG:Nat->Nat
 | 303=>5
 | 304=>5
 | 305=>5
 | 307=>6
 | _=>0
def known3?:Nat->Bool
 | 301=>true
 | 303=>true
 | 304=>true
 | 305=>true
 | 306=>true
 | 307=>true
 | _=>false
theorem qCK{n k:Nat}{ds:List D}(h:Pre3 n k ds):side k ds:=h.2
theorem evC(k:Nat)(hk:known3? k=true)(hr:xSA k=false):∀(ds:List D),KsOk (sig3 k) ds->side k ds->zCA X side (obK3 k) ds/\(deK3 k).eval X ds=X k ds:=by
 unfold known3? at hk;split at hk
 ·intro ds hk h;obtain @⟨⟩ | @⟨_,d1,_,_,k1,hk⟩:=hk;cases hk;obtain⟨x1,rfl⟩:=k1;exact⟨ev301 x1 h,rfl⟩
 ·simp[xSA] at hr
 ·simp[xSA] at hr
 ·simp[xSA] at hr
 ·intro ds hk h;obtain @⟨⟩ | @⟨_,d1,_,_,k1,hk⟩:=hk;obtain @⟨⟩ | @⟨_,d2,_,_,k2,hk⟩:=hk;cases hk;obtain⟨x1,rfl,w1⟩:=k1;obtain⟨x2,rfl,w2⟩:=k2;exact⟨trivial,ev306 x1 x2⟩
 ·intro ds hk h;obtain @⟨⟩ | @⟨_,d1,_,_,k1,hk⟩:=hk;obtain @⟨⟩ | @⟨_,d2,_,_,k2,hk⟩:=hk;cases hk;obtain⟨x1,rfl⟩:=k1;obtain⟨x2,rfl⟩:=k2;have e:=ev307 x1 x2 0;exact⟨Obs.mono (fun _ _ h=>qCK h) _ _ e.1,e.2⟩
 ·cases hk
theorem evCR(k:Nat)(hk:known3? k=true)(hr:xSA k=true)(n:Nat):∀(ds:List D),KsOk (sig3 k) ds->Pre3 (n+1) k ds->zCA X (Pre3 n) (obK3 k) ds/\(deK3 k).eval X ds=X k ds:=by
 unfold known3? at hk;split at hk
 ·simp[xSA] at hr
 ·intro ds hk h;obtain @⟨⟩ | @⟨_,d1,_,_,k1,hk⟩:=hk;obtain @⟨⟩ | @⟨_,d2,_,_,k2,hk⟩:=hk;obtain @⟨⟩ | @⟨_,d3,_,_,k3,hk⟩:=hk;obtain @⟨⟩ | @⟨_,d4,_,_,k4,hk⟩:=hk;obtain @⟨⟩ | @⟨_,d5,_,_,k5,hk⟩:=hk;cases hk;obtain⟨x1,rfl⟩:=k1;obtain⟨x2,rfl,w2⟩:=k2;obtain⟨x3,rfl⟩:=k3;obtain⟨x4,rfl⟩:=k4;obtain⟨x5,rfl⟩:=k5;exact ev303 x1 x2 x3 x4 x5 n h
 ·intro ds hk h;obtain @⟨⟩ | @⟨_,d1,_,_,k1,hk⟩:=hk;obtain @⟨⟩ | @⟨_,d2,_,_,k2,hk⟩:=hk;obtain @⟨⟩ | @⟨_,d3,_,_,k3,hk⟩:=hk;obtain @⟨⟩ | @⟨_,d4,_,_,k4,hk⟩:=hk;obtain @⟨⟩ | @⟨_,d5,_,_,k5,hk⟩:=hk;cases hk;obtain⟨x1,rfl⟩:=k1;obtain⟨x2,rfl,w2⟩:=k2;obtain⟨x3,rfl⟩:=k3;obtain⟨x4,rfl⟩:=k4;obtain⟨x5,rfl⟩:=k5;exact ev304 x1 x2 x3 x4 x5 n h
 ·intro ds hk h;obtain @⟨⟩ | @⟨_,d1,_,_,k1,hk⟩:=hk;obtain @⟨⟩ | @⟨_,d2,_,_,k2,hk⟩:=hk;cases hk;obtain⟨x1,rfl⟩:=k1;obtain⟨x2,rfl⟩:=k2;exact ev305 x1 x2 n h
 ·simp[xSA] at hr
 ·simp[xSA] at hr
 ·cases hk
def yBK(base tab:List (Nat×Ctr))(r:Nat)(f:FuncId):Option Ctr :=
 match lk f tab with
 | some c=>if xWG c.fn<r || (r==5&&xSA c.fn) then some c else none
 | none=>lk f base
def hn3(k:Nat):List (Nat×Nat×Nat×Hint):=if k==301 then [(0,999999,0,([],0)),(45,0,1,([],0))] else [(120,0,5,([(.slot 2,.bool)],1)),(120,2,5,([],1))]
def yVH(P:Program)(base tab:List (Nat×Ctr))(f:FuncId)(c:Ctr):Bool :=
 match P.funcs[f]? with
 | some fn =>
  match runF ⟨P,yBK base tab (xWG c.fn),lookH (hn3 c.fn)⟩ 100000 8 c fn with
  | some (d,os)=>noRd c.res&&(d.beq (deK3 c.fn)&&zHD os (obK3 c.fn))
  | none=>false
 | none=>false
def ctrOk3?(P:Program)(base tab:List (Nat×Ctr))(f:FuncId)(c:Ctr):Bool :=
 known3? c.fn&&areA P (sig3 c.fn) c.args&&c.pre&&yVH P base tab f c
theorem qFK{k:Nat}(hk:known3? k=true):xWG k=5↔xSA k=true:=by
 unfold known3? at hk;split at hk
 all_goals first|cases hk;done|decide
theorem yCE{base tab:List (Nat×Ctr)}{r:Nat}{f:FuncId}{c:Ctr}(h:yBK base tab r f=some c):(lk f tab=some c/\(xWG c.fn<r∨(r=5/\xSA c.fn=true)))∨(lk f tab=none/\lk f base=some c):=by
 unfold yBK at h;split at h
 ·rename_i c' hc;split at h
  ·rename_i hb;cases h;simp only[Bool.or_eq_true,decide_eq_true_eq,Bool.and_eq_true,beq_iff_eq] at hb;exact .inl ⟨hc,hb⟩
  ·cases h
 ·rename_i hn;exact .inr ⟨hn,h⟩
theorem yGI{P:Program}{A B:Nat->List D->Prop}{base tab:List (Nat×Ctr)}(hnm:xMA P)(hord:P.follows .mixedOrders=true){f:FuncId}{c:Ctr}(hrun:yVH P base tab f c=true)(hsig:areA P (sig3 c.fn) c.args=true)(hpre:c.pre=true)
  (hc:∀g d,yBK base tab (xWG c.fn) g=some d->zPB P X A g d) (hX:∀ds,KsOk (sig3 c.fn) ds->B c.fn ds->zCA X A (obK3 c.fn) ds/\(deK3 c.fn).eval X ds=X c.fn ds):zPB P X B f c:=by
 unfold yVH at hrun;split at hrun
 rotate_left
 ·cases hrun
 rename_i fn hf;split at hrun
 rotate_left
 ·cases hrun
 rename_i d os hr;simp only[Bool.and_eq_true] at hrun;have e1:=DE.beq_eq hrun.2.1;have e2:=qXB hrun.2.2;subst e1;subst e2
 exact qQC (C:=⟨P,yBK base tab (xWG c.fn),lookH (hn3 c.fn)⟩) hnm hord hc hf hr (fun ok w vs ds hA hp=>by
  obtain⟨q1,q2⟩:=hX ds (qOE hsig hA) (hp hpre);exact⟨q1,q2,qZD hrun.1 _⟩)
theorem all_ok3{P:Program}{base tab:List (Nat×Ctr)}(hnm:xMA P)(hord:P.follows .mixedOrders=true)(hb:∀f c,lk f base=some c->zPB P X side f c)
  (hchk:∀f c,lk f tab=some c->ctrOk3? P base tab f c=true):∀f c,lk f tab=some c->zPB P X side f c:=by
 have key:∀r f c,lk f tab=some c->xWG c.fn=r->zPB P X side f c:=by
  intro r
  induction r using Nat.strongRecOn with
  | ind r ih =>
   intro f c hl hr;have h:=hchk f c hl;unfold ctrOk3? at h;simp only[Bool.and_eq_true] at h;obtain⟨⟨⟨hk,hsig⟩,hpre⟩,hrun⟩:=h;cases hrec:xSA c.fn with
   | false =>
    refine yGI hnm hord hrun hsig hpre (A:=side) (fun g d hg=>?_) (evC c.fn hk hrec);rcases yCE hg with⟨h1,h2⟩|⟨_,h1⟩
    ·rcases h2 with h2|⟨h2,_⟩
     ·exact ih _ (by omega) g d h1 rfl
     ·have:=(qFK hk).1 h2
      rw[hrec] at this;cases this
    ·exact hb g d h1
   | true =>
    have h5:r=5:=by rw[<- hr];exact(qFK hk).2 hrec
    have main:∀n f c,lk f tab=some c->known3? c.fn=true->xSA c.fn=true->areA P (sig3 c.fn) c.args=true->c.pre=true->yVH P base tab f c=true->zPB P X (Pre3 n) f c:=by
     intro n
     induction n with
     | zero =>
      intro f c hl hk hrec hsig hpre hrun;refine yGI hnm hord hrun hsig hpre (A:=fun _ _=>False) (fun g d hg=>?_) (fun ds _ hB=>?_)
      ·rcases yCE hg with⟨h1,_⟩|⟨_,h1⟩
       ·have h:=hchk g d h1;unfold ctrOk3? at h;simp only[Bool.and_eq_true] at h;obtain⟨⟨⟨_,_⟩,hp⟩,hr⟩:=h;unfold yVH at hr;split at hr
        ·rename_i fn hf;split at hr
         ·rename_i d' os hr';unfold runF at hr';split at hr'
          ·rename_i body q hb' _;exact⟨⟨fn,body,hf,hb'⟩,fun ok w vs ds _ _ _ h4=>(h4 hp).elim⟩
          ·cases hr'
         ·cases hr
        ·cases hr
       ·exact yBD (fun _ h=>h.elim) (hb g d h1)
      ·exact absurd (hB.1 hrec) (by omega)
     | succ n ihn =>
      intro f c hl hk hrec hsig hpre hrun;refine yGI hnm hord hrun hsig hpre (A:=Pre3 n) (fun g d hg=>?_) (evCR c.fn hk hrec n);rcases yCE hg with⟨h1,h2⟩|⟨_,h1⟩
      ·have hr5:=(qFK hk).2 hrec;by_cases hd:xWG d.fn<5
       ·exact yBD (fun _ h=>h.2) (ih (xWG d.fn) (by omega) g d h1 rfl)
       ·have hdr:xSA d.fn=true:=by
         rcases h2 with h2|h2
         ·omega
         ·exact h2.2
        have h:=hchk g d h1;unfold ctrOk3? at h;simp only[Bool.and_eq_true] at h;obtain⟨⟨⟨q1,q2⟩,q3⟩,q4⟩:=h;exact ihn g d h1 q1 hdr q2 q3 q4
      ·exact yBD (fun _ h=>h.2) (hb g d h1)
    have hfin:=fun n=>main n f c hl hk hrec hsig hpre hrun
    refine⟨(hfin 0).1,fun ok w vs ds h1 h2 h3 h4=>?_⟩;exact(hfin (xKK c.fn ds+1)).2 ok w vs ds h1 h2 h3 (fun hp=>⟨fun _=>by omega,h4 hp⟩)
 exact fun f c h=>key _ f c h rfl
end Go.Mx
namespace Go.Mx
open Go Go.Dx
theorem law_callsT{P:Program}{C:Cfg}(hP:C.P=P)(hnm:xMA P)(hord:P.follows .mixedOrders=true)(hctr:∀f c,C.ctr f=some c->zPB P X side f c){f:Nat}{tu tt tb:Nat}{E:DE}{O:List Ob}
  (hrun:zQJ P C f ⟨[.val tu,.val tt],.val tb,200,false⟩ [] E O=true) (hu:isI P .u8 tu=true) (htree:yOC P tt=true)
  {ok:Nat->Prop} {w:World} {n:Int} {tv:Value} {d:D} (hn:(Lit.int .u8 n).wf=true) (ht:Rep P ok w tt tv d) (hok:∀b,ok b->b<w.heap.size)
  (hlaw:∀t:T,d=t.d->wfT t=true->0<=n->n<256->zCA X side O [.int n,t.d]/\E.eval X [.int n,t.d] = .bool true) :
  Calls P f #[.int .u8 n,tv] w fun e w'=>e = .returned (.bool true)/\Fr (fun _=>False) w w':=by
 subst hP;obtain⟨fn,hf,hr⟩:=xAH hrun;have hA:ArgsOk C.P ok w [.val tu,.val tt] [.int .u8 n,tv] [.int n,d]:=.cons (.val (.int (qQI hu) hn)) (.cons (.val ht) .nil);obtain⟨t,rfl⟩:=(yUF ht).1 htree;have hw:=(qNK ht).1 htree t rfl;obtain⟨hn0,hn1⟩:=wf_u8 hn;obtain⟨h1,h2⟩:=hlaw t rfl hw hn0 hn1;have hW:∀b,¬Wr w [AK.val tu,.val tt] [.int .u8 n,tv] b:=fun b h=>by simp[Wr,wrA] at h
 have:=callK (C:=C) (c:=⟨[.val tu,.val tt],.val tb,200,false⟩) hnm hord hctr hf hr hA (fun b hb=>⟨hok b hb,hW b⟩) (fun j k hj=>by simp[lk] at hj) h1 (by rw[h2];exact(X_200 _).symm) (qZD rfl _)
 refine Calls.mono this (fun e w' he=>?_);obtain⟨v,rfl,hfr,hres⟩:=he;have e1:Rep C.P (fun b=>ok b∨w.heap.size<=b) w' tb v (X 200 [.int n,t.d]):=hres (fun b=>ok b∨w.heap.size<=b) (fun _ h=>.inl h) (fun _ h _=>.inr h);rw[X_200] at e1;refine⟨?_,hfr.mono (fun b _ hb=>(hW b hb).elim)⟩;cases e1;rfl
end Go.Mx
namespace Go.Mx
open Go Go.Dx
theorem rep_agg0{P:Program}{ok:Nat->Prop}{w:World}{t:TypeId}{v:Value}{d:D}(ha:agg P t=true)(ht:tys P t=[])(h:Rep P ok w t v d):v = .agg #[]:=by
 obtain⟨ds,rfl,_,_⟩:=yTF ha h;cases h with
 | row hu hd hlen hlen' h1 hr =>
  rename_i dd vs;rw[ht] at hlen
  have:vs=[]:=List.length_eq_zero_iff.1 hlen
  subst this;rfl
theorem hand87{P:Program}{ρ:Go.Shelf.Ren}(L:Go.Proofs.LaysBin.n39 P ρ){f:FuncId}{te tb t32 e:TypeId}(hf:ρ.f 39=f)(hb:xFG P f=true)(ha:agg P te=true)(ht:tys P te=[])(hub:P.underlying tb=some (.slice e))(he:P.underlying e=some (.int .u8))(h32:P.underlying t32=some (.int .u32)) :
  zPB P X side f ⟨[.val te,.val tb],.val t32,87,true⟩:=by
 refine⟨zCG hb,fun ok w vs ds hA hok hRd hp=>?_⟩;obtain @⟨⟩ | @⟨_,v1,d1,_,_,_,h1,hA⟩:=hA;obtain @⟨⟩ | @⟨_,v2,d2,_,_,_,h2,hA⟩:=hA;cases hA;cases h1 with
 | val h1 =>
 cases h2 with
 | val h2 =>
 obtain⟨b,hbd,hl⟩:∃b,d2 = .bytes b/\4<=b.length:=hp rfl;subst hbd;have hv1:=rep_agg0 ha ht h1;subst hv1;obtain⟨b0,b1,b2,b3,r,rfl⟩:=len4 hl;have hB:=h2.bytesAt hub he;cases hB with
 | some hsp hcl hcap hmax =>
  rename_i ad cap;have hs:ad.spot=none:=hsp (by simp only[List.length_cons] at hcap;omega);obtain⟨g,o,sp⟩:=ad;simp only at hs;subst hs;have hc:∀(j:Nat) (x:UInt8),(b0::b1::b2::b3::r)[j]? = some x->w.cell? ⟨g,o+j,none⟩=some (.int .u8 (x.toNat:Int)):=fun j x hx=>hcl j _ (by rw[List.getElem?_map,hx];rfl)
  subst hf;refine(Go.Proofs.Any.binary_BE_Uint32 L g o _ cap b0 b1 b2 b3 w (by simp only[List.length_cons];omega) (hc 0 _ rfl) (hc 1 _ rfl) (hc 2 _ rfl) (hc 3 _ rfl)).mono fun e' w' he'=>?_
  obtain⟨rfl,hbl⟩:=he';refine⟨_,rfl,⟨hbl.os,hbl.tape,hbl.output,hbl.size,fun k hk _=>hbl.block k hk⟩,fun ok' _ _=>?_⟩;have e1:Go.Lib.beNat [b0,b1,b2,b3]=beN [b0,b1,b2,b3]:=by
   simp[Go.Lib.beNat,Go.Lib.beFrom,beN]
  have hlt:beN [b0,b1,b2,b3]<256 ^ 4:=zPK _;show Rep P ok' w' t32 _ (X 87 [d1,.bytes (b0::b1::b2::b3::r)]);rw[X_87,zZA,e1];refine .int h32 (yQC ?_);simp[IntKind.min,IntKind.max,IntKind.signed,IntKind.bits];omega
end Go.Mx
namespace Go.Mx
open Go Go.Dx
def srcK:DE:=.f .app [.k .nil,.v 0]
def keyS:DE:=tlE (rdE 63 srcK)
def keyC(M:Msg):List DE:=rdM M.tg 0 false 1 M.fs keyS
def keyE(M:Msg):DE:=rowT (mkf (.wrap .i64) [hdE (rdE 63 srcK)]) nilE zOC (.f .mklist (tlL M.tg 1 (M.fs.getD []) (keyC M))) nilE
def keyO(M:Msg):List Ob:=roM M.tg 0 false 1 M.fs keyS++[.pre 63 [srcK],.room srcK 1]
def verK:DE:=.f .tmod [.f (.wrap .i64) [.v 0],.k (.int 2)]
def wrK(M:Msg):DE:=.f (.ext 60) [qHJ M,verK,.v 1]
def inK(M:Msg)(m:Nat):DE:=.f (.ext m) [wrK M]
def gotK(M:Msg)(m:Nat):DE:=.f (.ext 44) [inK M m]
def toldK(M:Msg)(m:Nat):List DE:=[scE M.fs,verK,.k (.bool false),.v 1,gotK M m]
def eqK(M:Msg)(m:Nat):DE:=.f .eqI [.f (.get 0) [inK M m],verK]
def lawEK(M:Msg)(m:Nat):DE:=.f .ite [fitT,.k (.bool true),.f .ite [eqK M m,.f (.ext 303) (toldK M m),.k (.bool false)]]
def lawOK(M:Msg)(m:Nat):List Ob:=[.when fitT false [.when (eqK M m) true [.pre 303 (toldK M m),.pre 44 [inK M m]],.pre m [wrK M],.pre 60 [qHJ M,verK,.v 1]],.pre 54 [.v 1]]
theorem fx138(v:Int):xNA M138.fx v=false:=rfl
theorem rd138{v:Int}(h:0<=v/\v<=1):rdM M138.tg v false 1 M138.fs keyS=keyC M138/\roM M138.tg v false 1 M138.fs keyS=roM M138.tg 0 false 1 M138.fs keyS/\rkS v false M138.fs=true:=by
 have:v=0∨v=1:=by omega
 rcases this with rfl|rfl
 ·exact⟨rfl,rfl,rfl⟩
 ·exact⟨rfl,rfl,rfl⟩
theorem xQI:okAll M138=true/\tlkS M138.fs=true/\lnS M138.fs=true:=⟨by decide +kernel,rfl,by decide +kernel⟩
theorem xAK{src:Option (List UInt8)}{p:Int×T}(h:KeyT M138 (src.getD []) p) :
  srcK.eval X [encB src] = .bytes (zLA p.1 2++yDA M138.fs p.1 false p.2)/\(rdE 63 srcK).eval X [encB src]=rowR (.int p.1) (yDA M138.fs p.1 false p.2) /\
  zEA X (keyC M138) [encB src]=dS M138.tg M138.fs (qEA p.1 false M138.fs p.2)/\zCA X side (roM M138.tg 0 false 1 M138.fs keyS) [encB src]/\tokS M138.fs (qEA p.1 false M138.fs p.2):=by
 obtain⟨v,t⟩:=p;obtain⟨hv,hw,hok,hsrc⟩:=h;obtain⟨q1,q2,q3⟩:=rd138 hv;have e2:srcK.eval X [encB src]=encN (src.getD []):=by
  rw[srcK,ev_f,zAA,zAA,zBA,ev_k,ev_v,yUA];exact src_encB src
 have e3:srcK.eval X [encB src] = .bytes (zLA v 2++yDA M138.fs v false t):=by
  rw[e2,hsrc];unfold encN;cases hq:zLA v 2++yDA M138.fs v false t with
  | nil =>
   have h:=congrArg List.length hq;rw[List.length_append,zVA] at h;simp at h
  | cons a l=>rfl
 have hwr:IntKind.i16.wrap v=v:=by
  have:v=0∨v=1:=by omega
  rcases this with rfl|rfl <;> rfl
 have e4:(rdE 63 srcK).eval X [encB src]=rowR (.int v) (yDA M138.fs v false t):=by
  rw[zCF 63 e3,X_63];show rowR (.int (rI .i16 2 (zLA v 2++yDA M138.fs v false t)).1) (rI .i16 2 (zLA v 2++yDA M138.fs v false t)).2=_;rw[qEB .i16 2 rfl,hwr]
 have e5:keyS.eval X [encB src] = .bytes (yDA M138.fs v false t):=zJI e4;obtain⟨hA,htk,_⟩:=xQI;simp only[okAll,Bool.and_eq_true] at hA;have hm:=hA.1.1.1.1;simp only[okMsg,Bool.and_eq_true] at hm;obtain⟨⟨hp,hsm⟩,_⟩:=hm;obtain⟨r1,r2⟩:=rd_M (x:=false) (fun h=>by cases h) M138.fs [encB src] keyS t [] hp hsm q3 hw hok (yGC.of (by rw[List.append_nil];exact e5));have r1':zEA X (rdM M138.tg v false 1 M138.fs keyS) [encB src]=dS M138.tg M138.fs (qEA v false M138.fs t):=r1;have r2':zCA X side (roM M138.tg v false 1 M138.fs keyS) [encB src]:=r2;rw[q1] at r1';rw[q2] at r2';exact⟨e3,e4,r1',r2',xWH v false M138.fs t htk q3 hok⟩
theorem zTI{src:Option (List UInt8)}{p:Int×T}(h:KeyT M138 (src.getD []) p) :
  (keyE M138).eval X [encB src]=(xUE p.1 (tsT M138.tg M138.fs (qEA p.1 false M138.fs p.2))).d:=by
 obtain⟨_,e4,a1,_,a3⟩:=xAK h;have hv:=h.1;have h1:=ev_tlS M138.tg M138.fs 1 [encB src] _ _ xQI.2.1 (Nat.le_refl _) a1 a3;have hM:M138.fs=some (M138.fs.getD []):=rfl;rw[hM,tlS,zYC] at h1;have hd:∀t:T,t.d = .row [.int t.n,encB t.s,.bool t.null,encT t.l,encU t.u]:=fun t=>by cases t;rw[T.d];rfl
 rw[hd] at h1;injection h1 with h1;injection h1 with g0 h1;injection h1 with g1 h1;injection h1 with g2 h1;injection h1 with g3 h1;injection h1 with g4 h1;have hw:∀t:T,(xUE p.1 t).d = .row [.int p.1,encB t.s,.bool t.null,encT t.l,encU t.u]:=fun t=>by cases t;rw[xUE,T.d];rfl
 have hwr:IntKind.i64.wrap p.1=p.1:=by
  have:p.1=0∨p.1=1:=by omega
  rcases this with h|h <;> (rw[h];rfl)
 rw[<- hM] at g1 g2 g3 g4;rw[keyE,zYC,hw,<- g1,<- g2,<- g3,<- g4,zFA,zAA,zBA,zII e4,zPA,hwr];rfl
theorem kX_eq{src:Option (List UInt8)}{p:Int×T}(h:KeyT M138 (src.getD []) p):kX M138 (encB src)=(xUE p.1 (tsT M138.tg M138.fs (qEA p.1 false M138.fs p.2))).d:=by
 have hs:∀q,KeyT M138 (encB src).asStr q->KeyT M138 (src.getD []) q:=fun q hq=>by rw[xHD] at hq;exact hq
 have hex:∃p,KeyT M138 (encB src).asStr p:=⟨p,by rw[xHD];exact h⟩;rw[kX,dif_pos hex,<- zTI h];exact(zTI (hs _ hex.choose_spec)).symm
theorem key_ev(src:Option (List UInt8))(hs:kSide M138 (encB src)):zCA X side (keyO M138) [encB src]/\(keyE M138).eval X [encB src]=X 138 [encB src]:=by
 obtain⟨⟨p,hp⟩,hlen⟩:=hs;rw[xHD] at hp hlen;obtain⟨e3,_,_,a2,_⟩:=xAK hp;constructor
 ·refine yOE a2 ⟨?_,?_,trivial⟩
  ·simp only[Ob.holds,zAA,zBA,e3];exact⟨_,rfl,by rw[List.length_append,zVA];omega⟩
  ·simp only[Ob.holds];rw[e3,<- hp.2.2.2];simp only[D.len,Nat.mul_one,LIM,maxLen];omega
 ·exact(zTI hp).trans (kX_eq hp).symm
theorem law_okK{m:Nat}(hX:∀a,X m [a]=kX M138 a)(hS:∀a,side m [a]=kSide M138 a)(n:Int)(t:T)(hn0:0<=n)(hn1:n<256)(hw:wfT t=true)
  (hl:zFF t=true -> ∀v,0<=v->v<=M138.most->(yDA M138.fs v (xNA M138.fx v) t).length+2000<=lim):zCA X side (lawOK M138 m) [.int n,t.d]/\(lawEK M138 m).eval X [.int n,t.d] = .bool true:=by
 obtain⟨hA,htk,hln⟩:=xQI;simp only[okAll,Bool.and_eq_true,decide_eq_true_eq] at hA;obtain⟨⟨⟨⟨hm,hwf⟩,hG⟩,hm0⟩,hm1⟩:=hA;have hp:qEC M138.fs=true:=by
  simp only[okMsg,Bool.and_eq_true] at hm;exact hm.1.1
 have e1:(DE.v 1).eval X [.int n,t.d]=t.d:=rfl;have e54:fitT.eval X [.int n,t.d] = .bool (!zFF t):=by
  rw[fitT,ev_f,zAA,zBA,ev_f,zAA,zBA,e1,zIA,X_54,yQA,yNC]
 have eV:verK.eval X [.int n,t.d] = .int (n%2):=by
  have h1:IntKind.i64.wrap n=n:=by rw[IntKind.wrap_i64];omega
  have h2:n.tmod 2=n%2:=Int.tmod_eq_emod_of_nonneg hn0;rw[verK,ev_f,zAA,zAA,zBA,ev_f,zAA,zBA,ev_v,ev_k,List.getD_cons_zero,zPA,h1];show D.int (n.tmod 2)=_;rw[h2]
 have hv0:0<=n%2:=by omega
 have hv1:n%2<=1:=by omega
 generalize n%2=v at hv0 hv1 eV;have eK0:(scE M138.fs).eval X [.int n,t.d]=encF M138.fs:=qCG _ _;have eK:(qHJ M138).eval X [.int n,t.d] = .row [encF M138.fs,.int M138.fx]:=by
  rw[qHJ,ev_f];simp only[zAA,zBA,qCG,ev_k,zIB]
 have eW:(wrK M138).eval X [.int n,t.d]=encN (zLA v 2++yDA M138.fs v false t):=by
  rw[wrK,ev_f];simp only[zAA,zBA,eK,eV,e1,zIA];rw[show ∀fs fx v t:D,X 60 [.row [fs,fx],v,t]=encN (zLA v.asInt 2++yDA (decF fs) v.asInt (xNA fx.asInt v.asInt) (toT t)) from fun _ _ _ _=>rfl,zKA,yQA,zOA,zOA,fx138]
 have hrk:=(rd138 ⟨hv0,hv1⟩).2.2;have hkey:KeyT M138 (zLA v 2++yDA M138.fs v false t) (v,given (FitS M138.fs v t)) :=
  ⟨⟨hv0,hv1⟩,qEH _ (qRG M138.fs v t hw),xUK _ _ (yGH M138.fs v t hp hw),by rw[partG M138.fs v _ t hv0 hG]⟩
 have encNB:∀s:List UInt8,∃o:Option (List UInt8),encN s=encB o/\o.getD []=s:=fun s=>by cases s with|nil=>exact⟨none,rfl,rfl⟩|cons a l=>exact⟨some (a::l),rfl,rfl⟩
 obtain⟨o,ho,hos⟩:=encNB (zLA v 2++yDA M138.fs v false t);have hkey':KeyT M138 (o.getD []) (v,given (FitS M138.fs v t)):=by rw[hos];exact hkey
 have eI:(inK M138 m).eval X [.int n,t.d]=(xUE v (tsT M138.tg M138.fs (qEA v false M138.fs (given (FitS M138.fs v t))))).d:=by
  rw[inK,ev_f];simp only[zAA,zBA,eW,zIA];rw[ho,hX];exact kX_eq hkey'
 have htok:=(xAK hkey').2.2.2.2;have eQ:(eqK M138 m).eval X [.int n,t.d] = .bool true:=by
  have hw0:∀t:T,(xUE v t).d.cells.getD 0 .nil = .int v:=fun t=>by cases t;rw[xUE,T.d];rfl
  rw[eqK,ev_f,zAA,zAA,zBA,eV,ev_f,zAA,zBA,eI,zQA,hw0,qYA,beq_self_eq_true]
 have eG:(gotK M138 m).eval X [.int n,t.d]=(given (xUE v (tsT M138.tg M138.fs (qEA v false M138.fs (given (FitS M138.fs v t)))))).d:=by
  rw[gotK,ev_f,zAA,zBA,eI,zIA,X_44,yQA]
 constructor
 ·refine⟨fun hc=>?_,trivial,trivial⟩;rw[e54,zUA,Bool.not_eq_false'] at hc;have hlen:(yDA M138.fs v false t).length+2000<=lim:=hl hc v hv0 hv1;refine⟨fun _=>⟨?_,?_,trivial⟩,?_,?_,trivial⟩
  ·simp only[Ob.holds,toldK,zAA,zBA,eK0,eV,eG];rw[qEG,zKA];exact hwf
  ·simp only[Ob.holds,zAA,zBA,eI];rw[xDI,yQA]
   have:=sm_tsT M138.tg M138.fs _ htk hln htok
   revert this
   cases tsT M138.tg M138.fs (qEA v false M138.fs (given (FitS M138.fs v t))) with
   | mk a b c d e=>intro h;rw[xUE,smT] at *;exact h
  ·simp only[Ob.holds,zAA,zBA,eW];rw[hS];refine⟨⟨(v,given (FitS M138.fs v t)),by rw[zZD];exact hkey⟩,?_⟩;rw[zZD,List.length_append,zVA];have hlim:lim=1099511627776:=rfl;omega
  ·simp only[Ob.holds,zAA,zBA,eK,eV,e1];rw[zAL,zKA,zOA,zOA,yQA,fx138];exact⟨hwf,by omega⟩
 ·rw[lawEK,ev_f,zAA,zAA,zAA,zBA,e54,ev_k,zWA];cases hc:zFF t with
  | false=>rfl
  | true =>
   rw[if_neg (by decide),ev_f,zAA,zAA,zAA,zBA,eQ,zWA,if_pos rfl,ev_f,toldK];simp only[zAA,zBA,eK0,eV,eG,e1,ev_k,zIA];rw[X_303,zKA,yQA,yQA,zOA,zUA];have h1:=told_S (tg:=M138.tg) (x:=false) (v:=v) (fun h=>by cases h) M138.fs htk hrk t;have h2:qGD M138.fs v false t (given (xUE v (tsT M138.tg M138.fs (qEA v false M138.fs (given (FitS M138.fs v t))))))=qGD M138.fs v false t (gtS M138.tg M138.fs (qEA v false M138.fs (given (FitS M138.fs v t)))):=by
    unfold gtS;cases tsT M138.tg M138.fs (qEA v false M138.fs (given (FitS M138.fs v t))) with
    | mk a b c d e=>rw[xUE,given,given,zUE,zUE];rfl
   rw[h2,h1]
theorem key_okR{P:Program}(hnm:xMA P)(hord:P.follows .mixedOrders=true){C:Cfg}(hP:C.P=P)(hctr:∀f c,C.ctr f=some c->zPB P X side f c){f:FuncId}{c:Ctr}{E:DE}{O:List Ob}(hf:xFG P f=true)
  (hpre:c.pre=true) (hnr:noRd c.res=true) (hsig:areA P [.byts] c.args=true)
  (hev:∀src:Option (List UInt8),side c.fn [encB src]->zCA X side O [encB src]/\E.eval X [encB src]=X c.fn [encB src])
  (hrun:zQJ P C f c [] E O=true):zPB P X side f c:=by
 subst hP;obtain⟨fn,b,hf,hb⟩:=zCG hf;refine⟨⟨fn,b,hf,hb⟩,fun ok w vs ds hA hok hRd hp=>?_⟩;have hs:=hp hpre;have hk:=qOE hsig hA;obtain @⟨⟩ | @⟨_,d1,_,_,k1,hk⟩:=hk;cases hk;obtain⟨a,rfl⟩:=k1;obtain⟨fn',hf',hr⟩:=xAH hrun;rw[hf] at hf';cases hf'
 obtain⟨h1,h2⟩:=hev a hs;exact callK hnm hord hctr hf hr hA hok (fun j k hjk=>by simp[lk] at hjk) h1 h2 (qZD hnr _)
theorem keyBytes_le{t:T}{B:Nat}(hb:WT t<=B)(hc:cS M138.fs*(1+B)+2000<=lim)(v:Int):(yDA M138.fs v (xNA M138.fx v) t).length+2000<=lim:=by
 have hA:=xQI.1;simp only[okAll,okMsg,Bool.and_eq_true] at hA;have h1:=xTG M138.fs v (xNA M138.fx v) t hA.1.1.1.1.1.1;have h2:cS M138.fs*(1+WT t)<=cS M138.fs*(1+B):=Nat.mul_le_mul_left _ (by omega);omega
end Go.Mx
