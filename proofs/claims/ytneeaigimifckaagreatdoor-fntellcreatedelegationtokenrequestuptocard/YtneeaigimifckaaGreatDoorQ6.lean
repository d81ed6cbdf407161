/- Part of a verified symbolic run of the program's code (no condition of its own). -/
import Derived.Test.YtneeaigimifckaaGreatDoorQ5
import Derived.Maps.RangeWalk
import Derived.Maps.OwnSet
import Derived.WalkKit
import Derived.Shelf.Bin.BEUint64
import Derived.Shelf.Bin.BEUint32
set_option linter.unusedVariables false
set_option linter.unusedSimpArgs false
namespace Go.Mx
open Go Go.Dx
mutual
def lnF:Fl->Bool
 | .mk _ _ _ _ _ _ _ sub=>lnS sub
def lnS:Option (List Fl)->Bool
 | none=>true
 | some l=>decide (l.length<=40000)&&lnL l
def lnL:List Fl->Bool
 | []=>true
 | f::r=>lnF f&&lnL r
end
theorem xDL(tg:Bool):∀(l:List Fl) (i:Nat) (y:T),(tlT tg l i y).length=l.length
 | [],_,_=>rfl
 | f::r,i,y=>by rw[tlT,List.length_cons,xDL tg r,List.length_cons]
theorem xKL{tg:Bool}{u:List Tg}(h:zTB u):decide (((tuT tg u).getD []).length<=40000)=true:=by
 have:=h.2.1
 simp only[Most] at this;cases tg with
 | false=>rfl
 | true =>
  refine decide_eq_true ?_;show ((nz _).getD []).length<=40000;rw[yMA,List.length_map];omega
mutual
theorem sm_tfT(tg:Bool):∀(f:Fl) (y:T),tlkF f=true->lnF f=true->tokF f y->smT (tfT tg f y)=true
 | .mk k a b nl g df of sub,y,hk,hl,hok=>by
  rw[tfT];by_cases h11:k=11
  ·subst h11;rw[if_pos rfl,smT];rw[tokF] at hok;rw[tlkF,Bool.and_eq_true,if_pos rfl] at hk;have hk:=hk.2;simp only[Bool.and_eq_true] at hk;rw[lnF] at hl;cases hn:y.null with
   | true=>rfl
   | false =>
    obtain⟨q1,q2⟩:=hok rfl hn;rw[if_neg (by decide)];have hsm:∀z∈y.L.map (fun z=>tsT tg sub z),smT z=true:=fun z hz=>by
     obtain⟨q,hq,rfl⟩:=List.mem_map.1 hz;exact sm_tsT tg sub q hk.2 hl (q2 q hq)
    have hlen:(y.L.map (fun z=>tsT tg sub z)).length<=40000:=by rw[List.length_map];simp only[Most] at q1;omega
    revert hsm hlen
    cases y.L.map (fun z=>tsT tg sub z) with
    | nil=>intro _ _;rfl
    | cons c q =>
     intro hsm hlen;show (smTo (some (c::q))&&_)=true;rw[smTo,decide_eq_true hlen,qSG hsm];rfl
  ·rw[if_neg h11];unfold tvT;split
   ·split <;> rfl
   ·split
    ·rfl
    ·split <;> rfl
theorem sm_tsT(tg:Bool):∀(fs:Option (List Fl)) (y:T),tlkS fs=true->lnS fs=true->tokS fs y->smT (tsT tg fs y)=true
 | none,y,hk,hl,hok=>by
  rw[tsT,smT,xKL hok];rfl
 | some l,y,hk,hl,hok=>by
  rw[lnS,Bool.and_eq_true,decide_eq_true_eq] at hl;rw[tsT,smT,xKL hok.1,smTo,xDL,decide_eq_true hl.1,qSG (sm_tlT tg l 0 y hk hl.2 hok.2)];rfl
theorem sm_tlT(tg:Bool):∀(l:List Fl) (i:Nat) (y:T),tlkL l=true->lnL l=true->tokL l i y -> ∀z∈tlT tg l i y,smT z=true
 | [],_,_,_,_,_,z,hz=>by cases hz
 | f::r,i,y,hk,hl,hok,z,hz=>by
  simp only[tlkL,Bool.and_eq_true] at hk;simp only[lnL,Bool.and_eq_true] at hl;rw[tlT] at hz;rcases List.mem_cons.1 hz with he|hz
  ·rw[he];exact sm_tfT tg f (at' y i) hk.1 hl.1 hok.1
  ·exact sm_tlT tg r (i+1) y hk.2 hl.2 hok.2 z hz
end
def verT(M:Msg):DE:=.f (.ext 58) [.v 0,.k (.int M.most)]
def wrT(M:Msg):DE:=.f (.ext 59) [specM M,verT M,.v 1]
def inT(M:Msg)(m:Nat):DE:=.f (.ext m) [verT M,wrT M]
def gotT(M:Msg)(m:Nat):DE:=.f (.ext 44) [inT M m]
def fitT:DE:=.f .not [.f (.ext 54) [.v 1]]
def toldE(M:Msg)(m:Nat):List DE:=[scE M.fs,verT M,.f .leI [.k (.int M.fx),verT M],.v 1,gotT M m]
def lawET(M:Msg)(m:Nat):DE:=.f .ite [fitT,.k (.bool true),.f (.ext 303) (toldE M m)]
def lawED(M:Msg)(m:Nat):DE:=.f .ite [fitT,.k (.bool true),.f (.ext 307) [scE M.fs,gotT M m]]
def qNG(M:Msg)(m:Nat):List Ob:=[.pre 44 [inT M m],.pre m [verT M,wrT M],.pre 59 [specM M,verT M,.v 1],.pre 58 [.v 0,.k (.int M.most)]]
def lawOT(M:Msg)(m:Nat):List Ob:=[.when fitT false (.pre 303 (toldE M m)::qNG M m),.pre 54 [.v 1]]
def lawOD(M:Msg)(m:Nat):List Ob:=[.when fitT false (.pre 307 [scE M.fs,gotT M m]::qNG M m),.pre 54 [.v 1]]
theorem qHK{M:Msg}{m:Nat}(h:yDB M=true)(hln:lnS M.fs=true){g:T->T}(hX:∀v:Int,∀src:Option (List UInt8),∀t:T,0<=v->v<=M.most->SrcT M v (src.getD []) t->X m [.int v,encB src]=(tsT M.tg M.fs (g (qEA v (zPA M.fx v) M.fs t))).d)
  (hg:∀y,tokS M.fs y->tokS M.fs (g y)) (hS:∀v a,side m [v,a]=xJD M v .nil a) (n:Int) (t:T) (hn0:0<=n) (hn1:n<256) (hw:wfT t=true)
  (hl:qBC t=true -> ∀v,0<=v->v<=M.most->(yPA M.fs v (zPA M.fx v) t).length+2000<=lim) :
  (fitT.eval X [.int n,t.d] = .bool (!qBC t))/\side 54 [t.d]/\(qBC t=true->zCA X side (qNG M m) [.int n,t.d] /\ ∃v,(0<=v/\v<=M.most)/\(verT M).eval X [.int n,t.d] = .int v /\
   (gotT M m).eval X [.int n,t.d]=(gtS M.tg M.fs (g (qEA v (zPA M.fx v) M.fs (given (FitS M.fs v t))))).d/\(scE M.fs).eval X [.int n,t.d]=encF M.fs/\wfFs M.fs=true/\rkS v (zPA M.fx v) M.fs=true/\(zPA M.fx v=true->M.tg=true)/\tlkS M.fs=true):=by
 have hT:=h;simp only[yDB,Bool.and_eq_true] at h;have hB:=h.1.1.1;have htk:=h.1.1.2;have hB':=hB;simp only[okB,Bool.and_eq_true] at hB;have hA:=hB.1.1;simp only[okAll,Bool.and_eq_true,decide_eq_true_eq] at hA;obtain⟨⟨⟨⟨hm,hwf⟩,hG⟩,hm0⟩,hm1⟩:=hA;have hp:qEC M.fs=true:=by
  simp only[yTI,Bool.and_eq_true] at hm;exact hm.1.1
 have e1:(DE.v 1).eval X [.int n,t.d]=t.d:=rfl;have e54:fitT.eval X [.int n,t.d] = .bool (!qBC t):=by
  rw[fitT,ev_f,zAA,zBA,ev_f,zAA,zBA,e1,zOA,X_54,yTA,yOC]
 refine⟨e54,trivial,fun hfit=>?_⟩;have hv0:0<=n%(M.most+1):=Int.emod_nonneg _ (by omega);have hv1:n%(M.most+1)<=M.most:=by have:=Int.emod_lt_of_pos n (b:=M.most+1) (by omega);omega
 have eV:(verT M).eval X [.int n,t.d] = .int (n%(M.most+1)):=by
  unfold verT;rw[ev_f,zAA,zAA,zBA,ev_v,ev_k,List.getD_cons_zero,zOA,X_58,zMA,zMA]
 generalize n%(M.most+1)=v at hv0 hv1 eV;have eK0:(scE M.fs).eval X [.int n,t.d]=encF M.fs:=qOG _ _;have eK:(specM M).eval X [.int n,t.d] = .row [encF M.fs,.int M.fx]:=by
  rw[specM,ev_f];simp only[zAA,zBA,qOG,ev_k,qUA]
 have eW:(wrT M).eval X [.int n,t.d]=encN (yPA M.fs v (zPA M.fx v) t):=by
  rw[wrT,ev_f];simp only[zAA,zBA,eK,eV,e1,zOA];rw[X_59,zLA,yTA,zMA,zMA]
 have hlen:=hl hfit v hv0 hv1;have hsrc:SrcT M v (yPA M.fs v (zPA M.fx v) t) (given (FitS M.fs v t)):=⟨qSH _ (zDH M.fs v t hw),zBL _ _ (ySH M.fs v t hp hw),(partG M.fs v _ t hv0 hG).symm⟩;have encNB:∀s:List UInt8,∃o:Option (List UInt8),encN s=encB o/\o.getD []=s:=fun s=>by cases s with|nil=>exact⟨none,rfl,rfl⟩|cons a l=>exact⟨some (a::l),rfl,rfl⟩
 obtain⟨o,ho,hos⟩:=encNB (yPA M.fs v (zPA M.fx v) t);have hsrc':SrcT M v (o.getD []) (given (FitS M.fs v t)):=by rw[hos];exact hsrc
 have eI:(inT M m).eval X [.int n,t.d]=(tsT M.tg M.fs (g (qEA v (zPA M.fx v) M.fs (given (FitS M.fs v t))))).d:=by
  rw[inT,ev_f];simp only[zAA,zBA,eV,eW,zOA];rw[ho];exact hX v o _ hv0 hv1 hsrc'
 have htok:=hg _ (xWE hT hv0 hv1 hsrc').2.2;refine⟨⟨?_,?_,?_,?_,trivial⟩,v,⟨hv0,hv1⟩,eV,?_,eK0,hwf,okB_rk hB' hv0 hv1,msgX hm v,htk⟩
 ·simp only[Ob.holds,zAA,zBA,eI];rw[xPI,yTA];exact sm_tsT M.tg M.fs _ htk hln htok
 ·simp only[Ob.holds,zAA,zBA,eV,eW];rw[hS];refine⟨⟨hv0,hv1⟩,given (FitS M.fs v t),hsrc.1,hsrc.2.1,?_,?_⟩
  ·rw[zYD];exact hsrc.2.2
  ·rw[zYD]
   have:(D.nil).asStr.length=0:=rfl
   have hlim:lim=1099511627776:=rfl;omega
 ·simp only[Ob.holds,zAA,zBA,eK,eV,e1];rw[yKL,zLA,zMA,zMA,yTA];exact⟨hwf,by omega⟩
 ·simp only[Ob.holds,zAA,zBA,ev_v,ev_k,List.getD_cons_zero];rw[xTI];exact⟨hn0,hm0,hm1⟩
 ·rw[gotT,ev_f,zAA,zBA,eI,zOA,X_44,yTA];rfl
theorem law_okT{M:Msg}{m:Nat}(h:yDB M=true)(hln:lnS M.fs=true)(hfx:0<=M.fx)(hX:∀v a,X m [v,a]=tX M v a)(hS:∀v a,side m [v,a]=xJD M v .nil a)(n:Int)(t:T)(hn0:0<=n)(hn1:n<256)(hw:wfT t=true)
  (hl:qBC t=true -> ∀v,0<=v->v<=M.most->(yPA M.fs v (zPA M.fx v) t).length+2000<=lim):zCA X side (lawOT M m) [.int n,t.d]/\(lawET M m).eval X [.int n,t.d] = .bool true:=by
 obtain⟨eF,s54,hr⟩:=qHK h hln (m:=m) (g:=fun y=>y) (fun v src t h0 h1 ht=>by rw[hX];exact tX_eq h h0 h1 ht) (fun y hy=>hy) hS n t hn0 hn1 hw hl;constructor
 ·refine⟨fun hc=>?_,s54,trivial⟩;rw[eF,zUA,Bool.not_eq_false'] at hc;obtain⟨r1,v,_,eV,eG,eS,hwf,_⟩:=hr hc;refine⟨?_,r1⟩;simp only[Ob.holds,toldE,zAA,zBA,eS,eV,eG];rw[qPG,zLA];exact hwf
 ·rw[lawET,ev_f,zAA,zAA,zAA,zBA,eF,ev_k,zXA];cases hc:qBC t with
  | false=>rfl
  | true =>
   obtain⟨_,v,⟨hv0,hv1⟩,eV,eG,eS,hwf,hrk,hx,htk⟩:=hr hc;have e1:(DE.v 1).eval X [.int n,t.d]=t.d:=rfl;rw[if_neg (by decide),ev_f,toldE];simp only[zAA,zBA,eS,eV,eG,e1,ev_f .leI,ev_k,xZB,zOA];rw[X_303,zLA,yTA,yTA,zMA,zUA];have hfl:decide (M.fx<=v)=zPA M.fx v:=by
    simp[zPA,hfx]
   rw[hfl,told_S hx M.fs htk hrk t]
theorem law_okD{M:Msg}{m:Nat}(h:yDB M=true)(hln:lnS M.fs=true)(hdf:defOk (M.fs.getD [])=true)(hX:∀v a,X m [v,a]=dX M v a)(hS:∀v a,side m [v,a]=xJD M v .nil a)(n:Int)(t:T)(hn0:0<=n)(hn1:n<256)(hw:wfT t=true)
  (hl:qBC t=true -> ∀v,0<=v->v<=M.most->(yPA M.fs v (zPA M.fx v) t).length+2000<=lim):zCA X side (lawOD M m) [.int n,t.d]/\(lawED M m).eval X [.int n,t.d] = .bool true:=by
 obtain⟨eF,s54,hr⟩:=qHK h hln (m:=m) (g:=setS M.fs) (fun v src t h0 h1 ht=>by rw[hX];exact dX_eq h h0 h1 ht) (fun y hy=>zZE hy) hS n t hn0 hn1 hw hl;constructor
 ·refine⟨fun hc=>?_,s54,trivial⟩;rw[eF,zUA,Bool.not_eq_false'] at hc;obtain⟨r1,_⟩:=hr hc;exact⟨trivial,r1⟩
 ·rw[lawED,ev_f,zAA,zAA,zAA,zBA,eF,ev_k,zXA];cases hc:qBC t with
  | false=>rfl
  | true =>
   obtain⟨_,v,⟨hv0,hv1⟩,eV,eG,eS,hwf,hrk,hx,htk⟩:=hr hc;rw[if_neg (by decide),ev_f];simp only[zAA,zBA,eS,eG,zOA];rw[X_307,zLA,yTA];cases hf:M.fs with
   | none=>rfl
   | some l =>
    rw[hf] at hdf;rw[Option.getD_some,def_law M.tg l _ hdf]
end Go.Mx
namespace Go.Mx
open Go Go.Dx
theorem zLJ(k:Int)(d:D):∀l:List (Int×D),(l.map (·.1)).Pairwise (· < ·)->((insM k d l).map (·.1)).Pairwise (· < ·) /\ ∀y∈insM k d l,y=(k,d)∨(y∈l/\y.1≠k)
 | [],_=>by simp[insM]
 | x::r,h=>by
  rw[List.map_cons] at h;obtain⟨h1,h2⟩:=List.pairwise_cons.1 h;have hx:∀y∈r,x.1<y.1:=fun y hy=>h1 _ (List.mem_map.2 ⟨y,hy,rfl⟩)
  obtain⟨i1,i2⟩:=zLJ k d r h2;rw[insM];split
  ·rename_i hlt;refine⟨?_,fun y hy=>?_⟩
   ·rw[List.map_cons];refine List.pairwise_cons.2 ⟨fun z hz=>?_,i1⟩;obtain⟨y,hy,rfl⟩:=List.mem_map.1 hz;rcases i2 y hy with rfl|⟨hy,_⟩
    ·exact hlt
    ·exact hx y hy
   ·rcases List.mem_cons.1 hy with rfl|hy
    ·exact .inr ⟨by simp,by omega⟩
    ·rcases i2 y hy with h|⟨h,hn⟩
     ·exact .inl h
     ·exact .inr ⟨by simp[h],hn⟩
  ·split
   ·rename_i heq;refine⟨?_,fun y hy=>?_⟩
    ·rw[List.map_cons];exact List.pairwise_cons.2 ⟨fun z hz=>by rw[<- heq];exact h1 z hz,h2⟩
    ·rcases List.mem_cons.1 hy with rfl|hy
     ·exact .inl rfl
     ·exact .inr ⟨by simp[hy],by have:=hx y hy;omega⟩
   ·refine⟨?_,fun y hy=>?_⟩
    ·rw[List.map_cons,List.map_cons];refine List.pairwise_cons.2 ⟨fun z hz=>?_,List.pairwise_cons.2 ⟨h1,h2⟩⟩;rcases List.mem_cons.1 hz with rfl|hz
     ·show k<x.1;omega
     ·have:=h1 z hz;show k<z;omega
    ·rcases List.mem_cons.1 hy with rfl|hy
     ·exact .inl rfl
     ·refine .inr ⟨hy,?_⟩;rcases List.mem_cons.1 hy with rfl|hy
      ·omega
      ·have:=hx y hy;omega
theorem zJJ(k:Int)(d:D):∀l:List (Int×D),(∀y∈l,y.1≠k)->((insM k d l).map (·.1)).Perm (k::l.map (·.1))
 | [],_=>by simp[insM]
 | x::r,h=>by
  rw[insM];split
  ·rw[List.map_cons,List.map_cons];exact((zJJ k d r (fun y hy=>h y (by simp[hy]))).cons x.1).trans (List.Perm.swap _ _ _)
  ·rw[if_neg (h x (by simp))];exact List.Perm.refl _
theorem zKJ(k:Int)(d:D):∀l:List (Int×D),(l.map (·.1)).Pairwise (· < ·)->(∃y∈l,y.1=k)->(insM k d l).map (·.1)=l.map (·.1)
 | [],_,h=>by obtain⟨y,hy,_⟩:=h;cases hy
 | x::r,h,hk=>by
  rw[List.map_cons] at h;obtain⟨h1,h2⟩:=List.pairwise_cons.1 h;obtain⟨y,hy,rfl⟩:=hk;rw[insM];rcases List.mem_cons.1 hy with rfl|hy
  ·rw[if_neg (by omega),if_pos rfl];rfl
  ·have hlt:x.1<y.1:=h1 _ (List.mem_map.2 ⟨y,hy,rfl⟩);rw[if_pos hlt,List.map_cons,List.map_cons,zKJ y.1 d r h2 ⟨y,hy,rfl⟩]
section
variable {P:Program} {ok:Nat->Prop} {w:World} {m k e r:Nat} {ds:List (Int×D)} {clock:Nat} {es:Array MapEntry}
theorem yGF(hk:P.underlying k=some (.int .u32))(hkeys:(es.toList.map (·.key)).Perm (ds.map fun d=>Value.int .u32 d.1))(hkw:∀d∈ds,(Lit.int .u32 d.1).wf=true):∀x∈es.toList,∃d∈ds,x.key = .int .u32 d.1/\keyOf P k x.key=some (.int .u32 d.1):=by
 intro x hx;have h1:x.key∈ds.map fun d=>Value.int .u32 d.1:=hkeys.subset (List.mem_map.2 ⟨x,hx,rfl⟩)
 obtain⟨d,hd,he⟩:=List.mem_map.1 h1;refine⟨d,hd,he.symm,?_⟩;rw[<- he];exact Maps.keyOf_int_mk hk (hkw d hd)
theorem yNJ{A:Type}{l:List A}{j:Nat}{a:A}(h:l[j]? = some a):l.set j a=l:=by
 apply List.ext_getElem (by simp);intro i h1 h2;rw[List.getElem_set];split
 ·rename_i e;subst e;exact(List.getElem?_eq_some_iff.1 h).2.symm
 ·rfl
theorem yRI{A:Type}(es:Array A)(j:Nat)(e0:A)(f:A->A)(h:es.toList[j]? = some e0):(es.modify j f).toList=es.toList.set j (f e0):=by
 rw[Array.toList_modify,ChangeMaps.modify_eq_set _ _ _ _ h]
theorem tags_update{n:Int}{v:Value}{dv:D}(h:TagsAt P ok w m (.map (some r)) (.map ds))(hm:P.underlying m=some (.map k e))(hn:(Lit.int .u32 n).wf=true)(hv:Rep P ok w e v dv) :
  ∃es' clock',(Instr.mapUpdate m (.map (some r)) (.int .u32 n) v).run P w = .ok () (ChangeMaps.setBlock w r (.map es' clock')) /\
   ∀(ok':Nat->Prop) (w':World),w'.heap[r]? = some (.map es' clock')->(∀b,ok b->ok' b/\w'.heap[b]? = w.heap[b]?)->TagsAt P ok' w' m (.map (some r)) (.map (insM n dv ds)):=by
 cases h with
 | map hu hk hh hkeys hkw hs hborn hclock hr =>
  rw[hm] at hu;cases hu
  rename_i clock es;have K:=Maps.int_keyed hk;have hkey:=Maps.keyOf_int_mk hk hn;have hkr:=yGF hk hkeys hkw;obtain⟨s1,s2⟩:=zLJ n dv ds hs;have hin:∀d'∈ds,d'.1≠n->True:=fun _ _ _=>trivial
  rcases K.find w hkey es.toList (fun x hx=>by obtain⟨d,_,_,h⟩:=hkr x hx;exact⟨_,h⟩) with⟨h1,h2⟩|⟨j,e0,h1,h2,h3⟩
  ·refine⟨es.push ⟨.int .u32 n,v,clock⟩,clock+1,?_,fun ok' w' hw' hok'=>?_⟩
   ·simp[Instr.mapUpdate,run_underlying hm,Go.MapKept.run_getObj_map hh,K.check w false hkey,h1,Go.MapKept.run_setObj_map _ hh,Result.andThen,ChangeMaps.setBlock]
   ·have hnew:∀y∈ds,y.1≠n:=fun y hy he=>by
     have:Value.int .u32 n∈es.toList.map (·.key):=hkeys.symm.subset (List.mem_map.2 ⟨y,hy,by rw[he]⟩)
     obtain⟨x,hx,hxe⟩:=List.mem_map.1 this;exact h2 x hx hxe
    refine .map hm hk hw' ?_ (fun d hd=>?_) s1 ?_ ?_ ?_
    ·have hp:=(zJJ n dv ds hnew).map (fun i=>Value.int .u32 i);rw[List.map_map] at hp;have e1:(ds.map fun d=>Value.int .u32 d.1)=(ds.map (·.1)).map (fun i=>Value.int .u32 i):=by rw[List.map_map];rfl
     simp only[Array.toList_push,List.map_append,List.map_cons,List.map_nil];refine List.Perm.trans ?_ hp.symm;rw[List.map_cons,<- e1];exact(hkeys.append_right _).trans (List.perm_append_singleton _ _)
    ·rcases s2 d hd with rfl|⟨hd,_⟩
     ·exact hn
     ·exact hkw d hd
    ·simp only[Array.toList_push,List.map_append,List.map_cons,List.map_nil];refine List.nodup_append.2 ⟨hborn,by simp,fun a ha b hb=>?_⟩;obtain⟨x,hx,rfl⟩:=List.mem_map.1 ha;rw[List.mem_singleton] at hb
     have:=hclock x hx
     omega
    ·intro x hx;simp only[Array.toList_push,List.mem_append,List.mem_singleton] at hx;rcases hx with hx|rfl
     ·have:=hclock x hx;omega
     ·show clock<clock+1;omega
    ·intro x hx n' d' hxn hd';simp only[Array.toList_push,List.mem_append,List.mem_singleton] at hx;rcases hx with hx|rfl
     ·have hne:n'≠n:=fun e1=>h2 x hx (by rw[hxn,e1])
      rcases s2 _ hd' with h4|⟨h4,_⟩
      ·cases h4;exact absurd rfl hne
      ·exact(hr x hx n' d' hxn h4).mono (fun b hb=>(hok' b hb).1) (fun b hb=>(hok' b hb).2)
     ·have hxn:Value.int .u32 n = .int .u32 n':=hxn;cases hxn;rcases s2 _ hd' with h4|⟨_,h4⟩
      ·cases h4;exact hv.mono (fun b hb=>(hok' b hb).1) (fun b hb=>(hok' b hb).2)
      ·exact absurd rfl h4
  ·have hj:es[j]? = some e0:=by simpa using h2
   have hlist:(es.modify j (fun e'=>{ e' with key:=.int .u32 n,val:=v })).toList=es.toList.set j { e0 with key:=.int .u32 n,val:=v }:=yRI es j e0 _ h2;have hjl:j<es.toList.length:=(List.getElem?_eq_some_iff.1 h2).1;have hkeyS:(es.toList.set j { e0 with key:=.int .u32 n,val:=v }).map (·.key)=es.toList.map (·.key):=by
    rw[List.map_set];exact yNJ (by rw[List.getElem?_map,h2];simp[h3])
   have hbornS:(es.toList.set j { e0 with key:=.int .u32 n,val:=v }).map (·.born)=es.toList.map (·.born):=by
    rw[List.map_set];exact yNJ (by rw[List.getElem?_map,h2];rfl)
   have hold:∃y∈ds,y.1=n:=by
    obtain⟨d,hd,he,_⟩:=hkr e0 (List.mem_of_getElem? h2);rw[h3] at he;cases he;exact⟨d,hd,rfl⟩
   refine⟨es.modify j (fun e'=>{ e' with key:=.int .u32 n,val:=v }),clock,?_,fun ok' w' hw' hok'=>?_⟩
   ·simp[Instr.mapUpdate,run_underlying hm,Go.MapKept.run_getObj_map hh,K.check w false hkey,h1,hj,h3,K.stays w hkey,Go.MapKept.run_setObj_map _ hh,Result.andThen,ChangeMaps.setBlock]
   ·refine .map hm hk hw' ?_ (fun d hd=>?_) s1 ?_ ?_ ?_
    ·rw[hlist,hkeyS];have e1:(ds.map fun d=>Value.int .u32 d.1)=(ds.map (·.1)).map (fun i=>Value.int .u32 i):=by rw[List.map_map];rfl
     have e2:((insM n dv ds).map fun d=>Value.int .u32 d.1)=((insM n dv ds).map (·.1)).map (fun i=>Value.int .u32 i):=by rw[List.map_map];rfl
     rw[e2,zKJ n dv ds hs hold,<- e1];exact hkeys
    ·rcases s2 d hd with rfl|⟨hd,_⟩
     ·exact hn
     ·exact hkw d hd
    ·rw[hlist,hbornS];exact hborn
    ·intro x hx
     have:x.born∈es.toList.map (·.born):=by
      rw[<- hbornS];rw[hlist] at hx;exact List.mem_map.2 ⟨x,hx,rfl⟩
     obtain⟨y,hy,hye⟩:=List.mem_map.1 this;rw[<- hye];exact hclock y hy
    ·intro x hx n' d' hxn hd';rw[hlist] at hx;obtain⟨i,hi,hxi⟩:=List.mem_iff_getElem.1 hx;rw[List.getElem_set] at hxi;split at hxi
     ·subst hxi;have hxn:Value.int .u32 n = .int .u32 n':=hxn;cases hxn;rcases s2 _ hd' with h4|⟨_,h4⟩
      ·cases h4;exact hv.mono (fun b hb=>(hok' b hb).1) (fun b hb=>(hok' b hb).2)
      ·exact absurd rfl h4
     ·rename_i hne;have hil:i<es.toList.length:=by rw[List.length_set] at hi;exact hi
      have hxm:x∈es.toList:=hxi▸List.getElem_mem hil;have hne2:n'≠n:=fun e1=>by
       have hnd:(es.toList.map (·.key)).Nodup:=by
        refine hkeys.nodup_iff.2 ?_
        have:(ds.map (·.1)).Nodup:=hs.imp (fun {a b} h=>by omega)
        have e1:(ds.map fun d=>Value.int .u32 d.1)=(ds.map (·.1)).map (fun i=>Value.int .u32 i):=by rw[List.map_map];rfl
        rw[e1];exact List.Pairwise.map _ (fun a b (hab:a≠b) hc=>hab (by cases hc;rfl)) this
       have hi2:i<(es.toList.map (·.key)).length:=by rw[List.length_map];exact hil
       have hj2:j<(es.toList.map (·.key)).length:=by rw[List.length_map];exact hjl
       have:(es.toList.map (·.key))[i]=(es.toList.map (·.key))[j]:=by
        rw[List.getElem_map,List.getElem_map,hxi,hxn,e1]
        have:=(List.getElem?_eq_some_iff.1 h2).2
        rw[this,h3]
       exact hne ((List.getElem_inj hnd).1 this).symm
      rcases s2 _ hd' with h4|⟨h4,_⟩
      ·cases h4;exact absurd rfl hne2
      ·exact(hr x hxm n' d' hxn h4).mono (fun b hb=>(hok' b hb).1) (fun b hb=>(hok' b hb).2)
end
end Go.Mx
namespace Go.Mx
open Go Go.Dx
def qIE(tb tU nt:Nat):St:={ env:=[(0,.i .u32 (.v 0)),(1,.x 1),(2,.oa 0 0)],vars:=[(1,⟨.set tb,.v 1⟩),(2,⟨.own tU,.v 2⟩),(10,⟨.dead,.k .nil⟩),(11,⟨.dead,.k .nil⟩),(12,⟨.dead,.k .nil⟩),(13,⟨.dead,.k .nil⟩)],objs:=[(0,[.x 10,.x 11,.x 12,.x 13,.x 2])],loops:=[],obl:=[],lvl:=3,nx:=20,nt:=nt }
noncomputable def xJL(tU:Nat)(de:DE)(os:List Ob):List Out->Bool
 | [o]=>zCF [o]&&o.pc.isEmpty&&qCC o.st.obl os&&(match lk 0 o.st.objs with
  | some [.x 10,.x 11,.x 12,.x 13,.x m]=>(match lk m o.st.vars with
   | some ⟨.own t,d⟩=>decide (t=tU)&&d.beq de
   | _=>false)
  | _=>false)
 | _=>false
noncomputable def xVI(C:Cfg)(tb tU f:Nat)(de:DE)(os:List Ob):Bool :=
 match C.P.funcs[f]? with
 | some fn=>match fn.body with
  | some body=>fn.results.isEmpty&&decide (3<=fn.ntmps)&&(match exec C 100000 8 [body] (qIE tb tU fn.ntmps) with
   | some outs=>xJL tU de os outs
   | none=>false)
  | none=>false
 | none=>false
def treeG(vv v a0 a1 a2 a3:Value)(B:Nat)(ex:Nat->Prop):Gh:={ rv:=fun i=>if i=1 then vv else if i=2 then v else if i=10 then a0 else if i=11 then a1 else if i=12 then a2 else a3,rb:=fun _=>B,rh:=fun _=>(0,0),ex:=ex }
section
variable {C:Cfg} {ok:Nat->Prop} {w:World} {tb tU f B ty:Nat} {key:Int} {v vv a0 a1 a2 a3:Value} {dv acc:D} {de:DE} {os:List Ob}
theorem tree_mem{nt:Nat}(hnt:3<=nt)(hB:w.heap[B]? = some (.cells #[a0,a1,a2,a3,v] ty (0,0)))(hown:ySA C.P ok w tU v acc)(hval:Rep C.P ok w tb vv dv)(hkey:(Lit.int .u32 key).wf=true)(hone:∀u∈[a0,a1,a2,a3,v],u.oneCell'=true)
  (hok:∀b,ok b->b<w.heap.size/\b≠B/\v.ownBlock≠some b) (hvB:v.ownBlock≠some B) :
  Mem C.P X ⟨w,fun b=>b=B∨v.ownBlock=some b,fun b=>b<w.heap.size /\ ¬ok b /\ ¬(b=B∨v.ownBlock=some b)⟩ [.int key,dv,acc] (qIE tb tU nt) (treeG vv v a0 a1 a2 a3 B fun b=>b<w.heap.size /\ ¬ok b /\ ¬(b=B∨v.ownBlock=some b)) w /\
   Env X [.int key,dv,acc] (qIE tb tU nt) (treeG vv v a0 a1 a2 a3 B fun b=>b<w.heap.size /\ ¬ok b /\ ¬(b=B∨v.ownBlock=some b)) { tmps:=#[.int .u32 key,vv,.pointer (some ⟨B,0,none⟩)]++Array.replicate (nt-(#[Value.int .u32 key,vv,.pointer (some ⟨B,0,none⟩)]:Array Value).size) undef,defers:=[] }:=by
 generalize hg:(treeG vv v a0 a1 a2 a3 B fun b=>b<w.heap.size /\ ¬ok b /\ ¬(b=B∨v.ownBlock=some b))=g;have hvars:∀n vi,lk n (qIE tb tU nt).vars=some vi->(n=1/\vi=⟨.set tb,.v 1⟩)∨(n=2/\vi=⟨.own tU,.v 2⟩)∨vi.vt = .dead:=fun n vi hn=>by
  simp only[qIE,lk] at hn;split at hn
  ·rename_i h;rw[beq_iff_eq] at h;cases hn;exact .inl ⟨h,rfl⟩
  ·split at hn
   ·rename_i h;rw[beq_iff_eq] at h;cases hn;exact .inr (.inl ⟨h,rfl⟩)
   ·split at hn
    ·cases hn;exact .inr (.inr rfl)
    ·split at hn
     ·cases hn;exact .inr (.inr rfl)
     ·split at hn
      ·cases hn;exact .inr (.inr rfl)
      ·split at hn
       ·cases hn;exact .inr (.inr rfl)
       ·cases hn
 have hobjs:∀o cs,lk o (qIE tb tU nt).objs=some cs->o=0/\cs=[.x 10,.x 11,.x 12,.x 13,.x 2]:=fun o cs ho=>by
  simp only[qIE,lk] at ho;split at ho
  ·rename_i h;rw[beq_iff_eq] at h;cases ho;exact⟨h,rfl⟩
  ·cases ho
 have e1:g.rv 1=vv:=by rw[<- hg];rfl
 have e2:g.rv 2=v:=by rw[<- hg];rfl
 have eb:∀o,g.rb o=B:=fun o=>by rw[<- hg];rfl
 have ee:∀b,g.ex b=(b<w.heap.size /\ ¬ok b /\ ¬(b=B∨v.ownBlock=some b)):=fun b=>by rw[<- hg];rfl
 have ed:dens X [.int key,dv,acc] g [.x 10,.x 11,.x 12,.x 13,.x 2]=[a0,a1,a2,a3,v]:=by rw[<- hg];rfl
 have hact:∀b,Actv (qIE tb tU nt) g b->b=B∨v.ownBlock=some b:=by
  rintro b (⟨o,cs,h1,h2⟩|⟨n,vi,h1,h2⟩)
  ·rw[eb] at h2;exact .inl h2.symm
  ·rcases hvars n vi h1 with⟨rfl,rfl⟩|⟨rfl,rfl⟩|hd
   ·simp[zGA] at h2
   ·rw[e2] at h2;exact .inr h2
   ·rw[hd] at h2;simp[zGA] at h2
 have hokS:∀b,ok b->okOf (qIE tb tU nt) g w b:=fun b hb=>by
  obtain⟨h1,h2,h3⟩:=hok b hb;exact⟨h1,fun e=>by rcases hact b e with h|h;exact h2 h;exact h3 h,fun e=>by rw[ee] at e;exact e.2.1 hb⟩
 refine⟨⟨fun n vi hn=>?_,fun o cs ho=>?_,fun o o' c c' h1 h2 _=>by rw[(hobjs o c h1).1,(hobjs o' c' h2).1],fun n m vi vj b h1 h2 h3 h4=>?_,fun o n c vi h1 h2 h3=>?_,fun b hb=>.inr (hact b hb),fun l hl=>by simp[qIE] at hl,Fr.refl _ w,rfl,⟨fun b hb=>by rw[ee] at hb;exact⟨hb.1,hb.2.2⟩,fun b hb=>by rw[ee];exact hb⟩⟩,⟨fun s sv hs=>?_,rfl,?_⟩⟩
 ·rcases hvars n vi hn with⟨rfl,rfl⟩|⟨rfl,rfl⟩|hd
  ·rw[e1];exact hval.mono hokS (fun _ _=>rfl)
  ·rw[e2];exact hown.mono hokS (fun _ _=>rfl) (fun _ _=>rfl)
  ·rw[hd];trivial
 ·obtain⟨rfl,rfl⟩:=hobjs o cs ho;refine⟨⟨ty,?_⟩,?_,trivial,trivial,trivial,trivial,trivial,trivial⟩
  ·rw[eb,ed];exact hB
  ·rw[ed];exact hone
 ·rcases hvars n vi h1 with⟨rfl,rfl⟩|⟨rfl,rfl⟩|hd
  ·simp[zGA] at h3
  ·rcases hvars m vj h2 with⟨rfl,rfl⟩|⟨rfl,rfl⟩|hd
   ·simp[zGA] at h4
   ·rfl
   ·rw[hd] at h4;simp[zGA] at h4
  ·rw[hd] at h3;simp[zGA] at h3
 ·rcases hvars n vi h2 with⟨rfl,rfl⟩|⟨rfl,rfl⟩|hd
  ·simp[zGA] at h3
  ·rw[e2,eb] at h3;exact hvB h3
  ·rw[hd] at h3;simp[zGA] at h3
 ·simp only[qIE,lk] at hs;split at hs
  ·rename_i h;rw[beq_iff_eq] at h;cases hs;subst h
   exact⟨(Array.getElem?_append_left (by simp)).trans rfl,key,rfl,hkey⟩
  ·split at hs
   ·rename_i h;rw[beq_iff_eq] at h;cases hs;subst h
    refine⟨(Array.getElem?_append_left (by simp)).trans ?_,trivial⟩;simp only[SV.den];rw[e1];rfl
   ·split at hs
    ·rename_i h;rw[beq_iff_eq] at h;cases hs;subst h
     refine⟨(Array.getElem?_append_left (by simp)).trans ?_,trivial⟩;simp only[SV.den];rw[eb];rfl
    ·cases hs
 ·simp[qIE];omega
theorem zWK(hnm:xHA C.P)(hord:C.P.follows .mixedOrders=true)(hctr:∀f c,C.ctr f=some c->qTA C.P X side f c)(hrun:xVI C tb tU f de os=true)
  (hB:w.heap[B]? = some (.cells #[a0,a1,a2,a3,v] ty (0,0))) (hone:∀u∈[a0,a1,a2,a3],u.oneCell'=true) (hown:ySA C.P ok w tU v acc) (hval:Rep C.P ok w tb vv dv) (hkey:(Lit.int .u32 key).wf=true)
  (hok:∀b,ok b->b<w.heap.size/\b≠B/\v.ownBlock≠some b) (hvB:v.ownBlock≠some B) (hob:zCA X side os [.int key,dv,acc]) :
  Calls C.P f #[.int .u32 key,vv,.pointer (some ⟨B,0,none⟩)] w fun e w'=>e = .returned (.tuple #[])/\Fr (fun b=>b=B∨v.ownBlock=some b) w w' /\
   ∃v' ty',w'.heap[B]? = some (.cells #[a0,a1,a2,a3,v'] ty' (0,0))/\v'.ownBlock≠some B/\(∀b,v'.ownBlock=some b->b<w'.heap.size/\(w.heap.size<=b∨v.ownBlock=some b)) /\
    ∀ok':Nat->Prop,(∀b,ok b->ok' b)->(∀b,(w.heap.size<=b∨v.ownBlock=some b)->b<w'.heap.size->v'.ownBlock≠some b->ok' b)->ySA C.P ok' w' tU v' (de.eval X [.int key,dv,acc]):=by
 unfold xVI at hrun;split at hrun
 rotate_left
 ·cases hrun
 rename_i fn hf;split at hrun
 rotate_left
 ·cases hrun
 rename_i body hbody;simp only[Bool.and_eq_true,decide_eq_true_eq] at hrun;obtain⟨⟨hres,hnt⟩,hrun⟩:=hrun;split at hrun
 rotate_left
 ·cases hrun
 rename_i outs houts;unfold xJL at hrun;split at hrun
 rotate_left
 ·cases hrun
 rename_i o;simp only[Bool.and_eq_true] at hrun;obtain⟨⟨⟨hret,hpc⟩,hobl⟩,hfin⟩:=hrun;have hobl:=xQB hobl;split at hfin
 rotate_left
 ·cases hfin
 rename_i m hobj;split at hfin
 rotate_left
 ·cases hfin
 rename_i t d hvar;simp only[Bool.and_eq_true,decide_eq_true_eq] at hfin;obtain⟨rfl,hd⟩:=hfin;have hd:=DE.beq_eq hd;subst hd;have hone':∀u∈[a0,a1,a2,a3,v],u.oneCell'=true:=fun u hu=>by
  simp only[List.mem_cons,List.not_mem_nil,or_false] at hu;rcases hu with h|h|h|h|h
  ·exact hone u (by simp[h])
  ·exact hone u (by simp[h])
  ·exact hone u (by simp[h])
  ·exact hone u (by simp[h])
  ·rw[h];exact hown.one1
 obtain⟨hm,he⟩:=tree_mem (C:=C) hnt hB hown hval hkey hone' hok hvB;have hsound:=yME hnm hord hctr 100000 8;refine calls_of_wp hf hbody (zWA ?_);refine hsound.sound _ _ [body] _ [o] _ w _ hm he houts (fun o' ho' _=>?_) _ (fun o' ho' _ g' w' a' k1 k2 k3=>?_)
 ·rw[List.mem_singleton] at ho';subst ho'
  rw[hobl];exact hob
 ·rw[List.mem_singleton] at ho';subst ho'
  have hfr:Fr (fun b=>b=B∨v.ownBlock=some b) w w':=k2.fr;have hobO:=k2.ob 0 _ hobj;obtain⟨⟨ty',hcell⟩,_,_⟩:=hobO;have hrb:g'.rb 0=B:=(k1.rb 0 _ rfl).2;have q0:g'.rv 10=a0:=(k1.rv 10 ⟨.dead,.k .nil⟩ rfl).2.1;have q1:g'.rv 11=a1:=(k1.rv 11 ⟨.dead,.k .nil⟩ rfl).2.1;have q2:g'.rv 12=a2:=(k1.rv 12 ⟨.dead,.k .nil⟩ rfl).2.1;have q3:g'.rv 13=a3:=(k1.rv 13 ⟨.dead,.k .nil⟩ rfl).2.1;rw[hrb] at hcell;simp only[dens,SV.den,q0,q1,q2,q3] at hcell;have hownv:ySA C.P (okOf o'.st g' w') w' t (g'.rv m) (d.eval X [.int key,dv,acc]):=k2.va m _ hvar;have hres0:fn.results = #[]:=by simpa using hres
  have hrun:(results fn a'.tmps).run C.P w' = .ok (.tuple #[]) w':=by
   simp[results,hres0]
  have hactm:∀b,(g'.rv m).ownBlock=some b->Actv o'.st g' b:=fun b hb=>.inr ⟨m,_,hvar,hb⟩
  have hou:∀ok':Nat->Prop,(∀b,ok b->ok' b)->(∀b,(w.heap.size<=b∨v.ownBlock=some b)->b<w'.heap.size->(g'.rv m).ownBlock≠some b->ok' b)->ySA C.P ok' w' t (g'.rv m) (d.eval X [.int key,dv,acc]):=fun ok' h1 h2=>by
   refine hownv.mono (fun b hb=>?_) (fun _ _=>rfl) (fun _ _=>rfl);obtain⟨b1,b2,b3⟩:=hb;have hnm:(g'.rv m).ownBlock≠some b:=fun e=>b2 (hactm b e)
   by_cases hlt:b<w.heap.size
   ·by_cases hbo:ok b
    ·exact h1 b hbo
    ·have hnB:b≠B:=fun e=>b2 (.inl ⟨0,_,hobj,by rw[hrb,e]⟩)
     by_cases hv:v.ownBlock=some b
     ·exact h2 b (.inr hv) b1 hnm
     ·exact absurd (k2.ex.2 b ⟨hlt,hbo,fun e=>by rcases e with e|e;exact hnB e;exact hv e⟩) b3
   ·exact h2 b (.inl (by omega)) b1 hnm
  have hpost:a'.defers=[] /\ ∃v1,(results fn a'.tmps).run C.P w' = .ok v1 w'/\(Ending.returned v1 = .returned (.tuple #[])/\Fr (fun b=>b=B∨v.ownBlock=some b) w w' /\
    ∃v' ty',w'.heap[B]? = some (.cells #[a0,a1,a2,a3,v'] ty' (0,0))/\v'.ownBlock≠some B/\(∀b,v'.ownBlock=some b->b<w'.heap.size/\(w.heap.size<=b∨v.ownBlock=some b)) /\
    ∀ok':Nat->Prop,(∀b,ok b->ok' b)->(∀b,(w.heap.size<=b∨v.ownBlock=some b)->b<w'.heap.size->v'.ownBlock≠some b->ok' b)->ySA C.P ok' w' t v' (d.eval X [.int key,dv,acc])):=by
   refine⟨k3.df,_,hrun,rfl,hfr,g'.rv m,ty',hcell,?_,fun b hb=>?_,hou⟩
   ·intro e1;exact k2.ov 0 m _ _ hobj hvar (by rw[hrb];exact e1)
   ·have hA:Actv o'.st g' b:=hactm b hb;refine⟨k2.act_lt hA,?_⟩;rcases k2.lo b hA with h|h
    ·exact .inl h
    ·rcases h with rfl|h
     ·exact absurd hb (fun e1=>k2.ov 0 m _ _ hobj hvar (by rw[hrb];exact e1))
     ·exact .inr h
  rcases qKC hret o' (by simp) with hx|hx
  ·rw[hx];exact hpost
  ·rw[hx];exact hpost
end
end Go.Mx
namespace Go.Mx
open Go Go.Dx
def xLI(v:Value):Option (DataW Value×List MemPlace):=some (.held v,[])
section
variable {P:Program} {ok:Nat->Prop} {w:World} {m k e r:Nat} {ds:List (Int×D)}
theorem yUL:∀(l:List Int) (lo hi:Int),l.Pairwise (· < ·)->(∀x∈l,lo<=x/\x<hi)->lo<=hi->(l.length:Int)<=hi-lo
 | [],lo,hi,_,_,h=>by simp;omega
 | x::l,lo,hi,hp,hb,h=>by
  obtain⟨h1,h2⟩:=List.pairwise_cons.1 hp;have hx:=hb x (by simp)
  have:=yUL l (x+1) hi h2 (fun y hy=>⟨by have:=h1 y hy;omega,(hb y (by simp[hy])).2⟩) (by omega)
  simp only[List.length_cons];omega
theorem tags_few(hs:(ds.map (·.1)).Pairwise (· < ·))(hw:∀d∈ds,(Lit.int .u32 d.1).wf=true):ds.length<=4294967296:=by
 have:=yUL (ds.map (·.1)) 0 4294967296 hs (fun x hx=>by
  obtain⟨d,hd,rfl⟩:=List.mem_map.1 hx
  have:=hw d hd
  simp[Lit.wf,IntKind.min,IntKind.max,IntKind.signed,IntKind.bits] at this;omega) (by omega)
 rw[List.length_map] at this;omega
theorem yVG(h:TagsAt P ok w m (.map (some r)) (.map ds)):(ds.map (·.1)).Pairwise (· < ·)/\(∀d∈ds,(Lit.int .u32 d.1).wf=true)/\ds.length<=4294967296:=by
 cases h with
 | map hu hk hh hkeys hkw hs hborn hclock hr=>exact⟨hs,hkw,tags_few hs hkw⟩
theorem xAL(h:TagsAt P ok w m (.map (some r)) (.map ds))(hm:P.underlying m=some (.map k e)):∃D:DataW Value,w.ownsMap P k xLI r ds.length D/\Maps.size D=ds.length /\ ∀x,x∈ds.map (·.1)↔Maps.has D (.int .u32 x)=true:=by
 obtain⟨_,_,hfew⟩:=yVG h;cases h with
 | map hu hk hh hkeys hkw hs hborn hclock hr =>
  rw[hm] at hu;cases hu
  rename_i clock es;have hsz:es.size=ds.length:=by
   have:=hkeys.length_eq
   simpa using this
  have hkr:=yGF hk hkeys hkw;have hnd:(es.toList.map (·.key)).Nodup:=by
   refine hkeys.nodup_iff.2 ?_
   have:(ds.map (·.1)).Nodup:=hs.imp (fun {a b} h=>by omega)
   have e1:(ds.map fun d=>Value.int .u32 d.1)=(ds.map (·.1)).map (fun i=>Value.int .u32 i):=by rw[List.map_map];rfl
   rw[e1];exact List.Pairwise.map _ (fun a b (hab:a≠b) hc=>hab (by cases hc;rfl)) this
  have hrd:∀x∈es.toList,∀d,x.key = .int .u32 d->(Lit.int .u32 d).wf=true->WideElems.rd P k xLI x=some (.int .u32 d,.held x.val):=fun x hx d hd hw=>by
   have:keyOf P k x.key=some (.int .u32 d):=by rw[hd];exact Maps.keyOf_int_mk hk hw
   simp[WideElems.rd,this,xLI]
  have F:WideElems.Fit P k xLI es clock:=by
   refine⟨by rw[hsz];unfold maxLen;omega,(MapKept.stamped_iff es clock).2 ⟨hclock,hborn,List.pairwise_map.1 hnd⟩,fun x hx=>?_⟩;obtain⟨d,hd,he,_⟩:=hkr x hx;exact⟨_,hrd x hx d.1 he (hkw d hd)⟩
  refine⟨_,⟨es,clock,hh,F,by rw[hsz];exact Nat.le_refl _,rfl⟩,by simp[Maps.size,length_sorted,hsz],fun x=>?_⟩;have hrg:∀y∈es.toList,∀d,y.key = .int .u32 d->(Lit.int .u32 d).wf=true->(WideElems.rg P k xLI y).1 = .int .u32 d:=fun y hy d hd hw=>by
   rw[WideElems.rg_of (hrd y hy d hd hw)]
  rw[Maps.has_eq,List.any_eq_true];constructor
  ·intro hx;obtain⟨d,hd,rfl⟩:=List.mem_map.1 hx
   have:Value.int .u32 d.1∈es.toList.map (·.key):=hkeys.symm.subset (List.mem_map.2 ⟨d,hd,rfl⟩)
   obtain⟨y,hy,hye⟩:=List.mem_map.1 this;refine⟨WideElems.rg P k xLI y,mem_sorted.2 (List.mem_map.2 ⟨y,hy,rfl⟩),?_⟩;rw[hrg y hy d.1 hye (hkw d hd)];exact WideAt.sameKey_self trivial
  ·rintro⟨p,hp,hpk⟩;obtain⟨y,hy,rfl⟩:=List.mem_map.1 (mem_sorted.1 hp);obtain⟨d,hd,he,_⟩:=hkr y hy;rw[hrg y hy d.1 he (hkw d hd)] at hpk
   have:=WideAt.sameKey_eq hpk
   cases this;exact List.mem_map.2 ⟨d,hd,rfl⟩
theorem xUI{n:Int}{d:D}(h:TagsAt P ok w m (.map (some r)) (.map ds))(hm:P.underlying m=some (.map k e))(hn:(n,d)∈ds) :
  ∃v,Rep P ok w e v d /\ ∀w':World,w'.heap[r]? = w.heap[r]? -> (Instr.lookup m (.map (some r)) (.int .u32 n) false).run P w' = .ok v w':=by
 cases h with
 | map hu hk hh hkeys hkw hs hborn hclock hr =>
  rw[hm] at hu;cases hu
  rename_i clock es;have K:=Maps.int_keyed hk;have hkey:=Maps.keyOf_int_mk hk (hkw _ hn);have hkr:=yGF hk hkeys hkw;have hmem:Value.int .u32 n∈es.toList.map (·.key):=hkeys.symm.subset (List.mem_map.2 ⟨(n,d),hn,rfl⟩);obtain⟨y,hy,hye⟩:=List.mem_map.1 hmem;have hfind:=fun w'=>K.find w' hkey es.toList (fun x hx=>by obtain⟨d,_,_,h⟩:=hkr x hx;exact⟨_,h⟩)
  refine⟨y.val,hr y hy n d hye hn,fun w' hw'=>?_⟩;rcases hfind w' with⟨_,h2⟩|⟨j,e0,h1,h2,h3⟩
  ·exact absurd hye (h2 y hy)
  ·have hnd:(es.toList.map (·.key)).Nodup:=by
    refine hkeys.nodup_iff.2 ?_
    have:(ds.map (·.1)).Nodup:=hs.imp (fun {a b} h=>by omega)
    have e1:(ds.map fun d=>Value.int .u32 d.1)=(ds.map (·.1)).map (fun i=>Value.int .u32 i):=by rw[List.map_map];rfl
    rw[e1];exact List.Pairwise.map _ (fun a b (hab:a≠b) hc=>hab (by cases hc;rfl)) this
   have hje:y=e0:=by
    obtain⟨i,hi,hyi⟩:=List.mem_iff_getElem.1 hy;have hj:=(List.getElem?_eq_some_iff.1 h2).1;have hje0:=(List.getElem?_eq_some_iff.1 h2).2
    have:(es.toList.map (·.key))[i]'(by rw[List.length_map];exact hi)=(es.toList.map (·.key))[j]'(by rw[List.length_map];exact hj):=by
     rw[List.getElem_map,List.getElem_map,hyi,hje0,hye,h3]
    have hij:=(List.getElem_inj hnd).1 this;subst hij;rw[<- hyi,<- hje0]
   subst hje;simp[Instr.lookup,run_underlying hm,Go.MapKept.run_getObj_map (hw'.trans hh),K.check w' _ hkey,h1,Result.andThen]
end
def tb(y:Int×D):List UInt8:=tagB y.1.toNat y.2.asStr
end Go.Mx
namespace Go.Mx
open Go Go.Dx Go.RowKit
def deC:DE:=.f .app [.v 2,.f .mklist [.f .mkrow [.v 0,.f .app [.k .nil,.v 1]]]]
def osC:List Ob:=[.room deC 32,.room (.f .app [.k .nil,.v 1]) 1]
def tgD(x:Int×D):D:=.row [.int x.1,D.appd .nil x.2]
def accD(l:List (Int×D)):D:=D.appd .nil (.list (l.map tgD))
theorem yJK(l:List (Int×D))(x:Int×D):(accD l).appd (.list [tgD x])=accD (l++[x]):=by
 cases l with
 | nil=>rfl
 | cons a l=>simp[accD,D.appd]
theorem accD_len(l:List (Int×D)):(accD l).len=l.length:=by
 cases l with
 | nil=>rfl
 | cons a l=>simp[accD,D.appd,D.len]
theorem qVJ{val:Option (List UInt8)}:(D.appd .nil (encB val)).len=(val.getD []).length:=by
 cases val with
 | none=>rfl
 | some s=>cases s <;> rfl
theorem evClo{key:Int}{val:Option (List UInt8)}{l:List (Int×D)}(hl:l.length+1<=100001)(hv:(val.getD []).length<=lim) :
  zCA X side osC [.int key,encB val,accD l]/\deC.eval X [.int key,encB val,accD l]=accD (l++[(key,encB val)]):=by
 have e:deC.eval X [.int key,encB val,accD l]=accD (l++[(key,encB val)]):=by
  simp only[deC,ev_f,zAA,zBA,ev_v,ev_k,List.getD_cons_zero,List.getD_cons_succ,yVA,qUA];exact yJK l (key,encB val)
 refine⟨⟨?_,?_,trivial⟩,e⟩
 ·show (deC.eval X [.int key,encB val,accD l]).len*32<=LIM/\(deC.eval X [.int key,encB val,accD l]).len<=maxLen;rw[e,accD_len,List.length_append,List.length_singleton];exact⟨by simp only[LIM];omega,by simp only[maxLen];omega⟩
 ·show (D.appd .nil (encB val)).len*1<=LIM/\(D.appd .nil (encB val)).len<=maxLen;rw[qVJ];exact xAB hv
def EachOk(P:Program)(f g m u:Nat):Prop:=∀(W:World) (b off r n B:Nat) (D:DataW Value) (ks:List Int) (_:∀x,x∈ks↔Maps.has D (.int .u32 x)=true) (_:ks.Pairwise (· < ·)) (M:Nat->Prop) (_:∀x,M x->x<W.heap.size) (_:¬M b)
 (R:World->Nat->World->Prop) (_:∀ws,Below W.heap.size W ws->R ws 0 ws) (_:∀ws k wl,R ws k wl->Fr M ws wl)
 (_:∀ws k wl,Below W.heap.size W ws->k<ks.length->R ws k wl -> ∃vk,(Instr.lookup m (.map (some r)) (.int .u32 (ks.getD k 0)) false).run P wl = .ok vk wl/\Calls P g #[.int .u32 (ks.getD k 0),vk,.pointer (some ⟨B,0,none⟩)] wl fun e w'=>e = .returned (.tuple #[])/\R ws (k+1) w')
 (_:W.cell? ⟨b,off,none⟩=some (.map (some r))) (_:W.ownsMap P u xLI r n D) (_:0<Maps.size D) (_:Maps.size D<=4294967296) (_:b<W.heap.size) (_:B<W.heap.size),
 Calls P f #[.pointer (some ⟨b,off,none⟩),.func (.func g) #[] #[.pointer (some ⟨B,0,none⟩)]] W fun e w'=>e = .returned (.tuple #[]) /\ ∃ws,Below W.heap.size W ws/\R ws ks.length w'
def EachNo(P:Program)(f g m ti:Nat):Prop:=∀(w:World) (b off B:Nat) (q:Option Nat) (_:w.cell? ⟨b,off,none⟩=some (.map q)) (_:(Builtin.len_ #[m] ti #[.map q]).run P w = .ok (goInt 0) w),
 Calls P f #[.pointer (some ⟨b,off,none⟩),.func (.func g) #[] #[.pointer (some ⟨B,0,none⟩)]] w fun e w2=>e = .returned (.tuple #[])/\w2=w
theorem five{cs:Array Value}{v:Value}(hn:cs.size=5)(hv:cs[4]? = some v):∃a0 a1 a2 a3,cs = #[a0,a1,a2,a3,v]:=by
 obtain⟨l⟩:=cs
 match l,hn with
 | [a,b,c,d,e],_ =>
  simp only[List.getElem?_toArray,List.getElem?_cons_succ,List.getElem?_cons_zero,Option.some.injEq] at hv;subst hv;exact⟨a,b,c,d,rfl⟩
theorem own_nil{P:Program}{ok:Nat->Prop}{w:World}{t:TypeId}{v:Value}(h:ySA P ok w t v .nil):v = .slice none 0 0:=by
 obtain⟨e,i,n,xs,_,_,_,h4⟩:=h;cases h4 with
 | nil hv=>exact hv
theorem each_ctr{C:Cfg}{f m u tb tU pt ti:Nat}{gs:List Nat}(hnm:xHA C.P)(hord:C.P.follows .mixedOrders=true)(hctr:∀f c,C.ctr f=some c->qTA C.P X side f c)
  (hbody:∃fn b,C.P.funcs[f]? = some fn/\fn.body=some b) (hum:C.P.underlying m=some (.map u tb)) (hby:isBy C.P tb=true) (hsU:zDC C.P tU=true)
  (hno:∀g,gs.elem g=true->EachNo C.P f g m ti) (hea:∀g,gs.elem g=true->EachOk C.P f g m u) (hrun:∀g,gs.elem g=true->xVI C tb tU g deC osC=true)
  (hl0:∀w,(Builtin.len_ #[m] ti #[.map none]).run C.P w = .ok (goInt 0) w)
  (hl1:∀(w:World) (r clock:Nat) (es:Array MapEntry),w.heap[r]? = some (.map es clock)->(Builtin.len_ #[m] ti #[.map (some r)]).run C.P w = .ok (goInt es.size) w) :
  qTA C.P X side f ⟨[.mcell pt m,.ccell gs 4 tU],.ccell tU,300,true⟩:=by
 obtain⟨eU,iU,huU,hiU⟩:=zMB hsU;refine⟨hbody,fun ok w vs ds hA hok hRd hp=>?_⟩;obtain @⟨⟩ | @⟨_,v1,d1,_,_,_,h1,hA⟩:=hA;obtain @⟨⟩ | @⟨_,v2,d2,_,_,_,h2,hA⟩:=hA;cases hA;cases h2 with
 | ccell hf hh hc hn h2 hne hone =>
 rename_i g B mv ty cs;cases h1 with
 | mcell hc1 h =>
 rename_i b off mv1;obtain⟨hd2,hfew0,hvl⟩:d2 = .nil/\(mapL d1).length<=100000 /\ ∀x∈mapL d1,x.2.len<=lim:=hp rfl;subst hd2;have hmv:=own_nil h2;subst hmv;obtain⟨a0,a1,a2,a3,rfl⟩:=five hn hc;have hcB:w.cell? ⟨B,4,none⟩=some (.slice none 0 0):=by simp[World.cell?,hh]
 have hWr:∀x,Wr w [AK.mcell pt m,.ccell gs 4 tU] [.pointer (some ⟨b,off,none⟩),.func (.func g) #[] #[.pointer (some ⟨B,0,none⟩)]] x↔x=B:=fun x=>by
  constructor
  ·intro hx;simp only[Wr,wrA,or_false,false_or] at hx;obtain⟨a,ha,hx⟩:=hx;simp only[List.getElem?_toArray,List.getElem?_cons_zero,Option.some.injEq,Value.pointer.injEq] at ha;subst ha;rcases hx with hx|⟨v,hv,hx⟩
   ·exact hx
   ·rw[hcB] at hv;cases hv;simp[Value.ownBlock] at hx
  ·rintro rfl;exact .inr (.inl ⟨_,rfl,.inl rfl⟩)
 have hBl:B<w.heap.size:=(Array.getElem?_eq_some_iff.1 hh).1;have hbl:b<w.heap.size:=by
  cases hhb:w.heap[b]? with
  | none=>simp[World.cell?,hhb] at hc1
  | some o=>exact(Array.getElem?_eq_some_iff.1 hhb).1
 have hbB:b≠B:=fun e=>hRd b (.inl (.inl rfl)) ((hWr b).2 e)
 have hokB:∀x,ok x->x<w.heap.size/\x≠B:=fun x hx=>⟨(hok x hx).1,fun e=>(hok x hx).2 ((hWr x).2 e)⟩
 have hres:∀(w':World) (ty2:TypeId) (v:Value),w'.heap[B]? = some (.cells #[a0,a1,a2,a3,v] ty2 (0,0))->(∀r,v.ownBlock=some r->w.heap.size<=r/\r<w'.heap.size) ->
   (∀ok':Nat->Prop,(∀x,ok x->ok' x)->(∀k,w.heap.size<=k->k<w'.heap.size->v.ownBlock≠some k->ok' k)->ySA C.P ok' w' tU v (X 300 [d1,.nil])) ->
   xSB C.P ok w w' ⟨[.mcell pt m,.ccell gs 4 tU],.ccell tU,300,true⟩ [.pointer (some ⟨b,off,none⟩),.func (.func g) #[] #[.pointer (some ⟨B,0,none⟩)]] (.tuple #[]) (X 300 [d1,.nil]):=fun w' ty2 v q1 q2 q3 =>
  ⟨rfl,B,4,ty,ty2,_,v,⟨gs,g,1,rfl,rfl⟩,hh,q1,fun r hr=>⟨.inl (q2 r hr).1,(q2 r hr).2,by have:=(q2 r hr).1;omega⟩,q3⟩
 have hnone:∀q,mv1 = .map q->mapL d1=[]->(Builtin.len_ #[m] ti #[.map q]).run C.P w = .ok (goInt 0) w ->
   Calls C.P f #[.pointer (some ⟨b,off,none⟩),.func (.func g) #[] #[.pointer (some ⟨B,0,none⟩)]] w fun e w'=>∃v,e = .returned v/\Fr (Wr w [AK.mcell pt m,.ccell gs 4 tU] [.pointer (some ⟨b,off,none⟩),.func (.func g) #[] #[.pointer (some ⟨B,0,none⟩)]]) w w' /\
    xSB C.P ok w w' ⟨[.mcell pt m,.ccell gs 4 tU],.ccell tU,300,true⟩ [.pointer (some ⟨b,off,none⟩),.func (.func g) #[] #[.pointer (some ⟨B,0,none⟩)]] v (X 300 [d1,.nil]):=by
  intro q hq hnil hlen;subst hq;refine(hno g hf w b off B q hc1 hlen).mono fun e w' he=>?_
  obtain⟨rfl,rfl⟩:=he;refine⟨_,rfl,Fr.refl _ _,hres w' ty (.slice none 0 0) hh (fun r hr=>by simp[Value.ownBlock] at hr) (fun ok' _ _=>?_)⟩;rw[X_300,hnil];exact ySA.nilv huU hiU
 cases h with
 | nil hu=>exact hnone none rfl rfl (hl0 w)
 | map hu hk hh' hkeys hkw hs hborn hclock hr =>
  rename_i kk ee r clock es dd;have hl:es.size=dd.length:=by
   have:=hkeys.length_eq
   simpa using this
  have hrl:r<w.heap.size:=(Array.getElem?_eq_some_iff.1 hh').1;have hrne:r≠B:=fun e=>hRd r (.inl (.inr hc1)) ((hWr r).2 e)
  by_cases hdd:dd=[]
  ·subst hdd;refine hnone (some r) rfl rfl ?_
   have:=hl1 w r clock es hh'
   rw[hl] at this;exact this
  have ht:TagsAt C.P ok w m (.map (some r)) (.map dd):=.map hu hk hh' hkeys hkw hs hborn hclock hr;obtain⟨_,_,hfew⟩:=yVG ht;obtain⟨DD,hown,hDs,hDk⟩:=xAL ht hum;have hpos:0<dd.length:=by cases dd with|nil=>exact absurd rfl hdd|cons a l=>simp
  have hX:X 300 [.map dd,.nil]=accD dd:=by
   rw[X_300]
   have:(mapL (.map dd)).isEmpty=false:=by cases dd with|nil=>exact absurd rfl hdd|cons a l=>rfl
   rw[this];rfl
  refine((hea g hf w b off r dd.length B DD (dd.map (·.1)) hDk hs (fun x=>x=B) (fun x hx=>hx▸hBl) hbB
   (fun ws k wl=>Fr (fun x=>x=B) ws wl /\ ∃v ty,wl.heap[B]? = some (.cells #[a0,a1,a2,a3,v] ty (0,0))/\v.ownBlock≠some B/\(∀x,v.ownBlock=some x->ws.heap.size<=x/\x<wl.heap.size) /\
    ySA C.P (fun x=>ok x∨(w.heap.size<=x/\x<wl.heap.size/\v.ownBlock≠some x)) wl tU v (accD (dd.take k)))
   ?_ (fun ws k wl h=>h.1) ?_ hc1 hown (by rw[hDs];exact hpos) (by rw[hDs];exact hfew) hbl hBl).mono ?_)
  ·intro ws hws;refine⟨Fr.refl _ _,.slice none 0 0,ty,?_,by simp[Value.ownBlock],fun x hx=>by simp[Value.ownBlock] at hx,?_⟩
   ·rw[hws.block B hBl,hh]
   ·exact ySA.nilv huU hiU
  ·rintro ws k wl hws hk' ⟨hfr,v,ty1,hBc,hvB,hvb,hov⟩;rw[List.length_map] at hk';have hkd:(dd.map (·.1)).getD k 0=(dd[k]).1:=by simp[List.getD_eq_getElem?_getD,hk']
   rw[hkd];have hmem:((dd[k]).1,(dd[k]).2)∈dd:=List.getElem_mem hk';obtain⟨vk,hrep,hlook⟩:=xUI ht hum hmem;have hwl:∀x,x<w.heap.size->x≠B->wl.heap[x]? = w.heap[x]?:=fun x hx hn=>by
    rw[hfr.block x (Nat.lt_of_lt_of_le hx hws.size) hn,hws.block x hx]
   refine⟨vk,hlook wl (hwl r hrl hrne),?_⟩;obtain⟨val,hval⟩:KOk .byts (dd[k]).2:=qWE hby hrep;have hnk:=hkw _ hmem;have htk:dd.take (k+1)=dd.take k++[dd[k]]:=by rw[List.take_succ_eq_append_getElem hk']
   have hdd0:dd.length<=100000:=hfew0;have hvl':(val.getD []).length<=lim:=by have:=hvl _ hmem;rw[hval,yWA] at this;exact this
   have hev:=evClo (key:=(dd[k]).1) (val:=val) (l:=dd.take k) (by rw[List.length_take];omega) hvl';rw[<- hval] at hev;refine(zWK (C:=C) (ok:=fun x=>ok x∨(w.heap.size<=x/\x<wl.heap.size/\v.ownBlock≠some x)) hnm hord hctr (hrun g hf) hBc (fun u hu'=>hone u (by
     simp only[List.mem_cons,List.not_mem_nil,or_false] at hu';simp only[List.mem_toArray,List.mem_cons];rcases hu' with h|h|h|h <;> simp[h])) hov (hrep.mono (fun _ h=>.inl h) (fun x hx=>hwl x (hokB x hx).1 (hokB x hx).2)) hnk (fun x hx=>?_) hvB hev.1).mono ?_
   ·rcases hx with hx|⟨q1,q2,q3⟩
    ·obtain⟨q1,q2⟩:=hokB x hx;have h3:=hws.size;have h4:=hfr.size
     refine⟨by omega,q2,fun e=>?_⟩
     have:=(hvb x e).1
     omega
    ·exact⟨q2,by omega,q3⟩
   ·rintro e w' ⟨rfl,hf2,v',ty',hB',hvB',hvb',ho'⟩;have hsz2:=hf2.size;have hsz1:=hfr.size;have hsz0:=hws.size;refine⟨rfl,⟨hf2.os.trans hfr.os,hf2.tape.trans hfr.tape,hf2.output.trans hfr.output,Nat.le_trans hsz1 hsz2,fun x hx hm=>?_⟩,v',ty',hB',hvB',fun x hx=>?_,?_⟩
    ·rw[hf2.block x (Nat.lt_of_lt_of_le hx hsz1) (fun hm2=>by
      rcases hm2 with h|h
      ·exact hm h
      ·have:=(hvb x h).1;omega),hfr.block x hx hm]
    ·obtain⟨q1,q2⟩:=hvb' x hx;refine⟨?_,q1⟩;rcases q2 with h|h
     ·omega
     ·exact(hvb x h).1
    ·have:=ho' (fun x=>ok x∨(w.heap.size<=x/\x<w'.heap.size/\v'.ownBlock≠some x)) (fun x hx=>by
      rcases hx with hx|⟨q1,q2,q3⟩
      ·exact .inl hx
      ·by_cases hv':v'.ownBlock=some x
       ·have:=(hvb' x hv').2
        rcases this with h|h
        ·omega
        ·exact absurd h q3
       ·exact .inr ⟨q1,by omega,hv'⟩) (fun x hx hxl hn=>.inr ⟨by
       rcases hx with h|h
       ·omega
       ·have:=(hvb x h).1;omega,hxl,hn⟩)
     rw[hev.2] at this;rw[htk];exact this
  ·rintro e w' ⟨rfl,ws,hws,hfr,v,ty1,hBc,hvB,hvb,hov⟩;have hsz1:=hfr.size;have hsz0:=hws.size;refine⟨_,rfl,⟨hfr.os.trans hws.os,hfr.tape.trans hws.tape,hfr.output.trans hws.output,by omega,fun x hx hm=>?_⟩,hres w' ty1 v hBc (fun x hx=>?_) (fun ok' q1 q2=>?_)⟩
   ·have hxB:x≠B:=fun e=>hm ((hWr x).2 e)
    rw[hfr.block x (by omega) hxB,hws.block x hx]
   ·have:=hvb x hx;omega
   ·rw[hX];rw[List.length_map,List.take_length] at hov;exact hov.mono (fun x hx=>by
     rcases hx with hx|⟨p1,p2,p3⟩
     ·exact q1 x hx
     ·exact q2 x p1 p2 p3) (fun _ _=>rfl) (fun _ _=>rfl)
end Go.Mx
namespace Go.Mx
open Go Go.Dx
def sp67:DE:=.f (.get 0) [.f (.ext 71) [.v 0,.k (.int 16)]]
def cE67(j:Nat):DE:=.f .ite [.f .ltI [.k (.int j),.f .len [sp67]],.f (.get 0) [.f .at [sp67,.k (.int j)]],.k (.int 0)]
def deR67:DE:=.f .mkrow [.f .mkrow ((List.range 16).map cE67),.f (.get 1) [.f (.ext 71) [.v 0,.k (.int 16)]],.k (.bool false)]
def obR67:List Ob:=[.pre 71 [.v 0,.k (.int 16)]]
theorem evR67(ds:List D)(hk:KsOk [.byts] ds)(h:side 67 ds):zCA X side obR67 ds/\deR67.eval X ds=X 67 ds:=by
 obtain⟨s,rfl⟩:=ks1 hk;rw[side_67] at h;obtain⟨b,rfl,hl⟩:=h;have e71:(DE.f (.ext 71) [.v 0,.k (.int 16)]).eval X [.bytes b]=rowR (.bytes (b.take 16)) (b.drop 16):=by
  rw[ev_f,zAA,zAA,zBA,ev_v,ev_k,List.getD_cons_zero,zOA,X_71,yDA];rfl
 have esp:sp67.eval X [.bytes b] = .bytes (b.take 16):=by
  unfold sp67;rw[ev_f,zAA,zBA,e71,xMB]
 have hlen:(b.take 16).length=16:=by rw[List.length_take];omega
 have ec:∀j:Nat,j<16->(cE67 j).eval X [.bytes b] = .int ((b.take 16).getD j 0).toNat:=fun j hj=>by
  unfold cE67;have hg:(b.take 16)[((j:Nat):Int).toNat]? = some ((b.take 16).getD j 0):=by
   rw[Int.toNat_natCast,List.getElem?_eq_getElem (by omega),List.getD_eq_getElem?_getD,List.getElem?_eq_getElem (by omega)];rfl
  rw[ev_f,zAA,zAA,zAA,zBA,ev_f,zAA,zAA,zBA,ev_k,ev_f,zAA,zBA,esp,yAA,zOC,hlen,qSJ (by omega),qEK,ev_f,zAA,zBA,ev_f,zAA,zAA,zBA,esp,ev_k,getB _ _ _ hg]
 refine⟨⟨?_,trivial⟩,?_⟩
 ·simp only[Ob.holds];exact⟨b,rfl,by show (0:Int)<=16;decide,by show (16:Nat)<=b.length;omega⟩
 ·unfold deR67;rw[ev_f,zAA,zAA,zAA,zBA,ev_k,ev_f,ev_f,zAA,zBA,e71,xNB,qUA (zDA _ _ _),xSA,X_67,yDA]
  congr 2
  rw[qXA];apply List.ext_getElem?;intro j;rw[List.getElem?_map,List.getElem?_map];by_cases hj:j<16
  ·rw[List.getElem?_range hj,List.getElem?_eq_getElem (by omega:j<(b.take 16).length),Option.map_some,Option.map_some,ec j hj,List.getD_eq_getElem?_getD,List.getElem?_eq_getElem (by omega:j<(b.take 16).length)];rfl
  ·rw[List.getElem?_eq_none (by simp;omega),List.getElem?_eq_none (by omega)];rfl
end Go.Mx
namespace Go.Mx
open Go Go.Dx
def deK2:Nat->DE
 | 61=>deR61
 | 62=>deR62
 | 63=>deR63
 | 65=>deR65
 | 66=>deR66
 | 67=>deR67
 | 69=>deR69
 | 70=>deR70
 | 71=>deR71
 | 72=>deR72
 | 73=>deR73
 | 74=>deR74
 | 75=>deR75
 | 80=>deR80
 | 81=>deR81
 | 82=>deR82
 | _=>.k .nil
def obK2:Nat->List Ob
 | 61=>obR61
 | 62=>obR62
 | 63=>obR63
 | 65=>obR65
 | 66=>obR66
 | 67=>obR67
 | 69=>obR69
 | 70=>obR70
 | 71=>obR71
 | 72=>obR72
 | 73=>obR73
 | 74=>obR74
 | 75=>obR75
 | 80=>obR80
 | 81=>obR81
 | 82=>obR82
 | _=>[]
def sig2:Nat->List K
 | 71=>[.byts,.int .i64]
 | _=>[.byts]
def zOL:Nat->Nat
 | 65=>1
 | 66=>2
 | 67=>1
 | 69=>1
 | 72=>1
 | 73=>1
 | 74=>1
 | 75=>1
 | 80=>2
 | 81=>1
 | 82=>1
 | _=>0
def known2?:Nat->Bool
 | 61=>true
 | 62=>true
 | 63=>true
 | 65=>true
 | 66=>true
 | 67=>true
 | 69=>true
 | 70=>true
 | 71=>true
 | 72=>true
 | 73=>true
 | 74=>true
 | 75=>true
 | 80=>true
 | 81=>true
 | 82=>true
 | _=>false
theorem evB61(ds:List D)(hk:KsOk (sig2 61) ds)(h:side 61 ds):zCA X side (obK2 61) ds/\(deK2 61).eval X ds=X 61 ds/\(X 61 ds).cells.getD 2 .nil = .bool false:=by
 have e:=evR61 ds hk h;refine⟨e.1,e.2,?_⟩;obtain⟨s,rfl⟩:=ks1 hk;rfl
theorem evB62(ds:List D)(hk:KsOk (sig2 62) ds)(h:side 62 ds):zCA X side (obK2 62) ds/\(deK2 62).eval X ds=X 62 ds/\(X 62 ds).cells.getD 2 .nil = .bool false:=by
 have e:=evR62 ds hk h;refine⟨e.1,e.2,?_⟩;obtain⟨s,rfl⟩:=ks1 hk;rfl
theorem evB63(ds:List D)(hk:KsOk (sig2 63) ds)(h:side 63 ds):zCA X side (obK2 63) ds/\(deK2 63).eval X ds=X 63 ds/\(X 63 ds).cells.getD 2 .nil = .bool false:=by
 have e:=evR63 ds hk h;refine⟨e.1,e.2,?_⟩;obtain⟨s,rfl⟩:=ks1 hk;rfl
theorem evB65(ds:List D)(hk:KsOk (sig2 65) ds)(h:side 65 ds):zCA X side (obK2 65) ds/\(deK2 65).eval X ds=X 65 ds/\(X 65 ds).cells.getD 2 .nil = .bool false:=by
 have e:=evR65 ds hk h;refine⟨e.1,e.2,?_⟩;obtain⟨s,rfl⟩:=ks1 hk;rfl
theorem evB66(ds:List D)(hk:KsOk (sig2 66) ds)(h:side 66 ds):zCA X side (obK2 66) ds/\(deK2 66).eval X ds=X 66 ds/\(X 66 ds).cells.getD 2 .nil = .bool false:=by
 have e:=evR66 ds hk h;refine⟨e.1,e.2,?_⟩;obtain⟨s,rfl⟩:=ks1 hk;rfl
theorem evB67(ds:List D)(hk:KsOk (sig2 67) ds)(h:side 67 ds):zCA X side (obK2 67) ds/\(deK2 67).eval X ds=X 67 ds/\(X 67 ds).cells.getD 2 .nil = .bool false:=by
 have e:=evR67 ds hk h;refine⟨e.1,e.2,?_⟩;obtain⟨s,rfl⟩:=ks1 hk;rfl
theorem evB69(ds:List D)(hk:KsOk (sig2 69) ds)(h:side 69 ds):zCA X side (obK2 69) ds/\(deK2 69).eval X ds=X 69 ds/\(X 69 ds).cells.getD 2 .nil = .bool false:=by
 have e:=evR69 ds hk h;refine⟨e.1,e.2,?_⟩;obtain⟨s,rfl⟩:=ks1 hk;rfl
theorem evB70(ds:List D)(hk:KsOk (sig2 70) ds)(h:side 70 ds):zCA X side (obK2 70) ds/\(deK2 70).eval X ds=X 70 ds/\(X 70 ds).cells.getD 2 .nil = .bool false:=by
 have e:=evR70 ds hk h;refine⟨e.1,e.2,?_⟩;obtain⟨s,rfl⟩:=ks1 hk;rfl
theorem evB71(ds:List D)(hk:KsOk (sig2 71) ds)(h:side 71 ds):zCA X side (obK2 71) ds/\(deK2 71).eval X ds=X 71 ds/\(X 71 ds).cells.getD 2 .nil = .bool false:=by
 have e:=evR71 ds hk h;refine⟨e.1,e.2,?_⟩;obtain @⟨⟩ | @⟨_,d1,_,_,_,hk⟩:=hk;obtain @⟨⟩ | @⟨_,d2,_,_,_,hk⟩:=hk;cases hk;rfl
theorem evB72(ds:List D)(hk:KsOk (sig2 72) ds)(h:side 72 ds):zCA X side (obK2 72) ds/\(deK2 72).eval X ds=X 72 ds/\(X 72 ds).cells.getD 2 .nil = .bool false:=by
 have e:=evR72 ds hk h;refine⟨e.1,e.2,?_⟩;obtain⟨s,rfl⟩:=ks1 hk;rfl
theorem evB73(ds:List D)(hk:KsOk (sig2 73) ds)(h:side 73 ds):zCA X side (obK2 73) ds/\(deK2 73).eval X ds=X 73 ds/\(X 73 ds).cells.getD 2 .nil = .bool false:=by
 have e:=evR73 ds hk h;refine⟨e.1,e.2,?_⟩;obtain⟨s,rfl⟩:=ks1 hk;rfl
theorem evB74(ds:List D)(hk:KsOk (sig2 74) ds)(h:side 74 ds):zCA X side (obK2 74) ds/\(deK2 74).eval X ds=X 74 ds/\(X 74 ds).cells.getD 2 .nil = .bool false:=by
 have e:=evR74 ds hk h;refine⟨e.1,e.2,?_⟩;obtain⟨s,rfl⟩:=ks1 hk;rfl
theorem evB75(ds:List D)(hk:KsOk (sig2 75) ds)(h:side 75 ds):zCA X side (obK2 75) ds/\(deK2 75).eval X ds=X 75 ds/\(X 75 ds).cells.getD 2 .nil = .bool false:=by
 have e:=evR75 ds hk h;refine⟨e.1,e.2,?_⟩;obtain⟨s,rfl⟩:=ks1 hk;rfl
theorem evB80(ds:List D)(hk:KsOk (sig2 80) ds)(h:side 80 ds):zCA X side (obK2 80) ds/\(deK2 80).eval X ds=X 80 ds/\(X 80 ds).cells.getD 2 .nil = .bool false:=by
 have e:=evR80 ds hk h;refine⟨e.1,e.2,?_⟩;obtain⟨s,rfl⟩:=ks1 hk;rfl
theorem evB81(ds:List D)(hk:KsOk (sig2 81) ds)(h:side 81 ds):zCA X side (obK2 81) ds/\(deK2 81).eval X ds=X 81 ds/\(X 81 ds).cells.getD 2 .nil = .bool false:=by
 have e:=evR81 ds hk h;refine⟨e.1,e.2,?_⟩;obtain⟨s,rfl⟩:=ks1 hk;rfl
theorem evB82(ds:List D)(hk:KsOk (sig2 82) ds)(h:side 82 ds):zCA X side (obK2 82) ds/\(deK2 82).eval X ds=X 82 ds/\(X 82 ds).cells.getD 2 .nil = .bool false:=by
 have e:=evR82 ds hk h;refine⟨e.1,e.2,?_⟩;obtain⟨s,rfl⟩:=ks1 hk;rfl
theorem evB(k:Nat)(hk:known2? k=true)(ds:List D)(hks:KsOk (sig2 k) ds)(h:side k ds):zCA X side (obK2 k) ds/\(deK2 k).eval X ds=X k ds/\(X k ds).cells.getD 2 .nil = .bool false:=by
 unfold known2? at hk;split at hk
 ·exact evB61 ds hks h
 ·exact evB62 ds hks h
 ·exact evB63 ds hks h
 ·exact evB65 ds hks h
 ·exact evB66 ds hks h
 ·exact evB67 ds hks h
 ·exact evB69 ds hks h
 ·exact evB70 ds hks h
 ·exact evB71 ds hks h
 ·exact evB72 ds hks h
 ·exact evB73 ds hks h
 ·exact evB74 ds hks h
 ·exact evB75 ds hks h
 ·exact evB80 ds hks h
 ·exact evB81 ds hks h
 ·exact evB82 ds hks h
 ·cases hk
def ctrs2(base tab:List (Nat×Ctr))(r:Nat)(f:FuncId):Option Ctr :=
 match lk f tab with
 | some c=>if zOL c.fn<r then some c else none
 | none=>lk f base
def runOk2(P:Program)(base tab:List (Nat×Ctr))(f:FuncId)(c:Ctr):Bool :=
 match P.funcs[f]? with
 | some fn =>
  match runF ⟨P,ctrs2 base tab (zOL c.fn),fun _ _ _=>none⟩ 100000 8 c fn with
  | some (d,os)=>d.beq (deK2 c.fn)&&qCC os (obK2 c.fn)
  | none=>false
 | none=>false
def ctrOk2?(P:Program)(base tab:List (Nat×Ctr))(f:FuncId)(c:Ctr):Bool :=
 known2? c.fn&&areA P (sig2 c.fn) c.args&&c.pre&&runOk2 P base tab f c
theorem one_ok2{P:Program}{base tab:List (Nat×Ctr)}(hnm:xHA P)(hord:P.follows .mixedOrders=true){f:FuncId}{c:Ctr}(h:ctrOk2? P base tab f c=true)
  (hc:∀g d,ctrs2 base tab (zOL c.fn) g=some d->qTA P X side g d):qTA P X side f c:=by
 simp only[ctrOk2?,Bool.and_eq_true] at h;obtain⟨⟨⟨hk,hsig⟩,hpre⟩,hrun⟩:=h;unfold runOk2 at hrun;split at hrun
 rotate_left
 ·cases hrun
 rename_i fn hf;split at hrun
 rotate_left
 ·cases hrun
 rename_i d os hr;simp only[Bool.and_eq_true] at hrun;have e1:=DE.beq_eq hrun.1;have e2:=xQB hrun.2;subst e1;subst e2
 exact qRC (C:=⟨P,ctrs2 base tab (zOL c.fn),fun _ _ _=>none⟩) hnm hord hc hf hr (fun ok w vs ds hA hp=>by
  obtain⟨q1,q2,q3⟩:=evB c.fn hk ds (zDF hsig hA) (hp hpre);exact⟨q1,q2,fun _ _=>q3⟩)
def hand2(k:Nat):Bool:=k==86 || k==87
theorem all_ok2{P:Program}{base tab:List (Nat×Ctr)}(hnm:xHA P)(hord:P.follows .mixedOrders=true)(hb:∀f c,lk f base=some c->qTA P X side f c)
  (hh:∀f c,lk f tab=some c->hand2 c.fn=true->qTA P X side f c) (hchk:∀f c,lk f tab=some c->hand2 c.fn=false->ctrOk2? P base tab f c=true):∀f c,lk f tab=some c->qTA P X side f c:=by
 have key:∀r f c,lk f tab=some c->zOL c.fn=r->qTA P X side f c:=by
  intro r
  induction r using Nat.strongRecOn with
  | ind r ih =>
   intro f c hl hr;cases h86:hand2 c.fn with
   | true=>exact hh f c hl h86
   | false =>
    refine one_ok2 hnm hord (hchk f c hl h86) (fun g d hg=>?_);unfold ctrs2 at hg;split at hg
    ·rename_i c' hc';split at hg
     ·rename_i hlt;cases hg;exact ih _ (by omega) g _ hc' rfl
     ·cases hg
    ·exact hb g d hg
 exact fun f c h=>key _ f c h rfl
end Go.Mx
namespace Go.Mx
open Go Go.Dx
def ob301:List Ob :=
 [.all (.v 0) [] [] [.when (.f .ite [.f .ltI [.k (.int 0),.v 1],.f .ltI [.f (.get 0) [.v 2],.f (.get 0) [.f .at [.v 0,.f (.sub .i64) [.v 1,.k (.int 1)]]]],.k (.bool false)]) true [.nz (.k (.int 0))],
  .when (.f .ltI [.k (.int 0),.v 1]) true [.idx (.f (.sub .i64) [.v 1,.k (.int 1)]) (.v 0) true]]]
theorem ev301(u:Option (List Tg))(h:side 301 [encU u]):zCA X side ob301 [encU u]:=by
 obtain⟨hp,hl⟩:=h;generalize hd:encU u=d at hp hl;have hlen:d.len=d.rows.length:=by
  rw[<- hd];cases u with
  | none=>rfl
  | some l=>rfl
 refine⟨?_,trivial⟩;simp only[Ob.holds];have e0:(DE.v 0).eval X [d]=d:=rfl;rw[e0];intro k hk;have hst:∀n r,yHA (fun i r acc=>zDA X [] ([d]++(.int i::r::acc))) n r (zDA X [] [d])=[]:=fun n r=>by
  rw[zBA]
  have:∀(r:List D) (n:Nat),yHA (fun i r acc=>zDA X [] ([d]++(.int i::r::acc))) n r []=[]:=fun r=>by
   induction r with
   | nil=>intro n;rfl
   | cons a r ih=>intro n;rw[yHA,zBA];exact ih _
  exact this r n
 rw[hst];generalize hr:d.rows.getD k .nil=r;have hrk:d.rows[k]? = some r:=by
  rw[List.getD_eq_getElem?_getD,List.getElem?_eq_getElem hk,Option.getD_some] at hr;rw[List.getElem?_eq_getElem hk,hr]
 have v0:(DE.v 0).eval X ([d]++[D.int (k:Nat),r])=d:=rfl;have v1:(DE.v 1).eval X ([d]++[D.int (k:Nat),r]) = .int (k:Nat):=rfl;have v2:(DE.v 2).eval X ([d]++[D.int (k:Nat),r])=r:=rfl;have elt:(DE.f .ltI [.k (.int 0),.v 1]).eval X ([d]++[D.int (k:Nat),r]) = .bool (decide ((0:Int)<(k:Nat))):=by
  rw[ev_f,zAA,zAA,zBA,v1,ev_k,qKA]
 have esub:k≠0->(DE.f (.sub .i64) [.v 1,.k (.int 1)]).eval X ([d]++[D.int (k:Nat),r]) = .int ((k-1:Nat):Nat):=fun h0=>by
  rw[ev_f,zAA,zAA,zBA,v1,ev_k];show D.int (IntKind.i64.wrap ((k:Int)-1))=_;rw[IntKind.wrap_i64]
  congr 1
  omega
 show zCA X side _ ([d]++[D.int (k:Nat),r]);refine⟨fun h=>?_,fun h=>?_,trivial⟩
 ·exfalso;rw[ev_f,zAA,zAA,zAA,zBA,elt,ev_k,zXA] at h;by_cases h0:k=0
  ·subst h0;simp[D.asBool] at h
  ·have hdd:decide ((0:Int)<(k:Nat))=true:=by simp;omega
   rw[hdd,if_pos rfl,ev_f,zAA,zAA,zBA,ev_f,zAA,zBA,v2,ev_f,zAA,zBA,ev_f,zAA,zAA,zBA,v0,esub h0] at h;have e3:Fn.eval X .at [d,.int ((k-1:Nat):Nat)]=d.rows.getD (k-1) .nil:=by
    show d.rows.getD (((k-1:Nat):Int)).toNat .nil=_;rw[Int.toNat_natCast]
   rw[e3] at h;have hk1:k-1<d.rows.length:=by omega
   have hlt:=List.pairwise_iff_getElem.1 hp (k-1) k (by rw[List.length_map];omega) (by rw[List.length_map];exact hk) (by omega);simp only[List.getElem_map] at hlt;have hrk2:d.rows[k]=r:=by
    rw[List.getElem?_eq_getElem hk] at hrk;exact Option.some.inj hrk
   rw[hrk2] at hlt;rw[List.getD_eq_getElem?_getD,List.getElem?_eq_getElem hk1,Option.getD_some] at h;have h:decide ((r.cells.getD 0 .nil).asInt<((d.rows[k-1]).cells.getD 0 .nil).asInt)=true:=h
   have:=of_decide_eq_true h
   omega
 ·refine⟨?_,trivial⟩;rw[elt] at h;have h:decide ((0:Int)<(k:Nat))=true:=h;have h0:k≠0:=by have:=of_decide_eq_true h;omega
  simp only[Ob.holds];rw[esub h0,v0,hlen];simp only[D.asInt,if_true];omega
end Go.Mx
namespace Go.Mx
open Go Go.Dx
def deK3:Nat->DE
 | 301=>.k .nil
 | 303=>de303
 | 304=>de304
 | 305=>de305
 | 306=>de306
 | 307=>de307
 | _=>.k .nil
def obK3:Nat->List Ob
 | 301=>ob301
 | 303=>ob303
 | 304=>ob304
 | 305=>ob305
 | 306=>ob306
 | 307=>ob307
 | _=>[]
def sig3:Nat->List K
 | 301=>[.tags]
 | 303=>[.fls,.int .i64,.bool,.tree,.tree]
 | 304=>[.fl,.int .i64,.bool,.tree,.tree]
 | 305=>[.fls,.tree]
 | 306=>[.int .i64,.int .i64]
 | 307=>[.fls,.tree]
 | _=>[]
def qIG:Nat->Nat
 | 303=>5
 | 304=>5
 | 305=>5
 | 307=>6
 | _=>0
def known3?:Nat->Bool
 | 301=>true
 | 303=>true
 | 304=>true
 | 305=>true
 | 306=>true
 | 307=>true
 | _=>false
theorem zJL{n k:Nat}{ds:List D}(h:Pre3 n k ds):side k ds:=h.2
theorem evC(k:Nat)(hk:known3? k=true)(hr:xRA k=false):∀(ds:List D),KsOk (sig3 k) ds->side k ds->zCA X side (obK3 k) ds/\(deK3 k).eval X ds=X k ds:=by
 unfold known3? at hk;split at hk
 ·intro ds hk h;obtain @⟨⟩ | @⟨_,d1,_,_,k1,hk⟩:=hk;cases hk;obtain⟨x1,rfl⟩:=k1;exact⟨ev301 x1 h,rfl⟩
 ·simp[xRA] at hr
 ·simp[xRA] at hr
 ·simp[xRA] at hr
 ·intro ds hk h;obtain @⟨⟩ | @⟨_,d1,_,_,k1,hk⟩:=hk;obtain @⟨⟩ | @⟨_,d2,_,_,k2,hk⟩:=hk;cases hk;obtain⟨x1,rfl,w1⟩:=k1;obtain⟨x2,rfl,w2⟩:=k2;exact⟨trivial,ev306 x1 x2⟩
 ·intro ds hk h;obtain @⟨⟩ | @⟨_,d1,_,_,k1,hk⟩:=hk;obtain @⟨⟩ | @⟨_,d2,_,_,k2,hk⟩:=hk;cases hk;obtain⟨x1,rfl⟩:=k1;obtain⟨x2,rfl⟩:=k2;have e:=ev307 x1 x2 0;exact⟨Obs.mono (fun _ _ h=>zJL h) _ _ e.1,e.2⟩
 ·cases hk
theorem evCR(k:Nat)(hk:known3? k=true)(hr:xRA k=true)(n:Nat):∀(ds:List D),KsOk (sig3 k) ds->Pre3 (n+1) k ds->zCA X (Pre3 n) (obK3 k) ds/\(deK3 k).eval X ds=X k ds:=by
 unfold known3? at hk;split at hk
 ·simp[xRA] at hr
 ·intro ds hk h;obtain @⟨⟩ | @⟨_,d1,_,_,k1,hk⟩:=hk;obtain @⟨⟩ | @⟨_,d2,_,_,k2,hk⟩:=hk;obtain @⟨⟩ | @⟨_,d3,_,_,k3,hk⟩:=hk;obtain @⟨⟩ | @⟨_,d4,_,_,k4,hk⟩:=hk;obtain @⟨⟩ | @⟨_,d5,_,_,k5,hk⟩:=hk;cases hk;obtain⟨x1,rfl⟩:=k1;obtain⟨x2,rfl,w2⟩:=k2;obtain⟨x3,rfl⟩:=k3;obtain⟨x4,rfl⟩:=k4;obtain⟨x5,rfl⟩:=k5;exact ev303 x1 x2 x3 x4 x5 n h
 ·intro ds hk h;obtain @⟨⟩ | @⟨_,d1,_,_,k1,hk⟩:=hk;obtain @⟨⟩ | @⟨_,d2,_,_,k2,hk⟩:=hk;obtain @⟨⟩ | @⟨_,d3,_,_,k3,hk⟩:=hk;obtain @⟨⟩ | @⟨_,d4,_,_,k4,hk⟩:=hk;obtain @⟨⟩ | @⟨_,d5,_,_,k5,hk⟩:=hk;cases hk;obtain⟨x1,rfl⟩:=k1;obtain⟨x2,rfl,w2⟩:=k2;obtain⟨x3,rfl⟩:=k3;obtain⟨x4,rfl⟩:=k4;obtain⟨x5,rfl⟩:=k5;exact ev304 x1 x2 x3 x4 x5 n h
 ·intro ds hk h;obtain @⟨⟩ | @⟨_,d1,_,_,k1,hk⟩:=hk;obtain @⟨⟩ | @⟨_,d2,_,_,k2,hk⟩:=hk;cases hk;obtain⟨x1,rfl⟩:=k1;obtain⟨x2,rfl⟩:=k2;exact ev305 x1 x2 n h
 ·simp[xRA] at hr
 ·simp[xRA] at hr
 ·cases hk
def xEK(base tab:List (Nat×Ctr))(r:Nat)(f:FuncId):Option Ctr :=
 match lk f tab with
 | some c=>if qIG c.fn<r || (r==5&&xRA c.fn) then some c else none
 | none=>lk f base
def hn3(k:Nat):List (Nat×Nat×Nat×Hint):=if k==301 then [(0,999999,0,([],0)),(45,0,1,([],0))] else [(120,0,5,([(.slot 2,.bool)],1)),(120,2,5,([],1))]
def xFH(P:Program)(base tab:List (Nat×Ctr))(f:FuncId)(c:Ctr):Bool :=
 match P.funcs[f]? with
 | some fn =>
  match runF ⟨P,xEK base tab (qIG c.fn),lookH (hn3 c.fn)⟩ 100000 8 c fn with
  | some (d,os)=>noRd c.res&&(d.beq (deK3 c.fn)&&qCC os (obK3 c.fn))
  | none=>false
 | none=>false
def ctrOk3?(P:Program)(base tab:List (Nat×Ctr))(f:FuncId)(c:Ctr):Bool :=
 known3? c.fn&&areA P (sig3 c.fn) c.args&&c.pre&&xFH P base tab f c
theorem zPL{k:Nat}(hk:known3? k=true):qIG k=5↔xRA k=true:=by
 unfold known3? at hk;split at hk
 all_goals first|cases hk;done|decide
theorem yIE{base tab:List (Nat×Ctr)}{r:Nat}{f:FuncId}{c:Ctr}(h:xEK base tab r f=some c):(lk f tab=some c/\(qIG c.fn<r∨(r=5/\xRA c.fn=true)))∨(lk f tab=none/\lk f base=some c):=by
 unfold xEK at h;split at h
 ·rename_i c' hc;split at h
  ·rename_i hb;cases h;simp only[Bool.or_eq_true,decide_eq_true_eq,Bool.and_eq_true,beq_iff_eq] at hb;exact .inl ⟨hc,hb⟩
  ·cases h
 ·rename_i hn;exact .inr ⟨hn,h⟩
theorem yUI{P:Program}{A B:Nat->List D->Prop}{base tab:List (Nat×Ctr)}(hnm:xHA P)(hord:P.follows .mixedOrders=true){f:FuncId}{c:Ctr}(hrun:xFH P base tab f c=true)(hsig:areA P (sig3 c.fn) c.args=true)(hpre:c.pre=true)
  (hc:∀g d,xEK base tab (qIG c.fn) g=some d->qTA P X A g d) (hX:∀ds,KsOk (sig3 c.fn) ds->B c.fn ds->zCA X A (obK3 c.fn) ds/\(deK3 c.fn).eval X ds=X c.fn ds):qTA P X B f c:=by
 unfold xFH at hrun;split at hrun
 rotate_left
 ·cases hrun
 rename_i fn hf;split at hrun
 rotate_left
 ·cases hrun
 rename_i d os hr;simp only[Bool.and_eq_true] at hrun;have e1:=DE.beq_eq hrun.2.1;have e2:=xQB hrun.2.2;subst e1;subst e2
 exact qRC (C:=⟨P,xEK base tab (qIG c.fn),lookH (hn3 c.fn)⟩) hnm hord hc hf hr (fun ok w vs ds hA hp=>by
  obtain⟨q1,q2⟩:=hX ds (zDF hsig hA) (hp hpre);exact⟨q1,q2,zCE hrun.1 _⟩)
theorem all_ok3{P:Program}{base tab:List (Nat×Ctr)}(hnm:xHA P)(hord:P.follows .mixedOrders=true)(hb:∀f c,lk f base=some c->qTA P X side f c)
  (hchk:∀f c,lk f tab=some c->ctrOk3? P base tab f c=true):∀f c,lk f tab=some c->qTA P X side f c:=by
 have key:∀r f c,lk f tab=some c->qIG c.fn=r->qTA P X side f c:=by
  intro r
  induction r using Nat.strongRecOn with
  | ind r ih =>
   intro f c hl hr;have h:=hchk f c hl;unfold ctrOk3? at h;simp only[Bool.and_eq_true] at h;obtain⟨⟨⟨hk,hsig⟩,hpre⟩,hrun⟩:=h;cases hrec:xRA c.fn with
   | false =>
    refine yUI hnm hord hrun hsig hpre (A:=side) (fun g d hg=>?_) (evC c.fn hk hrec);rcases yIE hg with⟨h1,h2⟩|⟨_,h1⟩
    ·rcases h2 with h2|⟨h2,_⟩
     ·exact ih _ (by omega) g d h1 rfl
     ·have:=(zPL hk).1 h2
      rw[hrec] at this;cases this
    ·exact hb g d h1
   | true =>
    have h5:r=5:=by rw[<- hr];exact(zPL hk).2 hrec
    have main:∀n f c,lk f tab=some c->known3? c.fn=true->xRA c.fn=true->areA P (sig3 c.fn) c.args=true->c.pre=true->xFH P base tab f c=true->qTA P X (Pre3 n) f c:=by
     intro n
     induction n with
     | zero =>
      intro f c hl hk hrec hsig hpre hrun;refine yUI hnm hord hrun hsig hpre (A:=fun _ _=>False) (fun g d hg=>?_) (fun ds _ hB=>?_)
      ·rcases yIE hg with⟨h1,_⟩|⟨_,h1⟩
       ·have h:=hchk g d h1;unfold ctrOk3? at h;simp only[Bool.and_eq_true] at h;obtain⟨⟨⟨_,_⟩,hp⟩,hr⟩:=h;unfold xFH at hr;split at hr
        ·rename_i fn hf;split at hr
         ·rename_i d' os hr';unfold runF at hr';split at hr'
          ·rename_i body q hb' _;exact⟨⟨fn,body,hf,hb'⟩,fun ok w vs ds _ _ _ h4=>(h4 hp).elim⟩
          ·cases hr'
         ·cases hr
        ·cases hr
       ·exact yAD (fun _ h=>h.elim) (hb g d h1)
      ·exact absurd (hB.1 hrec) (by omega)
     | succ n ihn =>
      intro f c hl hk hrec hsig hpre hrun;refine yUI hnm hord hrun hsig hpre (A:=Pre3 n) (fun g d hg=>?_) (evCR c.fn hk hrec n);rcases yIE hg with⟨h1,h2⟩|⟨_,h1⟩
      ·have hr5:=(zPL hk).2 hrec;by_cases hd:qIG d.fn<5
       ·exact yAD (fun _ h=>h.2) (ih (qIG d.fn) (by omega) g d h1 rfl)
       ·have hdr:xRA d.fn=true:=by
         rcases h2 with h2|h2
         ·omega
         ·exact h2.2
        have h:=hchk g d h1;unfold ctrOk3? at h;simp only[Bool.and_eq_true] at h;obtain⟨⟨⟨q1,q2⟩,q3⟩,q4⟩:=h;exact ihn g d h1 q1 hdr q2 q3 q4
      ·exact yAD (fun _ h=>h.2) (hb g d h1)
    have hfin:=fun n=>main n f c hl hk hrec hsig hpre hrun
    refine⟨(hfin 0).1,fun ok w vs ds h1 h2 h3 h4=>?_⟩;exact(hfin (qPK c.fn ds+1)).2 ok w vs ds h1 h2 h3 (fun hp=>⟨fun _=>by omega,h4 hp⟩)
 exact fun f c h=>key _ f c h rfl
end Go.Mx
namespace Go.Mx
open Go Go.Dx
theorem ksT{ds:List D}(hk:KsOk [.int .i64,.byts] ds):∃(v:Int) (a:Option (List UInt8)),ds=[.int v,encB a]:=by
 obtain @⟨⟩ | @⟨_,d1,_,_,k1,hk⟩:=hk;obtain @⟨⟩ | @⟨_,d2,_,_,k2,hk⟩:=hk;cases hk;obtain⟨v,rfl,_⟩:=k1;obtain⟨a,rfl⟩:=k2;exact⟨v,a,rfl⟩
theorem told_okR{P:Program}(hnm:xHA P)(hord:P.follows .mixedOrders=true){f:FuncId}{c:Ctr}{M:Msg}{E:Int->DE}{O:Int->List Ob}(hf:zYF P f=true)
  (hpre:c.pre=true) (hnr:noRd c.res=true) (hsig:areA P [.int .i64,.byts] c.args=true) (hS:∀v a,side c.fn [v,a]=xJD M v .nil a)
  (hev:∀(v:Int) (src:Option (List UInt8)),xJD M (.int v) .nil (encB src)->zCA X side (O v) [.int v,encB src]/\(E v).eval X [.int v,encB src]=X c.fn [.int v,encB src])
  (hrun:∀v,0<=v->v<=M.most -> ∃C:Cfg,C.P=P/\(∀f c,C.ctr f=some c->qTA P X side f c)/\yMJ P C f c [(0,v)] (E v) (O v)=true):qTA P X side f c:=by
 obtain⟨fn,b,hf,hb⟩:=yQE hf;refine⟨⟨fn,b,hf,hb⟩,fun ok w vs ds hA hok hRd hp=>?_⟩;have hs:=hp hpre;obtain⟨v,da,rfl⟩:=ksT (zDF hsig hA);have hs':=hs;rw[hS] at hs';obtain⟨C,hP,hall,hr⟩:=hrun v hs'.1.1 hs'.1.2;subst hP;obtain⟨fn',hf',hr⟩:=xKH hr;rw[hf] at hf';cases hf'
 obtain⟨h1,h2⟩:=hev v da hs';refine callK hnm hord hall hf hr hA hok (fun j k hjk=>?_) h1 h2 (zCE hnr _);simp only[lk] at hjk;split at hjk
 ·rename_i hj;cases hjk;rw[beq_iff_eq] at hj;subst hj;rfl
 ·cases hjk
theorem tellBytes_le{M:Msg}(h:yDB M=true){t:T}{B:Nat}(hb:WT t<=B)(hc:cS M.fs*(1+B)+2000<=lim)(v:Int):(yPA M.fs v (zPA M.fx v) t).length+2000<=lim:=by
 simp only[yDB,Bool.and_eq_true] at h;exact zAI h.1.1.1 hb hc v
theorem law_callsT{P:Program}{C:Cfg}(hP:C.P=P)(hnm:xHA P)(hord:P.follows .mixedOrders=true)(hctr:∀f c,C.ctr f=some c->qTA P X side f c){f:Nat}{tu tt tb:Nat}{E:DE}{O:List Ob}
  (hrun:yMJ P C f ⟨[.val tu,.val tt],.val tb,200,false⟩ [] E O=true) (hu:isI P .u8 tu=true) (htree:yPC P tt=true)
  {ok:Nat->Prop} {w:World} {n:Int} {tv:Value} {d:D} (hn:(Lit.int .u8 n).wf=true) (ht:Rep P ok w tt tv d) (hok:∀b,ok b->b<w.heap.size)
  (hlaw:∀t:T,d=t.d->wfT t=true->0<=n->n<256->zCA X side O [.int n,t.d]/\E.eval X [.int n,t.d] = .bool true) :
  Calls P f #[.int .u8 n,tv] w fun e w'=>e = .returned (.bool true)/\Fr (fun _=>False) w w':=by
 subst hP;obtain⟨fn,hf,hr⟩:=xKH hrun;have hA:ArgsOk C.P ok w [.val tu,.val tt] [.int .u8 n,tv] [.int n,d]:=.cons (.val (.int (zNJ hu) hn)) (.cons (.val ht) .nil);obtain⟨t,rfl⟩:=(xLF ht).1 htree;have hw:=(zXL ht).1 htree t rfl;obtain⟨hn0,hn1⟩:=wf_u8 hn;obtain⟨h1,h2⟩:=hlaw t rfl hw hn0 hn1;have hW:∀b,¬Wr w [AK.val tu,.val tt] [.int .u8 n,tv] b:=fun b h=>by simp[Wr,wrA] at h
 have:=callK (C:=C) (c:=⟨[.val tu,.val tt],.val tb,200,false⟩) hnm hord hctr hf hr hA (fun b hb=>⟨hok b hb,hW b⟩) (fun j k hj=>by simp[lk] at hj) h1 (by rw[h2];exact(X_200 _).symm) (zCE rfl _)
 refine Calls.mono this (fun e w' he=>?_);obtain⟨v,rfl,hfr,hres⟩:=he;have e1:Rep C.P (fun b=>ok b∨w.heap.size<=b) w' tb v (X 200 [.int n,t.d]):=hres (fun b=>ok b∨w.heap.size<=b) (fun _ h=>.inl h) (fun _ h _=>.inr h);rw[X_200] at e1;refine⟨?_,hfr.mono (fun b _ hb=>(hW b hb).elim)⟩;cases e1;rfl
end Go.Mx
namespace Go.Mx
open Go Go.Dx
theorem len8{b:List UInt8}(h:8<=b.length):∃b0 b1 b2 b3 b4 b5 b6 b7 r,b=b0::b1::b2::b3::b4::b5::b6::b7::r:=by
 match b,h with
 | b0::b1::b2::b3::b4::b5::b6::b7::r,_=>exact⟨b0,b1,b2,b3,b4,b5,b6,b7,r,rfl⟩
theorem yGJ{P:Program}{ok:Nat->Prop}{w:World}{t:TypeId}{v:Value}{d:D}(ha:agg P t=true)(ht:tys P t=[])(h:Rep P ok w t v d):v = .agg #[]:=by
 obtain⟨ds,rfl,_,_⟩:=xKF ha h;cases h with
 | row hu hd hlen hlen' h1 hr =>
  rename_i dd vs;rw[ht] at hlen
  have:vs=[]:=List.length_eq_zero_iff.1 hlen
  subst this;rfl
theorem hand86{P:Program}{ρ:Go.Shelf.Ren}(L:Go.Proofs.LaysBin.n42 P ρ){f:FuncId}{te tb t64 e:TypeId}(hf:ρ.f 42=f)(hb:zYF P f=true)(ha:agg P te=true)(ht:tys P te=[])(hub:P.underlying tb=some (.slice e))(he:P.underlying e=some (.int .u8))(h64:P.underlying t64=some (.int .u64)) :
  qTA P X side f ⟨[.val te,.val tb],.val t64,86,true⟩:=by
 refine⟨yQE hb,fun ok w vs ds hA hok hRd hp=>?_⟩;obtain @⟨⟩ | @⟨_,v1,d1,_,_,_,h1,hA⟩:=hA;obtain @⟨⟩ | @⟨_,v2,d2,_,_,_,h2,hA⟩:=hA;cases hA;cases h1 with
 | val h1 =>
 cases h2 with
 | val h2 =>
 obtain⟨b,hbd,hl⟩:∃b,d2 = .bytes b/\8<=b.length:=hp rfl;subst hbd;have hv1:=yGJ ha ht h1;subst hv1;obtain⟨b0,b1,b2,b3,b4,b5,b6,b7,r,rfl⟩:=len8 hl;have hB:=h2.bytesAt hub he;cases hB with
 | some hsp hcl hcap hmax =>
  rename_i ad cap;have hs:ad.spot=none:=hsp (by simp only[List.length_cons] at hcap;omega);obtain⟨g,o,sp⟩:=ad;simp only at hs;subst hs;have hc:∀(j:Nat) (x:UInt8),(b0::b1::b2::b3::b4::b5::b6::b7::r)[j]? = some x->w.cell? ⟨g,o+j,none⟩=some (.int .u8 (x.toNat:Int)):=fun j x hx=>hcl j _ (by rw[List.getElem?_map,hx];rfl)
  subst hf;refine(Go.Proofs.Any.binary_BE_Uint64 L g o _ cap b0 b1 b2 b3 b4 b5 b6 b7 w (by simp only[List.length_cons];omega) (hc 0 _ rfl) (hc 1 _ rfl) (hc 2 _ rfl) (hc 3 _ rfl) (hc 4 _ rfl) (hc 5 _ rfl) (hc 6 _ rfl) (hc 7 _ rfl)).mono fun e' w' he'=>?_
  obtain⟨rfl,hbl⟩:=he';refine⟨_,rfl,⟨hbl.os,hbl.tape,hbl.output,hbl.size,fun k hk _=>hbl.block k hk⟩,fun ok' _ _=>?_⟩;have e1:Go.Lib.beNat [b0,b1,b2,b3,b4,b5,b6,b7]=beN [b0,b1,b2,b3,b4,b5,b6,b7]:=by
   simp[Go.Lib.beNat,Go.Lib.beFrom,beN]
  have hlt:beN [b0,b1,b2,b3,b4,b5,b6,b7]<256 ^ 8:=qLI _;show Rep P ok' w' t64 _ (X 86 [d1,.bytes (b0::b1::b2::b3::b4::b5::b6::b7::r)]);rw[X_86,yDA,e1];refine .int h64 (zPC ?_);simp[IntKind.min,IntKind.max,IntKind.signed,IntKind.bits];omega
theorem hand87{P:Program}{ρ:Go.Shelf.Ren}(L:Go.Proofs.LaysBin.n39 P ρ){f:FuncId}{te tb t32 e:TypeId}(hf:ρ.f 39=f)(hb:zYF P f=true)(ha:agg P te=true)(ht:tys P te=[])(hub:P.underlying tb=some (.slice e))(he:P.underlying e=some (.int .u8))(h32:P.underlying t32=some (.int .u32)) :
  qTA P X side f ⟨[.val te,.val tb],.val t32,87,true⟩:=by
 refine⟨yQE hb,fun ok w vs ds hA hok hRd hp=>?_⟩;obtain @⟨⟩ | @⟨_,v1,d1,_,_,_,h1,hA⟩:=hA;obtain @⟨⟩ | @⟨_,v2,d2,_,_,_,h2,hA⟩:=hA;cases hA;cases h1 with
 | val h1 =>
 cases h2 with
 | val h2 =>
 obtain⟨b,hbd,hl⟩:∃b,d2 = .bytes b/\4<=b.length:=hp rfl;subst hbd;have hv1:=yGJ ha ht h1;subst hv1;obtain⟨b0,b1,b2,b3,r,rfl⟩:=len4 hl;have hB:=h2.bytesAt hub he;cases hB with
 | some hsp hcl hcap hmax =>
  rename_i ad cap;have hs:ad.spot=none:=hsp (by simp only[List.length_cons] at hcap;omega);obtain⟨g,o,sp⟩:=ad;simp only at hs;subst hs;have hc:∀(j:Nat) (x:UInt8),(b0::b1::b2::b3::r)[j]? = some x->w.cell? ⟨g,o+j,none⟩=some (.int .u8 (x.toNat:Int)):=fun j x hx=>hcl j _ (by rw[List.getElem?_map,hx];rfl)
  subst hf;refine(Go.Proofs.Any.binary_BE_Uint32 L g o _ cap b0 b1 b2 b3 w (by simp only[List.length_cons];omega) (hc 0 _ rfl) (hc 1 _ rfl) (hc 2 _ rfl) (hc 3 _ rfl)).mono fun e' w' he'=>?_
  obtain⟨rfl,hbl⟩:=he';refine⟨_,rfl,⟨hbl.os,hbl.tape,hbl.output,hbl.size,fun k hk _=>hbl.block k hk⟩,fun ok' _ _=>?_⟩;have e1:Go.Lib.beNat [b0,b1,b2,b3]=beN [b0,b1,b2,b3]:=by
   simp[Go.Lib.beNat,Go.Lib.beFrom,beN]
  have hlt:beN [b0,b1,b2,b3]<256 ^ 4:=qLI _;show Rep P ok' w' t32 _ (X 87 [d1,.bytes (b0::b1::b2::b3::r)]);rw[X_87,yDA,e1];refine .int h32 (zPC ?_);simp[IntKind.min,IntKind.max,IntKind.signed,IntKind.bits];omega
end Go.Mx
