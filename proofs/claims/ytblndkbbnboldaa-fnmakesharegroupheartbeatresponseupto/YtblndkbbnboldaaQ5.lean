/- Part of a verified symbolic run of the program's code (no condition of its own). -/
import Derived.Test.YtblndkbbnboldaaQ4
import Derived.ChangeArms
import Derived.ChangeShapes
import Derived.Maps.RangeWalk
import Derived.Maps.OwnSet
import Derived.WalkKit
set_option linter.unusedVariables false
set_option linter.unusedSimpArgs false
namespace Go.Mx
open Go Go.Dx
theorem yUG:∀ {l:List T},wfTl l=true ↔ ∀x∈l,wfT x=true
 | []=>by simp[wfTl]
 | a::l=>by simp[wfTl,yUG (l:=l)]
section
variable {P:Program} {ok:Nat->Prop} {w:World}
theorem isI_u32{n:Int}(h:(Lit.int .u32 n).wf=true):0<=n/\n<4294967296:=by
 simp[Lit.wf,IntKind.min,IntKind.max,IntKind.signed,IntKind.bits] at h;omega
theorem rep_tagW{t:TypeId}{v:Value}{x:Tg}(h:qEG P t=true)(hr:Rep P ok w t v x.d):wfTg x=true:=by
 unfold qEG at h;simp only[Bool.and_eq_true] at h;obtain⟨ha,h⟩:=h;obtain⟨ds,hd,hlen,hcell⟩:=zEF ha hr;have hd':ds=[.int x.key,encB x.val]:=by simp only[Tg.d,D.row.injEq] at hd;exact hd.symm
 subst hd';split at h
 ·rename_i a b hty;simp only[Bool.and_eq_true] at h;rw[hty] at hcell;obtain⟨v1,r1⟩:=hcell 0 a _ rfl rfl;obtain⟨n,hn,hw⟩:=zXB h.1 r1;cases hn
  have:=isI_u32 hw
  simp[wfTg,this]
 ·cases h
theorem zQK{t:TypeId}{v:Value}{l:Option (List Tg)}(h:xJF P t=true)(hr:Rep P ok w t v (encU l)):(l.getD []).all wfTg=true:=by
 unfold xJF at h;split at h
 ·rename_i e he;rcases xJI he (qFG h) hr with hx|⟨ds,hx,hall⟩
  ·cases l with
   | none=>rfl
   | some l=>simp[encU] at hx
  ·cases l with
   | none=>rfl
   | some l =>
    simp only[encU,D.list.injEq] at hx;subst hx;refine List.all_eq_true.2 fun x hx=>?_
    obtain⟨v',hv⟩:=hall x.d (List.mem_map.2 ⟨x,hx,rfl⟩);exact rep_tagW h hv
 ·cases h
theorem zRK{t:TypeId}{v:Value}{d:D}(hr:Rep P ok w t v d):(yBC P t=true -> ∀x:T,d=x.d->wfT x=true) /\ ∀e,sl P t=some e->yBC P e=true -> ∀l,d=encT l->wfTo l=true:=by
 have noAgg:∀ {t:TypeId} {d:TypeDesc},P.underlying t=some d->zFA d=false -> ¬yBC P t=true:=fun hu hd h=>by
  obtain⟨d',hu',ha⟩:=yOF (xKF h);rw[hu] at hu';cases hu';rw[hd] at ha;cases ha
 have noSl:∀ {t e:TypeId} {d:TypeDesc},P.underlying t=some d->sl P t=some e->d = .slice e:=fun hu h=>by
  have:=yJK h
  rw[hu] at this;cases this;rfl
 induction hr with
 | int hu _=>exact⟨fun h=>absurd h (noAgg hu rfl),fun e he=>absurd (noSl hu he) (by simp)⟩
 | bool hu=>exact⟨fun h=>absurd h (noAgg hu rfl),fun e he=>absurd (noSl hu he) (by simp)⟩
 | str hu _=>exact⟨fun h=>absurd h (noAgg hu rfl),fun e he=>absurd (noSl hu he) (by simp)⟩
 | flt hu=>exact⟨fun h=>absurd h (noAgg hu rfl),fun e he=>absurd (noSl hu he) (by simp)⟩
 | snil hu =>
  refine⟨fun h=>absurd h (noAgg hu rfl),fun e he ht l hl=>?_⟩;cases l with
  | none=>rfl
  | some l=>simp[encT] at hl
 | bytes hu he8 _ _ _ _ =>
  refine⟨fun h=>absurd h (noAgg hu rfl),fun e he ht=>?_⟩
  have:=noSl hu he
  cases this;exact absurd ht (noAgg he8 rfl)
 | list hu he8 hi hok hlen hcap hmax hsz hc hr ih =>
  rename_i t' e' cap ad i vs ds;refine⟨fun h=>absurd h (noAgg hu rfl),fun e he ht l hl=>?_⟩
  have:=noSl hu he
  cases this;cases l with
  | none=>rfl
  | some l =>
   simp only[encT,D.list.injEq,xHD] at hl;subst hl;refine yUG.2 fun x hx=>?_
   obtain⟨j,hj,hjx⟩:=List.mem_iff_getElem.1 hx;have hj1:(l.map T.d)[j]? = some x.d:=by rw[List.getElem?_map,List.getElem?_eq_getElem hj,hjx];rfl
   have hj2:j<vs.length:=by simp at hlen;omega
   exact(ih j _ _ (List.getElem?_eq_getElem hj2) hj1).1 ht x rfl
 | row hu hd hlen hlen' h1 hr ih =>
  rename_i t' d' vs ds;refine⟨fun h x hx=>?_,fun e he ht=>?_⟩
  rotate_left
  ·have:=noSl hu he
   subst this;simp[zFA] at hd
  have h0:=h;unfold yBC at h;simp only[Bool.and_eq_true] at h;obtain⟨ha,h⟩:=h;split at h
  ·rename_i a b c d'' e hty;simp only[Bool.and_eq_true,decide_eq_true_eq] at h;obtain⟨⟨⟨⟨q1,q2⟩,q3⟩,q4⟩,q5⟩:=h;obtain⟨n,s,bb,l,u⟩:=x;simp only[T.d,D.row.injEq] at hx;subst hx;have cell:∀(j:Nat),j<5 -> ∃v',vs[j]? = some v':=fun j hj=>by
    have hj2:j<vs.length:=by rw[hlen,hty];exact hj
    exact⟨vs[j],List.getElem?_eq_getElem hj2⟩
   rw[hty] at hr ih;obtain⟨v1,r1⟩:=cell 0 (by omega);obtain⟨v4,r4⟩:=cell 3 (by omega);obtain⟨v5,r5⟩:=cell 4 (by omega);obtain⟨n',hn,hw⟩:=zXB q1 (hr 0 a v1 _ rfl r1 rfl);cases hn;have hl:=(ih 3 d'' v4 _ rfl r4 rfl).2 t' q4 h0 l rfl;have hu:=zQK q5 (hr 4 e v5 _ rfl r5 rfl);simp only[wfT,Bool.and_eq_true];exact⟨⟨hw,hl⟩,hu⟩
  ·cases h
 | pnil hu=>exact⟨fun h=>absurd h (noAgg hu rfl),fun e he=>absurd (noSl hu he) (by simp)⟩
 | ptr hu _ _ _ _=>exact⟨fun h=>absurd h (noAgg hu rfl),fun e he=>absurd (noSl hu he) (by simp)⟩
 | mnil hu=>exact⟨fun h=>absurd h (noAgg hu rfl),fun e he=>absurd (noSl hu he) (by simp)⟩
 | map hu _ _ _ _ _ _ _ _ _ _=>exact⟨fun h=>absurd h (noAgg hu rfl),fun e he=>absurd (noSl hu he) (by simp)⟩
end
end Go.Mx
namespace Go.Mx
open Go Go.Dx
theorem zMD(x:Tg):∀(l:List Tg) (y:Tg),y∈xAA x l->y=x∨y∈l
 | [],y,h=>by simp[xAA] at h;exact .inl h
 | t::r,y,h=>by
  simp only[xAA] at h;split at h
  ·rcases List.mem_cons.1 h with rfl|h
   ·simp
   ·rcases zMD x r y h with h|h
    ·exact .inl h
    ·exact .inr (by simp[h])
  ·split at h
   ·exact .inr h
   ·rcases List.mem_cons.1 h with h|h
    ·exact .inl h
    ·exact .inr h
theorem xGF(x:Tg):∀(l:List Tg),SrtT l->SrtT (xAA x l)
 | [],_=>by simp[xAA,SrtT]
 | t::r,h=>by
  obtain⟨h1,h2⟩:=List.pairwise_cons.1 h;simp only[xAA];split
  ·rename_i hlt;refine List.pairwise_cons.2 ⟨fun y hy=>?_,xGF x r h2⟩;rcases zMD x r y hy with rfl|hy
   ·exact hlt
   ·exact h1 y hy
  ·split
   ·exact h
   ·refine List.pairwise_cons.2 ⟨fun y hy=>?_,h⟩;rcases List.mem_cons.1 hy with rfl|hy
    ·omega
    ·have:=h1 y hy;omega
theorem qAE(x:Tg):∀(l:List Tg),(∀y∈l,y.key<x.key)->xAA x l=l++[x]
 | [],_=>rfl
 | t::r,h=>by
  simp only[xAA,if_pos (h t (by simp))];rw[qAE x r (fun y hy=>h y (by simp[hy]))];rfl
theorem yPG(k:Int):∀(l out:List Tg),SrtT out->(∀y∈out,k<=y.key)->SrtT (l.foldl (fun out t=>if t.key<k then out else xAA t out) out) /\ ∀y∈l.foldl (fun out t=>if t.key<k then out else xAA t out) out,k<=y.key/\(y∈out∨y∈l)
 | [],out,h,hk=>⟨h,fun y hy=>⟨hk y hy,.inl hy⟩⟩
 | t::l,out,h,hk=>by
  simp only[List.foldl];by_cases c:t.key<k
  ·rw[if_pos c];obtain⟨a,b⟩:=yPG k l out h hk;exact⟨a,fun y hy=>⟨(b y hy).1,(b y hy).2.imp id (fun h=>by simp[h])⟩⟩
  ·rw[if_neg c];obtain⟨a,b⟩:=yPG k l (xAA t out) (xGF t out h) (fun y hy=>by
    rcases zMD t out y hy with rfl|hy
    ·omega
    ·exact hk y hy)
   refine⟨a,fun y hy=>⟨(b y hy).1,?_⟩⟩;rcases(b y hy).2 with h|h
   ·rcases zMD t out y h with rfl|h
    ·exact .inr (by simp)
    ·exact .inl h
   ·exact .inr (by simp[h])
theorem xXI(fs:List Fl)(u:Option (List Tg)):SrtT (zRA fs u) /\ ∀y∈zRA fs u,(xZA fs:Int)<=y.key/\y∈u.getD []:=by
 obtain⟨a,b⟩:=yPG (xZA fs) ((u.getD []).take Most) [] List.Pairwise.nil (fun y hy=>by cases hy);refine⟨a,fun y hy=>⟨(b y hy).1,?_⟩⟩;rcases(b y hy).2 with h|h
 ·cases h
 ·exact List.mem_of_mem_take h
theorem zXF(k:Int):∀(l out:List Tg),SrtT (out++l)->(∀y∈l,k<=y.key)->l.foldl (fun out t=>if t.key<k then out else xAA t out) out=out++l
 | [],out,_,_=>by simp
 | t::l,out,h,hk=>by
  simp only[List.foldl];rw[if_neg (by have:=hk t (by simp);omega),qAE t out (fun y hy=>(List.pairwise_append.1 h).2.2 y hy t (by simp))];rw[zXF k l (out++[t]) (by simpa using h) (fun y hy=>hk y (by simp[hy]))]
  simp
theorem unk_id(fs:List Fl)(l:List Tg)(h:SrtT l)(hk:∀y∈l,(xZA fs:Int)<=y.key)(hl:l.length<=Most):zRA fs (nz l)=l:=by
 unfold zRA;rw[xBA,List.take_of_length_le hl]
 have:=zXF (xZA fs) l [] (by simpa using h) hk
 simpa using this
theorem yLK{l:List Tg}(h:SrtT l):SrtT (l.map cut):=List.pairwise_map.2 (h.imp fun h=>h)
theorem unk_cut(fs:List Fl)(u:Option (List Tg)):zRA fs (nz ((zRA fs u).map cut))=(zRA fs u).map cut:=by
 obtain⟨a,b⟩:=xXI fs u;refine unk_id fs _ (yLK a) (fun y hy=>?_) (by rw[List.length_map];exact zYB fs u);obtain⟨z,hz,rfl⟩:=List.mem_map.1 hy;exact(b z hz).1
theorem unkB_cut(x:Tg):unkB (cut x)=unkB x:=by
 unfold unkB cut;simp only[qIB];rw[List.take_take];simp
mutual
def okU:Fl->Bool
 | .mk _ _ _ n _ _ _ s=>decide (n<=0)&&okUs s
def okUs:Option (List Fl)->Bool
 | none=>true
 | some l=>okUl l
def okUl:List Fl->Bool
 | []=>true
 | f::r=>okU f&&okUl r
end
mutual
def okG:Fl->Bool
 | .mk k a b n g d o s=>(decide (g<0) || (okU (.mk k a b n g d o s)&&(decide (k≠11) || decide (n<0))))&&(decide (k≠11) || decide (o≠11))&&okGs s
def okGs:Option (List Fl)->Bool
 | none=>true
 | some l=>okGl l
def okGl:List Fl->Bool
 | []=>true
 | f::r=>okG f&&okGl r
end
theorem yYI:∀ {l:List Fl},okGl l=true -> ∀f∈l,okG f=true
 | a::l,h,f,hf=>by
  simp only[okGl,Bool.and_eq_true] at h;rcases List.mem_cons.1 hf with rfl|hf
  ·exact h.1
  ·exact yYI h.2 f hf
theorem at_nz(l:List T)(i:Nat)(n:Int)(s:Option (List UInt8))(b:Bool)(u:Option (List Tg)):at' (.mk n s b (nz l) u) i=l.getD i T.zero:=by
 have:(T.mk n s b (nz l) u).L=l:=by show (nz l).getD []=l;exact xBA l
 unfold at';rw[this];by_cases h:i<l.length
 ·rw[if_pos (by omega)];rfl
 ·rw[if_neg (by omega),List.getD_eq_getElem?_getD,List.getElem?_eq_none (by omega)];rfl
theorem zJE{A B:Type}{g g':Nat->A->B}:∀(l:List A) (k:Nat),(∀i a,l[i]? = some a->g (k+i) a=g' (k+i) a)->mapI g k l=mapI g' k l
 | [],_,_=>rfl
 | a::l,k,h=>by
  simp only[mapI];have h0:g k a=g' k a:=h 0 a rfl;have h1:mapI g (k+1) l=mapI g' (k+1) l:=zJE l (k+1) (fun i b hb=>by
   have:=h (i+1) b hb
   rwa [show k+(i+1)=k+1+i by omega] at this)
  rw[h0,h1]
theorem yMI(n:Int)(s:Option (List UInt8))(b:Bool)(l:List T)(u:Option (List Tg)):given (.mk n s b (nz l) u) = .mk n s b (nz (l.map given)) (nz (u.getD [])):=by
 cases l with
 | nil=>rfl
 | cons a l=>simp only[nz,given,xCF,zLD]
theorem gF(fs:Option (List Fl))(v:Int)(t:T):given (FitS fs v t) = .mk 0 none false (nz (mapI (fun i f=>given (xNA f v (at' t i))) 0 (fs.getD []))) (nz ((zRA (fs.getD []) t.u).map cut)):=by
 rw[yRJ,yMI,xZB,xBA]
theorem at_gF(fs:Option (List Fl))(v:Int)(t:T)(i:Nat)(f:Fl)(h:(fs.getD [])[i]? = some f):at' (given (FitS fs v t)) i=given (xNA f v (at' t i)):=by
 rw[gF,at_nz,List.getD_eq_getElem?_getD,zTG _ _ 0 i f h,Nat.zero_add];rfl
theorem u_gF(fs:Option (List Fl))(v:Int)(t:T):zRA (fs.getD []) (given (FitS fs v t)).u=(zRA (fs.getD []) t.u).map cut:=by
 rw[gF];exact unk_cut _ _
theorem given_n(t:T):(given t).n=t.n:=by cases t;rfl
theorem given_s(t:T):(given t).s=t.s:=by cases t;rfl
theorem zAJ(t:T):(given t).null=t.null:=by cases t;rfl
theorem qAJ(t:T):(given t).L=t.L.map given:=by
 obtain⟨n,s,b,l,u⟩:=t;show (xCF l).getD []=(l.getD []).map given;cases l with
 | none=>rfl
 | some l=>rw[xCF,xBA,zLD];rfl
theorem qBJ(t:T):(given t).u=nz t.U:=by cases t;rfl
end Go.Mx
namespace Go.Mx
open Go Go.Dx
theorem partS_nl(fs:Option (List Fl))(v:Int)(x:Bool){a b:T}(hl:a.L=b.L)(hu:zRA (fs.getD []) a.u=zRA (fs.getD []) b.u):yKA fs v x a=yKA fs v x b:=by
 have hat:∀i,at' a i=at' b i:=fun i=>by unfold at';rw[hl]
 have e:rowP v x a=rowP v x b:=by funext i f;unfold rowP;rw[hat]
 rw[zJC,zJC];unfold yAG;rw[e,hu]
theorem xEK(fs:Option (List Fl)){a b:T}(hl:a.L=b.L)(hu:zRA (fs.getD []) a.u=zRA (fs.getD []) b.u):qSD fs a=qSD fs b:=by
 rw[zBC,zBC,hu];have hat:∀i,at' a i=at' b i:=fun i=>by unfold at';rw[hl]
 have:∀(l:List Fl) (i:Nat),yHB l i a=yHB l i b:=fun l=>by
  induction l with
  | nil=>intro i;rfl
  | cons f r ih=>intro i;rw[yHB,yHB,hat,ih]
 rw[this]
def gB(kind:Int)(b:Bool)(sub:Option (List Fl))(v:Int)(t:T):T:=given (qGA kind b t (FitS sub v t))
theorem zKG(kind:Int)(b:Bool)(sub:Option (List Fl))(v:Int)(t:T):(gB kind b sub v t).null=if kind=8∨kind=9∨kind=10 then b else false:=by
 unfold gB qGA;rw[zAJ];by_cases h1:kind=8∨kind=9
 ·rw[if_pos h1,if_pos (by omega)];rfl
 ·rw[if_neg h1];by_cases h2:kind=10
  ·rw[if_pos h2,if_pos (by omega)];rfl
  ·rw[if_neg h2,if_neg (by omega)];rfl
theorem gB_S(kind:Int)(b:Bool)(sub:Option (List Fl))(v:Int)(t:T)(h:kind≠10):(gB kind b sub v t).S=if kind=8∨kind=9 then t.S.take Most else t.S:=by
 unfold gB qGA T.S;rw[given_s];by_cases h1:kind=8∨kind=9
 ·rw[if_pos h1,if_pos h1];exact qIB _
 ·rw[if_neg h1,if_neg h1,if_neg h];rfl
theorem gB_n(kind:Int)(b:Bool)(sub:Option (List Fl))(v:Int)(t:T)(h:kind≠10)(h8:kind≠8)(h9:kind≠9):(gB kind b sub v t).n=t.n:=by
 unfold gB qGA;rw[given_n,if_neg (by omega),if_neg h];rfl
theorem xZJ(b:Bool)(sub:Option (List Fl))(v:Int)(t:T):(gB 10 b sub v t).L=(given (FitS sub v t)).L/\(gB 10 b sub v t).u=(given (FitS sub v t)).u:=by
 unfold gB qGA;rw[if_neg (by decide),if_pos rfl,qAJ,qAJ,qBJ,qBJ];exact⟨rfl,rfl⟩
theorem xFI(b:Bool)(sub:Option (List Fl))(v:Int)(x:Bool)(t:T):yKA sub v x (gB 10 b sub v t)=yKA sub v x (given (FitS sub v t)) :=
 partS_nl _ _ _ (xZJ b sub v t).1 (by rw[(xZJ b sub v t).2])
theorem zPC{A:Type}(l:List A)(n:Nat):(l.take n).take n=l.take n:=by rw[List.take_take];simp
theorem xHK(kind:Int)(b:Bool)(sub:Option (List Fl))(v:Int)(x:Bool)(t:T)(hp:yKA sub v x (given (FitS sub v t))=yKA sub v x t) :
  yOA kind b x (gB kind b sub v t) (yKA sub v x (gB kind b sub v t))=yOA kind b x t (yKA sub v x t):=by
 by_cases h10:kind=10
 ·subst h10;unfold yOA;simp only[show ¬((10:Int)=0) by decide,show ¬((10:Int)=7) by decide,show ¬((10:Int)=8) by decide,show ¬((10:Int)=9) by decide,if_true,if_false];rw[xFI,hp]
 ·unfold yOA;by_cases h8:kind=8
  ·subst h8;rw[gB_S _ _ _ _ _ (by omega),if_pos (show (8:Int)=8∨(8:Int)=9 from .inl rfl)];simp only[show ¬((8:Int)=0) by decide,show ¬((8:Int)=7) by decide,if_true,if_false,zPC]
  ·by_cases h9:kind=9
   ·subst h9;rw[gB_S _ _ _ _ _ (by omega),if_pos (show (9:Int)=8∨(9:Int)=9 from .inr rfl)];simp only[show ¬((9:Int)=0) by decide,show ¬((9:Int)=7) by decide,show ¬((9:Int)=8) by decide,if_true,if_false,zPC]
   ·rw[gB_S _ _ _ _ _ h10,gB_n _ _ _ _ _ h10 h8 h9,if_neg (show ¬(kind=8∨kind=9) by omega)];simp only[h8,h9,h10,if_false]
theorem xSD(k fr to nl tg df of:Int)(sub:Option (List Fl))(v:Int)(t:T)(h:k≠11):given (xNA (.mk k fr to nl tg df of sub) v t)=gB k (Mx.null (.mk k fr to nl tg df of sub) v t) sub v t:=by
 rw[xNA,if_neg h];rfl
theorem xRD(fr to nl tg df of:Int)(sub:Option (List Fl))(v:Int)(t:T):given (xNA (.mk 11 fr to nl tg df of sub) v t) = .mk 0 none (Mx.null (.mk 11 fr to nl tg df of sub) v t || (decide (0<=tg)&&t.L.length==0)) (nz ((t.L.take Most).map (gB of false sub v))) none:=by
 rw[xNA,if_pos rfl,yMI,List.map_map];rfl
theorem mk_L(n:Int)(s:Option (List UInt8))(b:Bool)(l:List T)(u:Option (List Tg)):(T.mk n s b (nz l) u).L=l:=by show (nz l).getD []=l;exact xBA l
theorem xPB(f:Fl)(v:Int)(t:T):Mx.null f v t=(t.null&&(decide (0<=f.null)&&decide (f.null<=v))):=rfl
theorem yEH:∀(l:List Fl) (a b:T) (i:Nat),(∀k f,l[k]? = some f->zNB f (at' a (i+k:Nat))=zNB f (at' b (i+k:Nat)))->yHB l i a=yHB l i b
 | [],_,_,_,_=>rfl
 | f::r,a,b,i,h=>by
  rw[yHB,yHB,show zNB f (at' a i)=zNB f (at' b i) from h 0 f rfl,yEH r a b (i+1) (fun k g hg=>by
   have:=h (k+1) g hg
   rwa [show i+(k+1)=i+1+k by omega] at this)]
theorem xZI(k fr to nl tg df of:Int)(sub:Option (List Fl))(t:T):zNB (.mk k fr to nl tg df of sub) t=if k=0 then decide (t.n%2=df) else if k=7 then (t.S.take 16).all (· == 0) else
  if k=8∨k=9 then (if 0<=nl then t.null else t.S.length==0) else if k=11 then t.L.length==0 else
  if k=10 then qSD sub t else zQA t.n (xTC k).toNat==zQA df (xTC k).toNat:=by
 rw[zNB]
mutual
theorem usualG:∀(f:Fl) (v:Int) (t:T),0<=v->okU f=true->zNB f (given (xNA f v t))=zNB f t
 | .mk k fr to nl tg df of sub,v,t,hv,h=>by
  simp only[okU,Bool.and_eq_true,decide_eq_true_eq] at h;obtain⟨hn,hs⟩:=h;have hsub:=usualGs sub v t hv hs;rw[xZI,xZI];by_cases h11:k=11
  ·subst h11;rw[xRD];simp only[show ¬((11:Int)=0) by decide,show ¬((11:Int)=7) by decide,show ¬((11:Int)=8∨(11:Int)=9) by decide,if_true,if_false];rw[mk_L]
   have:((t.L.take Most).map (gB of false sub v)).length=min Most t.L.length:=by simp
   rw[this];have e:(min Most t.L.length==0)=(t.L.length==0):=by
    rw[Bool.eq_iff_iff];simp[Most]
   rw[e]
  ·rw[xSD _ _ _ _ _ _ _ _ _ _ h11];by_cases h10:k=10
   ·subst h10;simp only[show ¬((10:Int)=0) by decide,show ¬((10:Int)=7) by decide,show ¬((10:Int)=8∨(10:Int)=9) by decide,show ¬((10:Int)=11) by decide,if_true,if_false];rw[<- hsub];exact xEK _ (xZJ _ sub v t).1 (by rw[(xZJ _ sub v t).2])
   ·rw[gB_S _ _ _ _ _ h10,zKG];by_cases h89:k=8∨k=9
    ·have h0:k≠0:=by omega
     have h7:k≠7:=by omega
     have h8a:k=8∨k=9∨k=10:=by omega
     simp only[if_neg h0,if_neg h7,if_pos h89,if_pos h8a];by_cases hz:0<=nl
     ·have:nl=0:=by omega
      subst this;simp[Mx.null,Fl.null,hv]
     ·rw[if_neg hz,if_neg hz]
      have:(t.S.take Most).length=min Most t.S.length:=by simp
      rw[this,Bool.eq_iff_iff];simp[Most]
    ·rw[gB_n _ _ _ _ _ h10 (by omega) (by omega)];simp only[if_neg h89,if_neg h10,if_neg h11]
theorem usualGs:∀(fs:Option (List Fl)) (v:Int) (t:T),0<=v->okUs fs=true->qSD fs (given (FitS fs v t))=qSD fs t
 | none,v,t,hv,h=>by
  rw[zBC,zBC,u_gF,List.length_map];rfl
 | some l,v,t,hv,h=>by
  have hl:=xDK l v hv h;have e:yHB l 0 (given (FitS (some l) v t))=yHB l 0 t:=yEH l _ _ 0 (fun k f hk=>by
   have:=hl f (List.mem_of_getElem? hk) (at' t k)
   rw[Nat.zero_add,at_gF (some l) v t k f hk];exact this)
  rw[zBC,zBC,u_gF,List.length_map];show (yHB l 0 (given (FitS (some l) v t))&&_)=(yHB l 0 t&&_);rw[e]
theorem xDK:∀(l:List Fl) (v:Int),0<=v->okUl l=true -> ∀f∈l,∀t,zNB f (given (xNA f v t))=zNB f t
 | [],_,_,_,f,hf,_=>by cases hf
 | g::r,v,hv,h,f,hf,t=>by
  simp only[okUl,Bool.and_eq_true] at h;rcases List.mem_cons.1 hf with h1|h1
  ·rw[h1];exact usualG g v t hv h.1
  ·exact xDK r v hv h.2 f h1 t
end
theorem xRG{A:Type}{a b:List A}{B:Type}(p:A->Option B)(h:a.map p=b.map p):a.filterMap p=b.filterMap p:=by
 have e:∀l:List A,l.filterMap p=(l.map p).filterMap id:=fun l=>by rw[List.filterMap_map];rfl
 rw[e,e,h]
theorem qUG(v:Int)(x:Bool)(fs:List Fl)(u u':Option (List Tg))(rows rows':List (Fl×T×List UInt8))(hu:zRA fs u'=(zRA fs u).map cut)
  (h1:(rows'.map fun r=>if r.1.tag<0/\has r.1 v=true then r.2.2 else [])=rows.map fun r=>if r.1.tag<0/\has r.1 v=true then r.2.2 else [])
  (h2:∀g:Nat,(rows'.map fun r=>if r.1.tag=(g:Int)/\zNB r.1 r.2.1=false then some (tagB g r.2.2) else none)=rows.map fun r=>if r.1.tag=(g:Int)/\zNB r.1 r.2.1=false then some (tagB g r.2.2) else none):yAG v x fs u' rows'=yAG v x fs u rows:=by
 unfold yAG;have ht:yGJ rows' (xZA fs)=yGJ rows (xZA fs):=by
  unfold yGJ
  congr 1
  funext g;exact xRG _ (h2 g)
 have hm:(zRA fs u').map (fun x=>tagB (IntKind.u64.wrap x.key).toNat ((x.val.getD []).take Most))=(zRA fs u).map (fun x=>tagB (IntKind.u64.wrap x.key).toNat ((x.val.getD []).take Most)):=by
  rw[hu,List.map_map];apply List.map_congr_left;intro z _;exact unkB_cut z
 rw[h1,ht,hm]
mutual
theorem fieldG:∀(f:Fl) (v:Int) (x:Bool) (t:T),0<=v->okG f=true->(f.tag<0∨zNB f t=false)->field f v x (given (xNA f v t))=field f v x t
 | .mk k fr to nl tg df of sub,v,x,t,hv,h,hu=>by
  simp only[okG,Bool.and_eq_true,Bool.or_eq_true,decide_eq_true_eq] at h;obtain⟨⟨hg,ho⟩,hs⟩:=h;have hsub:∀t,yKA sub v x (given (FitS sub v t))=yKA sub v x t:=fun t=>partG sub v x t hv hs
  rw[yPC,yPC];simp only[Fl.kind,Fl.null,Fl.sub,Fl.of];by_cases h11:k=11
  ·subst h11;have hn:Mx.null (.mk 11 fr to nl tg df of sub) v (given (xNA (.mk 11 fr to nl tg df of sub) v t))=Mx.null (.mk 11 fr to nl tg df of sub) v t:=by
    rw[xRD,xPB];simp only[T.null,Fl.null];rcases hu with hu|hu
    ·simp only[Fl.tag] at hu
     have:decide (0<=tg)=false:=by simp;omega
     rw[this,xPB];simp only[Fl.null];cases t.null <;> cases decide (0<=nl) <;> cases decide (nl<=v) <;> simp
    ·have h5:(t.L.length==0)=false:=by
      rw[xYI] at hu;simpa[Fl.kind] using hu
     rw[h5,xPB];simp only[Fl.null];cases t.null <;> cases decide (0<=nl) <;> cases decide (nl<=v) <;> simp
   rw[hn,xRD];unfold zZC;rw[if_pos rfl,if_pos rfl,mk_L];have ht:((t.L.take Most).map (gB of false sub v)).take Most=(t.L.take Most).map (gB of false sub v):=by
    rw[<- List.map_take,zPC]
   cases Mx.null (.mk 11 fr to nl tg df of sub) v t with
   | true=>rfl
   | false =>
    simp only[Bool.false_eq_true,if_false];rw[ht,List.length_map,List.map_map]
    congr 2
    apply List.map_congr_left;intro z _;exact xHK of false sub v x z (hsub z)
  ·have hn:Mx.null (.mk k fr to nl tg df of sub) v (given (xNA (.mk k fr to nl tg df of sub) v t))=if k=8∨k=9∨k=10 then Mx.null (.mk k fr to nl tg df of sub) v t else false:=by
    rw[xSD _ _ _ _ _ _ _ _ _ _ h11,xPB,zKG];simp only[Fl.null];split
    ·rw[xPB];simp only[Fl.null]
     cases t.null <;> cases decide (0<=nl) <;> cases decide (nl<=v) <;> simp
    ·rfl
   rw[hn,xSD _ _ _ _ _ _ _ _ _ _ h11];generalize Mx.null (.mk k fr to nl tg df of sub) v t=b;unfold zZC;rw[if_neg h11,if_neg h11];by_cases hk:k=8∨k=9∨k=10
   ·rw[if_pos hk,xHK k b sub v x t (hsub t)];by_cases h10:k=10
    ·subst h10;show (if (10:Int)=10/\0<=nl then if b=true then zQA (-1) 1 else zQA 1 1++yKA sub v x (gB 10 b sub v t) else _)=(if (10:Int)=10/\0<=nl then if b=true then zQA (-1) 1 else zQA 1 1++yKA sub v x t else _);rw[xFI,hsub]
    ·rw[if_neg (by omega),if_neg (by omega)]
   ·rw[if_neg hk,if_neg (by omega),if_neg (by omega)];have hv:∀b':Bool,∀t' p,yOA k b' x t' p=yOA k b x t' p:=fun b' t' p=>by
     unfold yOA;rw[if_neg (show ¬k=8 by omega),if_neg (show ¬k=9 by omega),if_neg (show ¬k=8 by omega),if_neg (show ¬k=9 by omega)]
    rw[hv];exact xHK k b sub v x t (hsub t)
theorem partG:∀(fs:Option (List Fl)) (v:Int) (x:Bool) (t:T),0<=v->okGs fs=true->yKA fs v x (given (FitS fs v t))=yKA fs v x t
 | none,v,x,t,hv,h=>by
  have hu:zRA [] (given (FitS none v t)).u=(zRA [] t.u).map cut:=u_gF none v t;rw[zJC,zJC];exact qUG v x [] _ _ _ _ hu rfl (fun _=>rfl)
 | some l,v,x,t,hv,h=>by
  have hl:=partGl l v x hv h;have hu:zRA l (given (FitS (some l) v t)).u=(zRA l t.u).map cut:=u_gF (some l) v t;rw[zJC,zJC];refine qUG v x l _ _ _ _ hu ?_ ?_
  ·rw[xZB,xZB];refine zJE l 0 (fun i f hf=>?_);have hm:=List.mem_of_getElem? hf;simp only[rowP,Nat.zero_add];by_cases c:f.tag<0/\has f v=true
   ·rw[if_pos c,if_pos c,at_gF (some l) v t i f hf,hl f hm _ (.inl c.1)]
   ·rw[if_neg c,if_neg c]
  ·intro g;rw[xZB,xZB];refine zJE l 0 (fun i f hf=>?_);have hm:=List.mem_of_getElem? hf;simp only[rowP,Nat.zero_add];rw[at_gF (some l) v t i f hf];by_cases c:f.tag=(g:Int)
   ·have ho:=yYI h f hm;have hu':okU f=true:=by
     cases f;simp only[Fl.tag] at c;simp only[okG,Bool.and_eq_true,Bool.or_eq_true,decide_eq_true_eq] at ho;rcases ho.1.1 with h1|h1
     ·omega
     ·exact h1.1
    rw[usualG f v _ hv hu'];by_cases d:zNB f (at' t i)=false
    ·rw[if_pos ⟨c,d⟩,if_pos ⟨c,d⟩,hl f hm _ (.inr d)]
    ·rw[if_neg (fun h=>d h.2),if_neg (fun h=>d h.2)]
   ·rw[if_neg (fun h=>c h.1),if_neg (fun h=>c h.1)]
theorem partGl:∀(l:List Fl) (v:Int) (x:Bool),0<=v->okGl l=true -> ∀f∈l,∀t,(f.tag<0∨zNB f t=false)->field f v x (given (xNA f v t))=field f v x t
 | [],_,_,_,_,f,hf,_,_=>by cases hf
 | g::r,v,x,hv,h,f,hf,t,hu=>by
  simp only[okGl,Bool.and_eq_true] at h;rcases List.mem_cons.1 hf with h1|h1
  ·rw[h1] at hu ⊢;exact fieldG g v x t hv h.1 hu
  ·exact partGl r v x hv h.2 f h1 t hu
end
end Go.Mx
namespace Go.Mx
open Go Go.Dx
def atE(s:DE)(i:Nat):DE:=.f (.ext 1) [s,.k (.int i)]
def uuE(z:DE):List DE:=(List.range 16).map fun j=>.f (.get j) [.f (.ext 28) [.f (.get 1) [z]]]
def tagsE(lv:Nat)(z:DE):DE:=.fold lv (.f (.get 4) [z]) [.k .nil] [.f (.ext 23) [.v (lv+2),.f (.get 0) [.v (lv+1)],.f (.get 1) [.v (lv+1)]]] 0
def rowE(l:List DE):DE:=match l with|[a]=>a|l=>.f .mkrow l
def listE(lv:Nat)(z:DE)(el:DE):DE:=.f .ite [.f .not [.f (.get 2) [z]],.fold lv (.f (.get 3) [z]) [.k (.list [])] [.f .app [.v (lv+2),.f .mklist [el]]] 0,.k .nil]
def qSI(lv:Nat)(k nl:Int)(z:DE)(sub:List DE):List DE :=
 if k=0 then [.f .eqI [.f (.band .i64) [.f (.get 0) [z],.k (.int 1)],.k (.int 1)]] else
 if k=1 then [.f (.wrap .i8) [.f (.get 0) [z]]] else
 if k=2 then [.f (.wrap .i16) [.f (.get 0) [z]]] else
 if k=3 then [.f (.wrap .i32) [.f (.get 0) [z]]] else
 if k=5 then [.f (.wrap .u16) [.f (.get 0) [z]]] else
 if k=7 then uuE z else
 if k=8 then (if nl<0 then [.f .toStr [.f (.get 1) [z]]] else [.f (.ext 26) [z]]) else
 if k=9 then [.f (.ext 27) [z]] else
 if k=10 then sub else [.f (.get 0) [z]]
def elV(k:Int)(l:List DE)(z:DE):DE:=if k=7 then .f (.ext 28) [.f (.get 1) [z]] else if k=10 then .f .mkrow l else rowE l
mutual
def cellF(tg:Bool)(lv:Nat):Fl->DE->List DE
 | .mk k _ _ nl _ _ of sub,z=>if k=11 then [listE lv z (elV of (qSI (lv+3) of (-1) (.v (lv+1)) (yHF tg (lv+3) sub (.v (lv+1)))) (.v (lv+1)))] else if k=10/\0<=nl then [.f (.ext (ptN sub)) [z]] else qSI lv k nl z (yHF tg lv sub z)
def yHF(tg:Bool)(lv:Nat):Option (List Fl)->DE->List DE
 | none,z=>if tg then [tagsE lv z] else []
 | some l,z=>xKJ tg lv l 0 z++(if tg then [tagsE lv z] else [])
def xKJ(tg:Bool)(lv:Nat):List Fl->Nat->DE->List DE
 | [],_,_=>[]
 | f::r,i,z=>cellF tg lv f (atE z i)++xKJ tg lv r (i+1) z
end
mutual
def wdF(tg:Bool):Fl->Nat
 | .mk k _ _ nl _ _ _ sub=>if k=7 then 16 else if k=10 then (if 0<=nl then 1 else wdS tg sub) else 1
def wdS(tg:Bool):Option (List Fl)->Nat
 | none=>if tg then 1 else 0
 | some l=>wdL tg l+(if tg then 1 else 0)
def wdL(tg:Bool):List Fl->Nat
 | []=>0
 | f::r=>wdF tg f+wdL tg r
end
def wdV(tg:Bool)(k:Int)(sub:Option (List Fl)):Nat:=if k=7 then 16 else if k=10 then wdS tg sub else 1
def xVD(r:DE)(n:Nat):List DE:=(List.range n).map fun j=>.f (.get j) [r]
def xMA(l:List DE):DE:=l.headD (.k .nil)
def octE(o:DE)(n:Int):DE:=.f .app [o,.f .mkbytes [.k (.int n)]]
def yIH(x:Bool)(c o:DE):DE:=if x then .f (.ext 25) [c,.f (.ext 10) [o,.f (.add .u32) [.k (.int 0),.f (.wrap .u32) [.f (.ext 24) [c]]]]] else o
def wrV(x:Bool)(k nl v:Int)(cs:List DE)(o sub:DE):DE :=
 let c:=xMA cs
 if k=0 then .f (.ext 2) [o,c] else
 if k=1 then .f (.ext 3) [o,c] else
 if k=2 then .f (.ext 4) [o,c] else
 if k=3 then .f (.ext 6) [o,c] else
 if k=5 then .f (.ext 5) [o,c] else
 if k=7 then .f (.ext 9) [o,.f .mkrow cs] else
 if k=8 then (if 0<=nl/\nl<=v then .f (.ext (if x then 14 else 13)) [o,c] else .f (.ext (if x then 12 else 11)) [o,if nl<0 then c else .f .ite [.f .not [.f .isNil [c]],.f (.get 0) [.f .deref [c]],.k (.str [])]]) else
 if k=9 then (if 0<=nl/\nl<=v then .f (.ext (if x then 18 else 17)) [o,c] else .f (.ext (if x then 16 else 15)) [o,c]) else
 if k=10 then sub else .f (.ext 7) [o,c]
def yWG(x:Bool)(nl v:Int)(c o:DE):DE :=
 if 0<=nl/\nl<=v then .f (.ext (if x then 22 else 21)) [o,.f .len [c],.f .isNil [c]] else .f (.ext (if x then 20 else 19)) [o,.f .len [c]]
mutual
def wrF(tg:Bool)(v:Int)(x:Bool)(lv:Nat):Fl->List DE->DE->DE
 | .mk k _ _ nl _ _ of sub,cs,o =>
  if k=11 then .fold lv (xMA cs) [yWG x nl v (xMA cs) o] [wrV x of (-1) v (xVD (.v (lv+1)) (wdV tg of sub)) (.v (lv+2)) (wrS tg v x (lv+3) sub (xVD (.v (lv+1)) (wdV tg of sub)) (.v (lv+2)))] 0 else
  if k=10/\0<=nl then .f .ite [.f .isNil [xMA cs],octE o 255,wrS tg v x lv sub (xVD (.f .deref [xMA cs]) (wdS tg sub)) (octE o 1)] else
  wrV x k nl v cs o (wrS tg v x lv sub cs o)
def wrS(tg:Bool)(v:Int)(x:Bool)(lv:Nat):Option (List Fl)->List DE->DE->DE
 | none,cs,o=>yIH x (xMA cs) o
 | some l,cs,o=>yIH x (xMA (cs.drop (wdL tg l))) (wrL tg v x lv l cs o)
def wrL(tg:Bool)(v:Int)(x:Bool)(lv:Nat):List Fl->List DE->DE->DE
 | [],_,o=>o
 | f::r,cs,o=>wrL tg v x lv r (cs.drop (wdF tg f)) (if f.tag<0/\has f v=true then wrF tg v x lv f (cs.take (wdF tg f)) o else o)
end
def xRI(m:Msg)(v:Int):DE:=if m.kept then .f (.ext 4) [.k .nil,.k (.int v)] else .k .nil
def msgE(m:Msg)(v:Int):DE:=wrS m.tg v (xFA m.fx v) 2 m.fs (yHF m.tg 2 m.fs (.v 1)) (xRI m v)
def yMH(n a:Nat):Nat:=(n+a-1) / a*a
mutual
def szF(tg:Bool):Fl->Nat×Nat
 | .mk k _ _ nl _ _ _ sub=>if k=11 then (24,8) else szV k nl (szS tg sub)
def szS(tg:Bool):Option (List Fl)->Nat×Nat
 | none=>if tg then (8,8) else (0,1)
 | some l=>let q:=szL tg l (0,1);let q:=if tg then (yMH q.1 8+8,8) else q;(yMH q.1 q.2,q.2)
def szL(tg:Bool):List Fl->Nat×Nat->Nat×Nat
 | [],q=>q
 | f::r,q=>let s:=szF tg f;szL tg r (yMH q.1 s.2+s.1,max q.2 s.2)
def szV(k nl:Int)(sub:Nat×Nat):Nat×Nat :=
 if k=0∨k=1 then (1,1) else if k=2∨k=5 then (2,2) else if k=3 then (4,4) else if k=7 then (16,1) else
 if k=8 then (if nl<0 then (16,8) else (8,8)) else if k=9 then (24,8) else if k=10 then (if 0<=nl then (8,8) else sub) else (8,8)
end
def qNG(lv:Nat)(z:DE):Ob:=.all (.f (.get 4) [z]) [.k .nil] [.f (.ext 23) [.v (lv+2),.f (.get 0) [.v (lv+1)],.f (.get 1) [.v (lv+1)]]] [.pre 23 [.v (lv+2),.f (.get 0) [.v (lv+1)],.f (.get 1) [.v (lv+1)]]]
def obV(k nl:Int)(z:DE)(sub:List Ob):List Ob :=
 if k=7 then [.pre 28 [.f (.get 1) [z]]] else
 if k=8 then (if nl<0 then [] else [.pre 26 [z]]) else
 if k=9 then [.pre 27 [z]] else
 if k=10 then sub else []
mutual
def obF(tg:Bool)(lv:Nat):Fl->DE->Nat->List Ob
 | .mk k _ _ nl _ _ of sub,s,i =>
  let z:=atE s i
  let p:Ob:=.pre 1 [s,.k (.int i)]
  if k=11 then
   let n:=(szV of (-1) (szS tg sub)).1
   let el:=elV of (qSI (lv+3) of (-1) (.v (lv+1)) (yHF tg (lv+3) sub (.v (lv+1)))) (.v (lv+1))
   let ap:DE:=.f .app [.v (lv+2),.f .mklist [el]]
   [.when (.f .not [.f (.get 2) [z]]) true [.all (.f (.get 3) [z]) [.k (.list [])] [ap] (.room ap n::obV of (-1) (.v (lv+1)) (obS tg (lv+3) sub (.v (lv+1)))),p,.cap (.f .len [.f (.get 3) [z]]) n,p],p]
  else if k=10/\0<=nl then [.pre (ptN sub) [z],p]
  else obV k nl z (obS tg lv sub z)++[p]
def obS(tg:Bool)(lv:Nat):Option (List Fl)->DE->List Ob
 | none,z=>if tg then [qNG lv z] else []
 | some l,z=>(if tg then [qNG lv z] else [])++obL tg lv l 0 z
def obL(tg:Bool)(lv:Nat):List Fl->Nat->DE->List Ob
 | [],_,_=>[]
 | f::r,i,z=>obL tg lv r (i+1) z++obF tg lv f z i
end
def qTG(x:Bool)(c o:DE):List Ob:=if x then
 let o':DE:=.f (.ext 10) [o,.f (.add .u32) [.k (.int 0),.f (.wrap .u32) [.f (.ext 24) [c]]]]
 [.pre 25 [c,o'],.pre 10 [o,.f (.add .u32) [.k (.int 0),.f (.wrap .u32) [.f (.ext 24) [c]]]],.pre 24 [c]] else []
def nilC(c:DE):Ob:=.when (.f .isNil [c]) true [.nz (.k (.int 0))]
def qIH(x:Bool)(p c o:DE):List Ob:=if x then
 let o':DE:=.f (.ext 10) [o,.f (.add .u32) [.k (.int 0),.f (.wrap .u32) [.f (.ext 24) [c]]]]
 [.pre 25 [c,o'],nilC p,.pre 10 [o,.f (.add .u32) [.k (.int 0),.f (.wrap .u32) [.f (.ext 24) [c]]]],.pre 24 [c],nilC p] else []
def obNil(k nl v:Int)(c:DE):List Ob:=if k=8/\0<=nl/\v<nl then [.when (.f .not [.f .isNil [c]]) true [.when (.f .isNil [c]) true [.nz (.k (.int 0))]]] else []
def zSJ:DE->List Ob
 | .f (.ext n) l=>[.pre n l]
 | _=>[]
mutual
def owF(tg:Bool)(v:Int)(x:Bool)(lv:Nat):Fl->List DE->DE->List Ob
 | .mk k _ _ nl _ _ of sub,cs,o =>
  if k=11 then
   let gs:=xVD (.v (lv+1)) (wdV tg of sub)
   let b:=wrV x of (-1) v gs (.v (lv+2)) (wrS tg v x (lv+3) sub gs (.v (lv+2)))
   [.all (xMA cs) [yWG x nl v (xMA cs) o] [b] (if of=10 then owS tg v x (lv+3) sub gs (.v (lv+2)) else zSJ b)]++zSJ (yWG x nl v (xMA cs) o)
  else if k=10 then (if 0<=nl then
   let c:=xMA cs
   [.when (.f .isNil [c]) true [.room (octE o 255) 1],.when (.f .isNil [c]) false (owP tg v x lv c sub (xVD (.f .deref [c]) (wdS tg sub)) (octE o 1))]
   else owS tg v x lv sub cs o) else zSJ (wrV x k nl v cs o (.k .nil))++obNil k nl v (xMA cs)
def owS(tg:Bool)(v:Int)(x:Bool)(lv:Nat):Option (List Fl)->List DE->DE->List Ob
 | none,cs,o=>qTG x (xMA cs) o
 | some l,cs,o=>qTG x (xMA (cs.drop (wdL tg l))) (wrL tg v x lv l cs o)++owL tg v x lv l cs o
def owP(tg:Bool)(v:Int)(x:Bool)(lv:Nat)(c:DE):Option (List Fl)->List DE->DE->List Ob
 | none,cs,o=>qIH x c (xMA cs) o++[.room o 1]
 | some l,cs,o=>qIH x c (xMA (cs.drop (wdL tg l))) (wrL tg v x lv l cs o)++(owPL tg v x lv c l cs o++[.room o 1])
def owPL(tg:Bool)(v:Int)(x:Bool)(lv:Nat)(c:DE):List Fl->List DE->DE->List Ob
 | [],_,_=>[]
 | f::r,cs,o=>(if f.tag<0/\has f v=true then
   owPL tg v x lv c r (cs.drop (wdF tg f)) (wrF tg v x lv f (cs.take (wdF tg f)) o)++(owF tg v x lv f (cs.take (wdF tg f)) o++[nilC c])
   else owPL tg v x lv c r (cs.drop (wdF tg f)) o)
def owL(tg:Bool)(v:Int)(x:Bool)(lv:Nat):List Fl->List DE->DE->List Ob
 | [],_,_=>[]
 | f::r,cs,o=>(if f.tag<0/\has f v=true then
   owL tg v x lv r (cs.drop (wdF tg f)) (wrF tg v x lv f (cs.take (wdF tg f)) o)++owF tg v x lv f (cs.take (wdF tg f)) o
  else owL tg v x lv r (cs.drop (wdF tg f)) o)
end
def msgO(m:Msg)(v:Int):List Ob:=owS m.tg v (xFA m.fx v) 2 m.fs (yHF m.tg 2 m.fs (.v 1)) (xRI m v)++(if m.kept then [.pre 4 [.k .nil,.k (.int v)]] else [])++obS m.tg 2 m.fs (.v 1)
end Go.Mx
namespace Go.Mx
open Go Go.Dx
mutual
def zMH(tg:Bool):Fl->Bool
 | .mk k _ _ nl _ _ of sub=>decide ((szV of (-1) (szS tg sub)).1<=100000)&&zRF tg sub&&(decide (k≠10) || decide (nl<0) || (tg&&ptOk sub))
def zRF(tg:Bool):Option (List Fl)->Bool
 | none=>true
 | some l=>qIF tg l
def qIF(tg:Bool):List Fl->Bool
 | []=>true
 | f::r=>zMH tg f&&qIF tg r
end
theorem ptOk_eq{sub:Option (List Fl)}(h:ptOk sub=true):(ptN sub=401∨ptN sub=402)/\ptSub (ptN sub)=sub:=by
 simp only[ptOk,Bool.and_eq_true,Bool.or_eq_true,beq_iff_eq] at h;refine⟨h.1,?_⟩
 have:=D.beq_eq h.2
 rw[<- zLA (ptSub (ptN sub)),<- this,zLA]
theorem pt_X{sub:Option (List Fl)}(h:ptOk sub=true)(t:D):X (ptN sub) [t]=qRI sub t/\(side (ptN sub) [t]=ptS sub t):=by
 obtain⟨h1,h2⟩:=ptOk_eq h;rcases h1 with h1|h1
 ·rw[h1] at h2 ⊢
  have:S401=sub:=h2
  rw[<- this];exact⟨rfl,rfl⟩
 ·rw[h1] at h2 ⊢
  have:S402=sub:=h2
  rw[<- this];exact⟨rfl,rfl⟩
theorem zNH{tg:Bool}{k a b nl g df of:Int}{sub:Option (List Fl)}(h:zMH tg (.mk k a b nl g df of sub)=true):(szV of (-1) (szS tg sub)).1<=100000/\zRF tg sub=true/\(k=10/\0<=nl->tg=true/\ptOk sub=true):=by
 simp only[zMH,Bool.and_eq_true,Bool.or_eq_true,decide_eq_true_eq] at h;refine⟨h.1.1,h.1.2,fun e=>?_⟩;rcases h.2 with(h|h)|h
 ·exact absurd e.1 h
 ·omega
 ·exact h
theorem xOG(a b:List DE)(J:List D):zDA X (a++b) J=zDA X a J++zDA X b J:=by
 induction a with
 | nil=>rfl
 | cons x a ih=>simp only[List.cons_append,zAA,ih]
theorem zLB{A:Type}(g:A->DE)(l:List A)(J:List D):zDA X (l.map g) J=l.map fun a=>(g a).eval X J:=by
 induction l with
 | nil=>rfl
 | cons x a ih=>simp only[List.map_cons,zAA,ih]
theorem ySE(l:List DE)(J:List D):zDA X l J=l.map fun a=>a.eval X J:=by
 have:=zLB (fun a=>a) l J
 simpa using this
theorem yPD{J:List D}{lv:Nat}(h:lv<=J.length)(i r a:D):(DE.v (lv+1)).eval X (J.take lv++[i,r,a])=r/\(DE.v (lv+2)).eval X (J.take lv++[i,r,a])=a/\lv+3<=(J.take lv++[i,r,a]).length:=by
 have hl:(J.take lv).length=lv:=by simp;omega
 refine⟨?_,?_,by simp;omega⟩
 ·rw[ev_v,List.getD_eq_getElem?_getD,List.getElem?_append_right (by omega),hl,show lv+1-lv=1 by omega];rfl
 ·rw[ev_v,List.getD_eq_getElem?_getD,List.getElem?_append_right (by omega),hl,show lv+2-lv=2 by omega];rfl
theorem yXF{J:List D}{lv:Nat}{s i0 b:DE}{g:D->D->D}(inv:D->Prop)(hi:inv (i0.eval X J))(h:∀(i:Nat) r a,r∈(s.eval X J).rows->inv a->b.eval X (J.take lv++[.int i,r,a])=g r a/\inv (g r a)) :
  (DE.fold lv s [i0] [b] 0).eval X J=(s.eval X J).rows.foldl (fun a r=>g r a) (i0.eval X J):=by
 rw[DE.eval];have key:∀(l:List D) (i:Nat) (a:D),inv a->(∀r∈l,r∈(s.eval X J).rows)->yJA (fun i r acc=>zDA X [b] (J.take lv++(.int i::r::acc))) i l [a]=[l.foldl (fun a r=>g r a) a]:=by
  intro l
  induction l with
  | nil=>intro i a _ _;rfl
  | cons r l ih =>
   intro i a ha hl;simp only[yJA,List.foldl,zAA,zBA];obtain⟨h1,h2⟩:=h i r a (hl r (by simp)) ha;rw[h1];exact ih (i+1) _ h2 (fun r hr=>hl r (by simp[hr]))
 have e:=key _ 0 _ hi (fun r hr=>hr);show (yJA (fun i r acc=>zDA X [b] (J.take lv++(.int i::r::acc))) 0 (s.eval X J).rows [i0.eval X J]).getD 0 .nil=_;rw[e];rfl
theorem yXK(s:List UInt8):(u16D s).length=16:=by rw[u16D,List.length_map,qYB]
theorem qCF(l:List D):(List.range l.length).map (fun j=>l.getD j .nil)=l:=by
 apply List.ext_getElem (by simp);intro i h1 h2;simp[List.getD_eq_getElem?_getD,h2]
section
variable {J:List D} {z:DE} {t:T}
theorem zBE(hz:z.eval X J=t.d):(DE.f (.get 0) [z]).eval X J = .int t.n:=by
 rw[ev_f,zAA,zBA,hz,zOA,yLA];rfl
theorem xRJ(hz:z.eval X J=t.d):(DE.f (.get 1) [z]).eval X J=encB t.s:=by
 rw[ev_f,zAA,zBA,hz,zOA,yLA];rfl
theorem xFH(hz:z.eval X J=t.d):(DE.f (.get 2) [z]).eval X J = .bool t.null:=by
 rw[ev_f,zAA,zBA,hz,zOA,yLA];rfl
theorem zCG(hz:z.eval X J=t.d):(DE.f (.get 3) [z]).eval X J=encT t.l:=by
 rw[ev_f,zAA,zBA,hz,zOA,yLA];rfl
theorem xSJ(hz:z.eval X J=t.d):(DE.f (.get 4) [z]).eval X J=encU t.u:=by
 rw[ev_f,zAA,zBA,hz,zOA,yLA];rfl
theorem ev_atE(hz:z.eval X J=t.d)(i:Nat):(atE z i).eval X J=(at' t i).d:=by
 rw[atE,ev_f,zAA,zAA,zBA,hz,ev_k,zNA,X_1,yAA,zMA]
theorem ev_28(hz:z.eval X J=t.d):(DE.f (.ext 28) [.f (.get 1) [z]]).eval X J = .row (u16D t.S):=by
 rw[ev_f,zAA,zBA,xRJ hz,zNA,X_28,xPA];rfl
theorem ev_uuE(hz:z.eval X J=t.d):zDA X (uuE z) J=u16D t.S:=by
 have h:=qCF (u16D t.S);rw[yXK] at h;rw[uuE,zLB]
 conv=>rhs;rw[<- h]
 apply List.map_congr_left;intro j _;rw[ev_f,zAA,zBA,ev_28 hz,zOA];rfl
theorem yAI{lv:Nat}(hlv:lv<=J.length)(hz:z.eval X J=t.d):(tagsE lv z).eval X J=tagD t.U:=by
 rw[tagsE,yXF (g:=fun r a=>.map (insM (r.cells.getD 0 .nil).asInt (r.cells.getD 1 .nil) (mapL a))) (fun _=>True) trivial]
 ·rw[xSJ hz,xLB,ev_k,List.foldl_map];rfl
 ·intro i r a _ _;obtain⟨h1,h2,_⟩:=yPD hlv (.int i) r a;refine⟨?_,trivial⟩;rw[ev_f,zAA,zAA,zAA,zBA,h2,ev_f,ev_f,zAA,zBA,h1,zOA,zOA,zNA,X_23]
theorem band1i(n:Int):(DE.f .eqI [.f (.band .i64) [.k (.int n),.k (.int 1)],.k (.int 1)]).eval X J = .bool (decide (n%2=1)):=by
 simp only[ev_f,zAA,zBA,ev_k];show D.bool (IntKind.i64.wrap (BitVec.ofInt 64 n &&& BitVec.ofInt 64 1).toNat==1)=_;have e:(BitVec.ofInt 64 n &&& BitVec.ofInt 64 1).toNat=(n%2).toNat:=by
  rw[BitVec.toNat_and,show (BitVec.ofInt 64 1).toNat=1 from rfl,Nat.and_one_is_mod,BitVec.toNat_ofInt];omega
 rw[e];have h2:n%2=0∨n%2=1:=by omega
 rcases h2 with h|h <;> rw[h] <;> rfl
theorem zBG{lv:Nat}(k nl:Int)(hz:z.eval X J=t.d){sub:List DE}{sd:List D}(hs:k=10->zDA X sub J=sd):zDA X (qSI lv k nl z sub) J=dV k nl t sd:=by
 unfold qSI dV;by_cases h0:k=0
 ·rw[if_pos h0,if_pos h0,zAA,zBA]
  have:=band1i (J:=J) t.n
  rw[<- this,ev_f,ev_f];simp only[zAA,zBA];rw[ev_f,ev_f];simp only[zAA,zBA];rw[zBE hz,ev_k,ev_k]
 rw[if_neg h0,if_neg h0];by_cases h1:k=1
 ·rw[if_pos h1,if_pos h1,zAA,zBA,ev_f,zAA,zBA,zBE hz,zXA]
 rw[if_neg h1,if_neg h1];by_cases h1:k=2
 ·rw[if_pos h1,if_pos h1,zAA,zBA,ev_f,zAA,zBA,zBE hz,zXA]
 rw[if_neg h1,if_neg h1];by_cases h1:k=3
 ·rw[if_pos h1,if_pos h1,zAA,zBA,ev_f,zAA,zBA,zBE hz,zXA]
 rw[if_neg h1,if_neg h1];by_cases h1:k=5
 ·rw[if_pos h1,if_pos h1,zAA,zBA,ev_f,zAA,zBA,zBE hz,zXA]
 rw[if_neg h1,if_neg h1];by_cases h1:k=7
 ·rw[if_pos h1,if_pos h1,ev_uuE hz]
 rw[if_neg h1,if_neg h1];by_cases h1:k=8
 ·rw[if_pos h1,if_pos h1];by_cases hn:nl<0
  ·rw[if_pos hn,if_pos hn,zAA,zBA,ev_f,zAA,zBA,xRJ hz];show [D.str (encB t.s).asStr]=_;rw[xPA];rfl
  ·rw[if_neg hn,if_neg hn,zAA,zBA,ev_f,zAA,zBA,hz,zNA,X_26,yAA]
 rw[if_neg h1,if_neg h1];by_cases h1:k=9
 ·rw[if_pos h1,if_pos h1,zAA,zBA,ev_f,zAA,zBA,hz,zNA,X_27,yAA]
 rw[if_neg h1,if_neg h1];by_cases h1:k=10
 ·rw[if_pos h1,if_pos h1,hs h1]
 rw[if_neg h1,if_neg h1,zAA,zBA,zBE hz]
theorem ev_rowE(l:List DE):(rowE l).eval X J=rowD (zDA X l J):=by
 match l with
 | []=>rfl
 | [a]=>rfl
 | a::b::l=>rfl
theorem ev_elV(k:Int)(hz:z.eval X J=t.d){l:List DE}{ld:List D}(hs:zDA X l J=ld):(elV k l z).eval X J=elD k ld t:=by
 unfold elV elD;by_cases h:k=7
 ·rw[if_pos h,if_pos h,ev_28 hz]
 rw[if_neg h,if_neg h];by_cases h:k=10
 ·rw[if_pos h,if_pos h,ev_f,qFA,hs]
 rw[if_neg h,if_neg h,ev_rowE,hs]
theorem ev_listE{lv:Nat}(hlv:lv<=J.length)(hz:z.eval X J=t.d){el:DE}{g:T->D}(hel:∀(i a:D) (y:T),el.eval X (J.take lv++[i,y.d,a])=g y):(listE lv z el).eval X J=if t.null then .nil else .list (t.L.map g):=by
 have hf:(DE.fold lv (.f (.get 3) [z]) [.k (.list [])] [.f .app [.v (lv+2),.f .mklist [el]]] 0).eval X J = .list (t.L.map g):=by
  rw[yXF (g:=fun r a=>a.appd (.list [g (toT r)])) (fun _=>True) trivial]
  ·rw[zCG hz,qWB,ev_k,List.foldl_map]
   have:∀(l:List T) (a:List D),l.foldl (fun(x:D) (y:T)=>x.appd (D.list [g (toT y.d)])) (D.list a)=D.list (a++l.map g):=by
    intro l
    induction l with
    | nil=>intro a;simp
    | cons y l ih =>
     intro a;rw[List.foldl,yAA];show List.foldl _ (D.list (a++[g y])) l=_;rw[ih];simp
   rw[show (t.l.getD [])=t.L from rfl,this];simp
  ·intro i r a hr _;rw[zCG hz,qWB] at hr;obtain⟨y,_,rfl⟩:=List.mem_map.1 hr;obtain⟨h1,h2,_⟩:=yPD hlv (.int i) y.d a;refine⟨?_,trivial⟩;rw[ev_f,zAA,zAA,zBA,h2,ev_f,zAA,zBA,hel,xRA,yMA,yAA]
 unfold listE;rw[ev_f,zAA,zAA,zAA,zBA,hf,ev_k,ev_f,zAA,zBA,xFH hz,yCE,yBA];cases t.null <;> rfl
end
mutual
theorem ev_cellF(tg:Bool):∀(f:Fl) (lv:Nat) (J:List D) (z:DE) (t:T),zMH tg f=true->lv<=J.length->z.eval X J=t.d->zDA X (cellF tg lv f z) J=dF tg f t
 | .mk k a b nl c d of sub,lv,J,z,t,hsm,hlv,hz=>by
  obtain⟨_,hss,hpt⟩:=zNH hsm;rw[cellF,dF];by_cases h:k=11
  ·rw[if_pos h,if_pos h,zAA,zBA];rw[ev_listE hlv hz (g:=fun y=>elD of (dV of (-1) y (dS tg sub y)) y)];intro i a y;obtain⟨h1,h2,h3⟩:=yPD hlv i y.d a;exact ev_elV of h1 (zBG of (-1) h1 (fun _=>zJD tg sub (lv+3) _ _ y hss h3 h1))
  ·rw[if_neg h,if_neg h];by_cases hp:k=10/\0<=nl
   ·rw[if_pos hp,if_pos hp];obtain⟨rfl,hp2⟩:=hpt hp;rw[zAA,zBA,ev_f,zAA,zBA,hz,zNA,(pt_X hp2 _).1,qRI,yAA]
   rw[if_neg hp,if_neg hp];exact zBG k nl hz (fun _=>zJD tg sub lv J z t hss hlv hz)
theorem zJD(tg:Bool):∀(fs:Option (List Fl)) (lv:Nat) (J:List D) (z:DE) (t:T),zRF tg fs=true->lv<=J.length->z.eval X J=t.d->zDA X (yHF tg lv fs z) J=dS tg fs t
 | none,lv,J,z,t,hsm,hlv,hz=>by
  rw[yHF,dS];cases tg
  ·rfl
  ·rw[if_pos rfl,if_pos rfl,zAA,zBA,yAI hlv hz]
 | some l,lv,J,z,t,hsm,hlv,hz=>by
  rw[yHF,dS,xOG,zZI tg l lv 0 J z t hsm hlv hz];cases tg
  ·rfl
  ·rw[if_pos rfl,if_pos rfl,zAA,zBA,yAI hlv hz]
theorem zZI(tg:Bool):∀(l:List Fl) (lv i:Nat) (J:List D) (z:DE) (t:T),qIF tg l=true->lv<=J.length->z.eval X J=t.d->zDA X (xKJ tg lv l i z) J=dL tg l i t
 | [],_,_,_,_,_,_,_,_=>by rw[xKJ,dL];rfl
 | f::r,lv,i,J,z,t,hsm,hlv,hz=>by
  simp only[qIF,Bool.and_eq_true] at hsm;rw[xKJ,dL,xOG,ev_cellF tg f lv J (atE z i) (at' t i) hsm.1 hlv (ev_atE hz i),zZI tg r lv (i+1) J z t hsm.2 hlv hz]
end
end Go.Mx
namespace Go.Mx
open Go Go.Dx
theorem yZA{o:D}{s:List UInt8}(h:0<s.length):app o s=appD o s:=by cases s with|nil=>simp at h|cons a s=>rfl
theorem yIC(o:D)(s:List UInt8):(appD o s).asStr=o.asStr++s:=by cases s with|nil=>simp[appD]|cons a s=>rfl
theorem xGB(o:D)(a b:List UInt8):appD (appD o a) b=appD o (a++b):=by
 cases a with
 | nil=>rfl
 | cons x a=>cases b with
  | nil=>simp[appD]
  | cons y b =>
   show app (app o (x::a)) (y::b)=app o ((x::a)++(y::b));simp[app,D.asStr]
theorem xAE:zHA 0=[0]:=by rw[zHA];rfl
mutual
def yGE:Fl->Bool
 | .mk k _ _ nl g _ of sub=>decide (g<0)&&(decide (k≠11) || decide (of≠11))&&xPC sub
def xPC:Option (List Fl)->Bool
 | none=>true
 | some l=>qSB l
def qSB:List Fl->Bool
 | []=>true
 | f::r=>yGE f&&qSB r
end
section
variable {J:List D} {o:DE} {od:D}
theorem zPB{cs:List DE}{l:List D}(h:zDA X cs J=l):(xMA cs).eval X J=l.headD .nil:=by
 subst h;cases cs with
 | nil=>rfl
 | cons a cs=>rfl
theorem zDH(s:List UInt8):zRD (.row (u16D s))=xRB s:=by
 unfold zRD u16D;simp only[D.cells,List.map_map]
 conv=>rhs;rw[<- List.map_id (xRB s)]
 apply List.map_congr_left;intro x _;simp[D.asInt]
theorem xJC{n:Nat}:0<(zHA n).length:=xBE n
theorem xSB(n:Int)(k:Nat)(h:0<k):0<(zQA n k).length:=by rw[yPA];exact h
theorem yND(x b:Bool)(n k:Nat)(h:0<k):0<(counted x b n k).length:=by
 cases x <;> cases b <;> simp[counted,yPA,h]
 exact xBE _
theorem xXA{a b:List UInt8}(h:0<a.length):0<(a++b).length:=by rw[List.length_append];omega
theorem yCI{v k nl:Int}(x:Bool){cs:List DE}{t:T}{sd:List D}{sub:DE}{p:List UInt8}{b:Bool}(hc:zDA X cs J=dV k nl t sd)(ho:o.eval X J=od)(hs:k=10->sub.eval X J=appD od p)
  (hok:okV v k nl t) (hb:(k=8∨k=9)->b=(t.null&&(decide (0<=nl)&&decide (nl<=v)))):(wrV x k nl v cs o sub).eval X J=appD od (yOA k b x t p):=by
 have hh:=zPB hc;unfold wrV yOA;unfold dV at hh hc;by_cases h0:k=0
 ·simp only[if_pos h0] at hh ⊢;rw[ev_f,zAA,zAA,zBA,ho,hh,zNA,X_2];rw[<- yZA (by simp)];show app od [if decide (t.n%2=1) then 1 else 0]=_;have h2:t.n%2=0∨t.n%2=1:=by omega
  rcases h2 with h|h <;> rw[h] <;> rfl
 simp only[if_neg h0] at hh hc ⊢;by_cases h1:k=1
 ·subst h1;simp only[if_true] at hh ⊢;rw[ev_f,zAA,zAA,zBA,ho,hh,zNA,X_3,show ((D.int (IntKind.i8.wrap t.n)::[]).headD .nil).asInt=IntKind.i8.wrap t.n from rfl,fixed_i8];exact yZA (xSB _ _ (by omega))
 simp only[if_neg h1] at hh hc ⊢;by_cases h2:k=2
 ·subst h2;simp only[if_true] at hh ⊢;rw[ev_f,zAA,zAA,zBA,ho,hh,zNA,X_4,show ((D.int (IntKind.i16.wrap t.n)::[]).headD .nil).asInt=IntKind.i16.wrap t.n from rfl,xTG];exact yZA (xSB _ _ (by omega))
 simp only[if_neg h2] at hh hc ⊢;by_cases h3:k=3
 ·subst h3;simp only[if_true] at hh ⊢;rw[ev_f,zAA,zAA,zBA,ho,hh,zNA,X_6,show ((D.int (IntKind.i32.wrap t.n)::[]).headD .nil).asInt=IntKind.i32.wrap t.n from rfl,xTD];exact yZA (xSB _ _ (by omega))
 simp only[if_neg h3] at hh hc ⊢;by_cases h5:k=5
 ·subst h5;simp only[if_true] at hh ⊢;rw[ev_f,zAA,zAA,zBA,ho,hh,zNA,X_5,show ((D.int (IntKind.u16.wrap t.n)::[]).headD .nil).asInt=IntKind.u16.wrap t.n from rfl,xUG];exact yZA (xSB _ _ (by omega))
 simp only[if_neg h5] at hh hc ⊢;by_cases h7:k=7
 ·subst h7;simp only[if_true] at hh hc ⊢;rw[ev_f,zAA,zAA,zBA,ho,ev_f,hc,qFA,zNA,X_9,zDH];exact yZA (by rw[qYB];omega)
 simp only[if_neg h7] at hh hc ⊢;by_cases h8:k=8
 ·subst h8;obtain⟨k1,k2⟩:=hok (.inl rfl);have hb:=hb (.inl rfl);simp only[if_true] at hh hc ⊢;have ht:t.S.take Most=t.S:=List.take_of_length_le k1;rw[ht];by_cases hn:0<=nl/\nl<=v
  ·rw[if_pos hn];have hb:b=t.null:=by rw[hb];simp[hn.1,hn.2]
   rw[if_neg (by omega)] at hh;rw[hb];cases x with
   | true =>
    rw[if_pos rfl,ev_f,zAA,zAA,zBA,ho,hh,zNA,X_14];cases t.null with
    | true =>
     show app od (zHA 0)=appD od (counted true true 0 2++[]);rw[xAE];rfl
    | false =>
     show app od (zHA (t.S.length+1)++t.S)=appD od (counted true false t.S.length 2++t.S);exact yZA (xXA xJC)
   | false =>
    rw[if_neg (by decide),ev_f,zAA,zAA,zBA,ho,hh,zNA,X_13];cases t.null with
    | true =>
     show app od (zQA (-1) 2)=appD od (counted false true 0 2++[]);rw[List.append_nil];exact yZA (xSB _ _ (by omega))
    | false =>
     show app od (zQA t.S.length 2++t.S)=appD od (counted false false t.S.length 2++t.S);exact yZA (xXA (xSB _ _ (by omega)))
  ·rw[if_neg hn];have hnl:t.null=false:=by
    cases ht:t.null with
    | false=>rfl
    | true=>exact absurd (k2 ht) hn
   have hb:b=false:=by rw[hb,hnl];rfl
   have ev:(if nl<0 then xMA cs else DE.f .ite [.f .not [.f .isNil [xMA cs]],.f (.get 0) [.f .deref [xMA cs]],.k (.str [])]).eval X J = .str t.S:=by
    by_cases hn0:nl<0
    ·rw[if_pos hn0] at hh ⊢;rw[hh];rfl
    ·rw[if_neg hn0] at hh ⊢;simp only[ev_f,zAA,zBA,ev_k];rw[hh,hnl];rfl
   rw[hb];simp only[Bool.false_eq_true,if_false];cases x with
   | true =>
    rw[if_pos rfl,ev_f,zAA,zAA,zBA,ho,ev,zNA,X_12];exact yZA (xXA xJC)
   | false =>
    rw[if_neg (by decide),ev_f,zAA,zAA,zBA,ho,ev,zNA,X_11];exact yZA (xXA (xSB _ _ (by omega)))
 simp only[if_neg h8] at hh hc ⊢;by_cases h9:k=9
 ·subst h9;obtain⟨k1,k2⟩:=hok (.inr rfl);have hb:=hb (.inr rfl);simp only[if_true] at hh hc ⊢;have ht:t.S.take Most=t.S:=List.take_of_length_le k1;rw[ht];by_cases hn:0<=nl/\nl<=v
  ·rw[if_pos hn];have hb:b=t.null:=by rw[hb];simp[hn.1,hn.2]
   rw[hb];cases x with
   | true =>
    rw[if_pos rfl,ev_f,zAA,zAA,zBA,ho,hh,zNA,X_18];cases t.null with
    | true =>
     show app od (zHA 0)=appD od (counted true true 0 4++[]);rw[xAE];rfl
    | false =>
     show app od (zHA (t.S.length+1)++t.S)=appD od (counted true false t.S.length 4++t.S);exact yZA (xXA xJC)
   | false =>
    rw[if_neg (by decide),ev_f,zAA,zAA,zBA,ho,hh,zNA,X_17];cases t.null with
    | true =>
     show app od (zQA (-1) 4)=appD od (counted false true 0 4++[]);rw[List.append_nil];exact yZA (xSB _ _ (by omega))
    | false =>
     show app od (zQA t.S.length 4++t.S)=appD od (counted false false t.S.length 4++t.S);exact yZA (xXA (xSB _ _ (by omega)))
  ·rw[if_neg hn];have hnl:t.null=false:=by
    cases ht:t.null with
    | false=>rfl
    | true=>exact absurd (k2 ht) hn
   have hb:b=false:=by rw[hb,hnl];rfl
   rw[hnl] at hh;rw[hb];simp only[Bool.false_eq_true,if_false];cases x with
   | true =>
    rw[if_pos rfl,ev_f,zAA,zAA,zBA,ho,hh,zNA,X_16];exact yZA (xXA xJC)
   | false =>
    rw[if_neg (by decide),ev_f,zAA,zAA,zBA,ho,hh,zNA,X_15];exact yZA (xXA (xSB _ _ (by omega)))
 simp only[if_neg h9] at hh hc ⊢;by_cases h10:k=10
 ·simp only[if_pos h10];exact hs h10
 simp only[if_neg h10] at hh ⊢;have hw:(xTC k).toNat=8:=by unfold xTC;rw[if_neg h1,if_neg (by omega),if_neg h3];rfl
 rw[ev_f,zAA,zAA,zBA,ho,hh,zNA,X_7,hw];exact yZA (xSB _ _ (by omega))
theorem zEG{v nl:Int}(x:Bool){c:DE}{t:T}{g:T->D}(hc:c.eval X J=if t.null then .nil else .list (t.L.map g))(ho:o.eval X J=od)
  (hn:t.null=true->(0<=nl/\nl<=v)∨t.L=[]) {b:Bool} (hb:b=(t.null&&(decide (0<=nl)&&decide (nl<=v)))):(yWG x nl v c o).eval X J=appD od (counted x b (if b then 0 else t.L.length) 4):=by
 unfold yWG;by_cases h:0<=nl/\nl<=v
 ·have hb:b=t.null:=by rw[hb];simp[h.1,h.2]
  rw[hb,if_pos h,ev_f,zAA,zAA,zAA,zBA,ev_f,ev_f,zAA,zBA,ho,hc,yQA,xCB,zNA];cases x with
  | true =>
   rw[if_pos rfl,X_22];cases t.null with
   | true =>
    show app od (zHA 0)=appD od (counted true true _ 4);rw[xAE];rfl
   | false =>
    show app od (zHA ((t.L.map g).length+1))=appD od (zHA (t.L.length+1));rw[List.length_map];exact yZA xJC
  | false =>
   rw[if_neg (by decide),X_21];cases t.null with
   | true =>
    show app od (zQA (-1) 4)=appD od (zQA (-1) 4);exact yZA (xSB _ _ (by omega))
   | false =>
    show app od (zQA ((t.L.map g).length:Nat) 4)=appD od (zQA t.L.length 4);rw[List.length_map];exact yZA (xSB _ _ (by omega))
 ·have hb:b=false:=by
   rw[hb]
   have:(decide (0<=nl)&&decide (nl<=v))=false:=by
    simp only[Bool.and_eq_false_iff,decide_eq_false_iff_not];omega
   rw[this,Bool.and_false]
  have hlen:(c.eval X J).len=t.L.length:=by
   rw[hc];cases ht:t.null with
   | false=>show (t.L.map g).length=_;rw[List.length_map]
   | true =>
    rcases hn ht with h2|h2
    ·exact absurd h2 h
    ·rw[h2];rfl
  rw[hb,if_neg h,ev_f,zAA,zAA,zBA,ev_f,zAA,zBA,ho,yQA,hlen,zNA];cases x with
  | true =>
   rw[if_pos rfl,X_20];show app od (zHA (t.L.length+1))=appD od (zHA (t.L.length+1));exact yZA xJC
  | false =>
   rw[if_neg (by decide),X_19];show app od (zQA (t.L.length:Nat) 4)=appD od (zQA t.L.length 4);exact yZA (xSB _ _ (by omega))
theorem xZG(k:Int)(d:D):∀(l:List (Int×D)),(∀y∈l,y.1<k)->insM k d l=l++[(k,d)]
 | [],_=>rfl
 | x::r,h=>by
  rw[insM,if_pos (h x (by simp)),xZG k d r (fun y hy=>h y (by simp[hy]))];rfl
theorem zXH:∀(u:List Tg) (a:D),SrtT u->(∀x∈mapL a,∀y∈u,x.1<y.key)->mapL (u.foldl (fun m x=>.map (insM x.key (encB x.val) (mapL m))) a)=mapL a++u.map fun x=>(x.key,encB x.val)
 | [],a,_,_=>by simp
 | x::r,a,h,hk=>by
  obtain⟨h1,h2⟩:=List.pairwise_cons.1 h;have e:insM x.key (encB x.val) (mapL a)=mapL a++[(x.key,encB x.val)]:=xZG _ _ _ (fun y hy=>hk y hy x (by simp));rw[List.foldl,zXH r _ h2 (fun y hy z hz=>by
   have hy:y∈insM x.key (encB x.val) (mapL a):=hy;rw[e] at hy;rcases List.mem_append.1 hy with hy|hy
   ·exact hk y hy z (by simp[hz])
   ·rw[List.mem_singleton] at hy;subst hy;exact h1 z hz)]
  show insM x.key (encB x.val) (mapL a)++_=_;rw[e];simp
theorem yPK{u:List Tg}(h:SrtT u):mapL (tagD u)=u.map fun x=>(x.key,encB x.val):=by
 have:=zXH u .nil h (fun x hx=>by cases hx)
 rw[tagD,this];rfl
def zII(u:List Tg):List UInt8:=zHA u.length++(u.map unkB).flatten
theorem xSE(x:Bool){c:DE}{u:List Tg}{p:List UInt8}(hc:x=true->c.eval X J=tagD u)(ho:o.eval X J=appD od p)(hu:qQC u):(yIH x c o).eval X J=appD od (if x then p++zII u else p):=by
 cases x with
 | false=>exact ho
 | true =>
  have hc:=hc rfl;obtain⟨h1,h2,h3⟩:=hu;have hL:=yPK h1;have hlen:(mapL (tagD u)).length=u.length:=by rw[hL,List.length_map]
  unfold yIH;rw[if_pos rfl,if_pos rfl];have e10:(DE.f (.ext 10) [o,.f (.add .u32) [.k (.int 0),.f (.wrap .u32) [.f (.ext 24) [c]]]]).eval X J=appD od (p++zHA u.length):=by
   simp only[ev_f,zAA,zBA,ev_k];rw[hc,ho,zNA,zNA,X_24,hlen,zXA,xMC,X_10,zMA];have e:IntKind.u32.wrap (0+IntKind.u32.wrap (u.length:Int))=u.length:=by
    rw[zRC (x:=(u.length:Int)) (by omega) (by simp[Most] at h2;omega),Int.zero_add,zRC (by omega) (by simp[Most] at h2;omega)]
   rw[e,Int.toNat_natCast,yZA xJC,xGB]
  rw[ev_f,zAA,zAA,zBA,e10,hc,zNA,X_25,hL];cases u with
  | nil=>show appD od (p++zHA 0)=appD od (p++(zHA 0++[]));rw[List.append_nil]
  | cons a u =>
   rw[if_neg (by simp)];have ef:(((a::u).map fun x=>(x.key,encB x.val)).map fun x=>tagB x.1.toNat x.2.asStr).flatten=((a::u).map unkB).flatten:=by
    rw[List.map_map]
    congr 1
    apply List.map_congr_left;intro y hy;obtain⟨q1,q2,q3⟩:=h3 y hy;show tagB y.key.toNat (encB y.val).asStr=tagB (IntKind.u64.wrap y.key).toNat ((y.val.getD []).take Most);rw[xPA,List.take_of_length_le q3,IntKind.wrap_u64,Int.emod_eq_of_lt q1 (by omega)]
   rw[ef];have hpos:0<(((a::u).map unkB).flatten).length:=by
    rw[List.map_cons,List.flatten_cons];exact xXA (by rw[unkB,tagB];exact xXA (xXA xJC))
   rw[yZA hpos,xGB,zII,List.append_assoc]
theorem fold1L{lv:Nat}{s i0 b:DE}{A:Type}{L:List A}{e:A->D}{h:A->D->D}(hs:(s.eval X J).rows=L.map e)(hb:∀(i a:D) y,y∈L->b.eval X (J.take lv++[i,e y,a])=h y a) :
  (DE.fold lv s [i0] [b] 0).eval X J=L.foldl (fun a y=>h y a) (i0.eval X J):=by
 rw[DE.eval];have key:∀(l:List A) (i:Nat) (a:D),(∀y∈l,y∈L)->yJA (fun i r acc=>zDA X [b] (J.take lv++(.int i::r::acc))) i (l.map e) [a]=[l.foldl (fun a y=>h y a) a]:=by
  intro l
  induction l with
  | nil=>intro i a _;rfl
  | cons y l ih =>
   intro i a hl;simp only[List.map_cons,yJA,List.foldl];have h1:=hb (.int i) a y (hl y (by simp));have e1:zDA X [b] (J.take lv++(.int i::e y::[a]))=[h y a]:=by rw[zAA,zBA,h1]
   rw[e1];exact ih (i+1) _ (fun r hr=>hl r (by simp[hr]))
 have e9:=key L 0 (i0.eval X J) (fun _ h=>h);rw[hs];show (yJA (fun i r acc=>zDA X [b] (J.take lv++(.int i::r::acc))) 0 (L.map e) [i0.eval X J]).getD 0 .nil=_;rw[e9];rfl
end
theorem zGE{A:Type}(w:A->List UInt8):∀(l:List A) (o:D),l.foldl (fun a y=>appD a (w y)) o=appD o ((l.map w).flatten)
 | [],o=>rfl
 | y::l,o=>by
  rw[List.foldl,zGE w l,xGB];rfl
theorem zDE(l:List DE)(n:Nat)(J:List D):zDA X (l.take n) J=(zDA X l J).take n:=by rw[ySE,ySE,List.map_take]
theorem qFB(l:List DE)(n:Nat)(J:List D):zDA X (l.drop n) J=(zDA X l J).drop n:=by rw[ySE,ySE,List.map_drop]
theorem xOJ(k nl:Int)(t:T)(sd:List D)(tg:Bool)(sub:Option (List Fl))(h:sd.length=wdS tg sub):(dV k nl t sd).length=wdV tg k sub:=by
 unfold dV wdV;by_cases h7:k=7
 ·subst h7;simp only[show ¬((7:Int)=0) by decide,show ¬((7:Int)=1) by decide,show ¬((7:Int)=2) by decide,show ¬((7:Int)=3) by decide,show ¬((7:Int)=5) by decide,if_true,if_false];exact yXK _
 by_cases h10:k=10
 ·subst h10;simp only[show ¬((10:Int)=0) by decide,show ¬((10:Int)=1) by decide,show ¬((10:Int)=2) by decide,show ¬((10:Int)=3) by decide,show ¬((10:Int)=5) by decide,show ¬((10:Int)=7) by decide,show ¬((10:Int)=8) by decide,show ¬((10:Int)=9) by decide,if_true,if_false];exact h
 rw[if_neg h7,if_neg h7,if_neg h10,if_neg h10]
 repeat (first|rfl|split)
mutual
theorem xNE(tg:Bool):∀(f:Fl) (t:T),(dF tg f t).length=wdF tg f
 | .mk k a b nl c d of sub,t=>by
  rw[dF,wdF];by_cases h:k=11
  ·subst h;rfl
  ·rw[if_neg h];by_cases hp:k=10/\0<=nl
   ·obtain⟨rfl,h0⟩:=hp;rw[if_pos ⟨rfl,h0⟩,if_neg (show ¬(10:Int)=7 by decide),if_pos (show (10:Int)=10 from rfl),if_pos h0];rfl
   ·rw[if_neg hp,xOJ k nl t _ tg sub (zVI tg sub t),wdV];by_cases h7:k=7
    ·rw[if_pos h7,if_pos h7]
    ·rw[if_neg h7,if_neg h7];by_cases h10:k=10
     ·rw[if_pos h10,if_pos h10,if_neg (fun e=>hp ⟨h10,e⟩)]
     ·rw[if_neg h10,if_neg h10]
theorem zVI(tg:Bool):∀(fs:Option (List Fl)) (t:T),(dS tg fs t).length=wdS tg fs
 | none,t=>by rw[dS,wdS];cases tg <;> rfl
 | some l,t=>by rw[dS,wdS,List.length_append,xGG tg l 0 t];cases tg <;> rfl
theorem xGG(tg:Bool):∀(l:List Fl) (i:Nat) (t:T),(dL tg l i t).length=wdL tg l
 | [],_,_=>by rw[dL,wdL];rfl
 | f::r,i,t=>by rw[dL,wdL,List.length_append,xNE tg f,xGG tg r]
end
end Go.Mx
namespace Go.Mx
open Go Go.Dx
theorem zNG{J:List D}{r:DE}{l:List D}(hr:(r.eval X J).cells=l):zDA X (xVD r l.length) J=l:=by
 rw[xVD,zLB]
 conv=>rhs;rw[<- qCF l]
 apply List.map_congr_left;intro j _;rw[ev_f,zAA,zBA,zOA,hr]
theorem xDG(k:Int)(t:T)(sd:List D):(elD k (dV k (-1) t sd) t).cells=dV k (-1) t sd:=by
 unfold elD;by_cases h7:k=7
 ·subst h7;rw[if_pos rfl];rfl
 rw[if_neg h7];by_cases h10:k=10
 ·rw[if_pos h10];rfl
 rw[if_neg h10];unfold dV;rw[if_neg h7,if_neg h10];by_cases h8:k=8
 ·subst h8;rfl
 by_cases h9:k=9
 ·subst h9;simp only[show ¬((9:Int)=0) by decide,show ¬((9:Int)=1) by decide,show ¬((9:Int)=2) by decide,show ¬((9:Int)=3) by decide,show ¬((9:Int)=5) by decide,show ¬((9:Int)=8) by decide,if_true,if_false];cases t.null <;> rfl
 rw[if_neg h8,if_neg h9]
 repeat (first|rfl|split)
theorem qUC{k a b nl g d of:Int}{sub:Option (List Fl)}(h:yGE (.mk k a b nl g d of sub)=true):g<0/\(k=11->of≠11)/\xPC sub=true:=by
 simp only[yGE,Bool.and_eq_true,Bool.or_eq_true,decide_eq_true_eq] at h;obtain⟨⟨h1,h3⟩,h4⟩:=h;exact⟨h1,fun e=>by omega,h4⟩
theorem zHK{f:Fl}(h:yGE f=true):f.tag<0:=by cases f;exact(qUC h).1
theorem ySD{l:List Fl}(h:qSB l=true):xZA l=0:=by
 unfold xZA
 have:∀(l:List Fl) (n:Nat),qSB l=true->l.foldl (fun n f=>if 0<=f.tag then max n (f.tag.toNat+1) else n) n=n:=by
  intro l
  induction l with
  | nil=>intro n _;rfl
  | cons f r ih =>
   intro n h;simp only[qSB,Bool.and_eq_true] at h
   have:=zHK h.1
   rw[List.foldl,if_neg (by omega)];exact ih n h.2
 exact this l 0 h
theorem unk_self(fs:List Fl)(u:Option (List Tg))(h:SrtT (u.getD []))(hk:∀y∈u.getD [],(xZA fs:Int)<=y.key)(hl:(u.getD []).length<=Most):zRA fs u=u.getD []:=by
 unfold zRA;rw[List.take_of_length_le hl]
 have:=zXF (xZA fs) (u.getD []) [] (by simpa using h) hk
 simpa using this
theorem xAK{fs:Option (List Fl)}{t:T}(hp:xPC fs=true)(h:qQC t.U):zRA (fs.getD []) t.u=t.U:=by
 obtain⟨h1,h2,h3⟩:=h;have hk:xZA (fs.getD [])=0:=by
  cases fs with
  | none=>rfl
  | some l=>exact ySD hp
 exact unk_self _ t.u h1 (fun y hy=>by rw[hk];exact(h3 y hy).1) h2
theorem yVB{fs:Option (List Fl)}{t:T}(hp:xPC fs=true)(h:qQC t.U)(v:Int)(x:Bool):yKA fs v x t=if x then outP (fs.getD []) v x t++zII t.U else outP (fs.getD []) v x t:=by
 have hk:xZA (fs.getD [])=0:=by
  cases fs with
  | none=>rfl
  | some l=>exact ySD hp
 cases x with
 | false=>rw[yYC];rfl
 | true =>
  rw[yWB,if_pos rfl];have e1:xFD (fs.getD []) v true t=[]:=by rw[xFD,hk];rfl
  rw[zXD,e1,List.nil_append,yFJ,xAK hp h,List.length_map,List.append_assoc];rfl
theorem yXC{al:Bool}{v:Int}{fs:Option (List Fl)}{t:T}(h:okS al v fs t):qQC t.U:=by
 cases fs with
 | none=>exact h
 | some l=>exact h.1
theorem zDG{o:DE}{od:D}{J:List D}(ho:o.eval X J=od){n:Int}:(octE o n).eval X J=appD od [UInt8.ofNat n.toNat]:=by
 have e:Fn.eval X .mkbytes [.int n] = .bytes [UInt8.ofNat n.toNat]:=rfl;rw[octE,ev_f,zAA,zAA,zBA,ho,ev_f,zAA,zBA,ev_k,e,yMA];cases od <;> rfl
theorem qTJ{a b nl g df of v:Int}{sub:Option (List Fl)}{t:T}(h0:0<=nl)(h:t.null=true->nl<=v):Mx.null (.mk 10 a b nl g df of sub) v t=t.null:=by
 unfold Mx.null;cases hn:t.null with
 | false=>rfl
 | true=>simp[Fl.null,h0,h hn]
theorem xBF{tg:Bool}{sub:Option (List Fl)}{c:DE}{J:List D}{t:T}(h:c.eval X J = .ptr (.row (dS tg sub t))):zDA X (xVD (.f .deref [c]) (wdS tg sub)) J=dS tg sub t:=by
 have e:(DE.f .deref [c]).eval X J = .row (dS tg sub t):=by
  rw[ev_f,zAA,zBA,h];rfl
 have:=zNG (r:=.f .deref [c]) (J:=J) (l:=dS tg sub t) (by rw[e];rfl)
 rwa [zVI] at this
mutual
theorem xTJ{al tg x:Bool}{v:Int}(hx:x=true->tg=true):∀(f:Fl) (lv:Nat) (J:List D) (cs:List DE) (o:DE) (t:T) (od:D),yGE f=true->lv<=J.length->zDA X cs J=dF tg f t->o.eval X J=od->okF al v f t->(wrF tg v x lv f cs o).eval X J=appD od (field f v x t)
 | .mk k a b nl g df of sub,lv,J,cs,o,t,od,hp,hlv,hc,ho,hok=>by
  obtain⟨_,hp11,hps⟩:=qUC hp;rw[yPC];simp only[Fl.kind,Fl.null,Fl.of,Fl.sub];rw[wrF];unfold zZC;by_cases h:k=11
  ·have hof:=hp11 h;subst h;rw[if_pos rfl,if_pos rfl];rw[dF,if_pos rfl] at hc;rw[okF,if_pos rfl] at hok;obtain⟨q1,q2,q3⟩:=hok;have hh:=zPB hc;have hh:(xMA cs).eval X J=if t.null then .nil else .list (t.L.map fun y=>elD of (dV of (-1) y (dS tg sub y)) y):=hh
   have hlen:=zEG x hh ho (fun h=>(q2 h).imp id (fun h=>h.2)) (b:=Mx.null (.mk 11 a b nl g df of sub) v t) rfl;have hbody:∀(i aa:D) (y:T),y∈t.L->(wrV x of (-1) v (xVD (.v (lv+1)) (wdV tg of sub)) (.v (lv+2)) (wrS tg v x (lv+3) sub (xVD (.v (lv+1)) (wdV tg of sub)) (.v (lv+2)))).eval X (J.take lv++[i,elD of (dV of (-1) y (dS tg sub y)) y,aa])=appD aa (yOA of false x y (yKA sub v x y)):=by
    intro i aa y hy;obtain⟨e1,e2,e3⟩:=yPD hlv i (elD of (dV of (-1) y (dS tg sub y)) y) aa;have hcells:=xDG of y (dS tg sub y);have hgets:zDA X (xVD (.v (lv+1)) (wdV tg of sub)) (J.take lv++[i,elD of (dV of (-1) y (dS tg sub y)) y,aa])=dV of (-1) y (dS tg sub y):=by
     have:=zNG (r:=.v (lv+1)) (J:=J.take lv++[i,elD of (dV of (-1) y (dS tg sub y)) y,aa]) (l:=dV of (-1) y (dS tg sub y)) (by rw[e1];exact hcells)
     rwa [xOJ of (-1) y _ tg sub (zVI tg sub y)] at this
    obtain⟨o1,o2⟩:=q3 y hy;refine yCI x hgets e2 (fun h10=>?_) o1 (fun _=>by simp);have hsd:dV of (-1) y (dS tg sub y)=dS tg sub y:=by subst h10;rfl
    rw[hsd] at hgets;exact xNG hx sub (lv+3) _ _ _ y _ hps e3 (by rw[hsd];exact hgets) e2 (o2 h10)
   cases hn:t.null with
   | true =>
    rw[hn] at hh;rw[fold1L (L:=([]:List T)) (e:=fun y=>elD of (dV of (-1) y (dS tg sub y)) y) (h:=fun y a=>a) (by rw[hh];rfl) (fun _ _ y hy=>by cases hy)];show (yWG x nl v (xMA cs) o).eval X J=_;by_cases hnv:0<=nl/\nl<=v
    ·obtain⟨n1,n2⟩:=hnv;have hb:Mx.null (.mk 11 a b nl g df of sub) v t=true:=by rw[xPB,hn];simp[Fl.null,n1,n2]
     rw[hb] at hlen ⊢;rw[hlen]
     simp
    ·have hb:Mx.null (.mk 11 a b nl g df of sub) v t=false:=by
      rw[xPB]
      have:(decide (0<=nl)&&decide (nl<=v))=false:=by
       simp only[Bool.and_eq_false_iff,decide_eq_false_iff_not];omega
      show (t.null&&(decide (0<=nl)&&decide (nl<=v)))=false;rw[this,Bool.and_false]
     have hL:t.L=[]:=by
      rcases q2 hn with h2|h2
      ·exact absurd h2 hnv
      ·exact h2.2
     rw[hb] at hlen ⊢;rw[hlen,hL]
     simp
   | false =>
    have hb:Mx.null (.mk 11 a b nl g df of sub) v t=false:=by rw[xPB,hn];rfl
    rw[hb] at hlen ⊢;rw[hn] at hh;rw[fold1L (L:=t.L) (e:=fun y=>elD of (dV of (-1) y (dS tg sub y)) y) (h:=fun y a=>appD a (yOA of false x y (yKA sub v x y))) (by rw[hh];rfl) hbody];rw[zGE,hlen,xGB];simp only[Bool.false_eq_true,if_false];rw[List.take_of_length_le q1]
  ·rw[if_neg h,if_neg h];rw[dF,if_neg h] at hc;rw[okF,if_neg h] at hok;obtain⟨o1,o2,o3⟩:=hok;by_cases hq:k=10/\0<=nl
   ·obtain⟨rfl,h0⟩:=hq;rw[if_pos ⟨rfl,h0⟩] at hc;rw[if_pos ⟨rfl,h0⟩,if_pos ⟨rfl,h0⟩,qTJ h0 (o3 rfl h0)];have hh:(xMA cs).eval X J=if t.null then .nil else .ptr (.row (dS tg sub t)):=zPB hc
    rw[ev_f,zAA,zAA,zAA,zBA,ev_f,zAA,zBA,hh,zDG ho,xCB];cases hn:t.null with
    | true =>
     rw[yBA];rfl
    | false =>
     have hg:=xBF (tg:=tg) (sub:=sub) (c:=xMA cs) (J:=J) (t:=t) (by rw[hh,hn];rfl);rw[xNG hx sub lv J _ _ t _ hps hlv hg (zDG ho) (o2 rfl),yBA];show appD (appD od [1]) _=_;rw[xGB];rfl
   rw[if_neg hq,if_neg hq];rw[if_neg hq] at hc;refine yCI x hc ho (fun h10=>?_) o1 (fun _=>rfl);have hsd:dV k nl t (dS tg sub t)=dS tg sub t:=by subst h10;rfl
   rw[hsd] at hc;exact xNG hx sub lv J cs o t od hps hlv hc ho (o2 h10)
theorem xNG{al tg x:Bool}{v:Int}(hx:x=true->tg=true):∀(fs:Option (List Fl)) (lv:Nat) (J:List D) (cs:List DE) (o:DE) (t:T) (od:D),xPC fs=true->lv<=J.length->zDA X cs J=dS tg fs t->o.eval X J=od->okS al v fs t->(wrS tg v x lv fs cs o).eval X J=appD od (yKA fs v x t)
 | none,lv,J,cs,o,t,od,hp,hlv,hc,ho,hok=>by
  rw[yVB hp hok,wrS];refine xSE x (fun hxt=>?_) ho hok;rw[dS,hx hxt,if_pos rfl] at hc;exact zPB hc
 | some l,lv,J,cs,o,t,od,hp,hlv,hc,ho,hok=>by
  rw[yVB hp (yXC hok),wrS];rw[dS] at hc;have h1:=yBI hx l lv 0 J cs o t od _ hp hlv hc ho hok.2;refine xSE x (fun hxt=>?_) h1 (yXC hok);have hd:zDA X (cs.drop (wdL tg l)) J=[tagD t.U]:=by
   rw[qFB,hc,hx hxt,if_pos rfl,<- xGG true l 0 t,List.drop_left]
  exact zPB hd
theorem yBI{al tg x:Bool}{v:Int}(hx:x=true->tg=true):∀(l:List Fl) (lv i:Nat) (J:List D) (cs:List DE) (o:DE) (t:T) (od:D) (rest:List D),qSB l=true->lv<=J.length->zDA X cs J=dL tg l i t++rest->o.eval X J=od->okL al v l i t->(wrL tg v x lv l cs o).eval X J=appD od ((mapI (fun i f=>qKB v (rowP v x t i f)) i l).flatten)
 | [],lv,i,J,cs,o,t,od,rest,hp,hlv,hc,ho,hok=>by rw[wrL,ho];rfl
 | f::r,lv,i,J,cs,o,t,od,rest,hp,hlv,hc,ho,hok=>by
  simp only[qSB,Bool.and_eq_true] at hp;rw[okL] at hok;rw[wrL];rw[dL,List.append_assoc] at hc;have ht:zDA X (cs.take (wdF tg f)) J=dF tg f (at' t i):=by rw[zDE,hc,<- xNE tg f (at' t i),List.take_left]
  have hd:zDA X (cs.drop (wdF tg f)) J=dL tg r (i+1) t++rest:=by rw[qFB,hc,<- xNE tg f (at' t i),List.drop_left]
  have h1:(if f.tag<0/\has f v=true then wrF tg v x lv f (cs.take (wdF tg f)) o else o).eval X J=appD od (qKB v (rowP v x t i f)):=by
   unfold qKB rowP;by_cases h:f.tag<0/\has f v=true
   ·rw[if_pos h,if_pos h];exact xTJ hx f lv J _ o (at' t i) od hp.1 hlv ht ho (hok.1 (.inr h))
   ·rw[if_neg h,if_neg h,ho];rfl
  rw[yBI hx r lv (i+1) J _ _ t _ rest hp.2 hlv hd h1 hok.2,xGB];rfl
end
end Go.Mx
namespace Go.Mx
open Go Go.Dx
section
variable {J:List D} {P:Nat->List D->Prop}
theorem qBA{o:Ob}(h:o.holds X P J):zCA X P [o] J:=⟨h,trivial⟩
theorem zHC{o:Ob}{l:List Ob}(h:o.holds X P J)(h2:zCA X P l J):zCA X P (o::l) J:=⟨h,h2⟩
theorem zWB{a b:List Ob}(h:zCA X P a J)(h2:zCA X P b J):zCA X P (a++b) J:=zSA.2 ⟨h,h2⟩
theorem foldI_c{A S:Type}(f:A->S->S)(l:List A)(s:S):qMA (fun _ a s=>f a s) 0 l s=l.foldl (fun s a=>f a s) s:=yQD f l 0 s
theorem all1L{s i0 b:DE}{A:Type}{L:List A}{e:A->D}{h:A->D->D}{os:List Ob}(hs:(s.eval X J).rows=L.map e)(hb:∀(i a:D) y,y∈L->b.eval X (J++[i,e y,a])=h y a)
  (ho:∀(k:Nat) (y:A),L[k]? = some y->zCA X P os (J++[.int k,e y,(L.take k).foldl (fun a y=>h y a) (i0.eval X J)])):(Ob.all s [i0] [b] os).holds X P J:=by
 have hF:Folds X J J.length s [i0] [b] e (fun a=>[a]) (fun _ y a=>h y a) L (i0.eval X J):=⟨List.take_length,hs,rfl,fun i a st hi _=>by
  rw[zAA,zBA,hb _ _ _ (List.mem_of_getElem? hi)]⟩
 refine hF.all (fun k y hk=>?_);rw[foldI_c];exact ho k y hk
end
section
variable {J:List D}
theorem zRG(k:Int)(d:D):∀l:List (Int×D),(insM k d l).length<=l.length+1
 | []=>by simp[insM]
 | x::r=>by
  have:=zRG k d r
  rw[insM];split
  ·simp;omega
  ·split <;> simp
theorem yQK:∀(u:List Tg) (a:D),(mapL (u.foldl (fun m x=>D.map (insM x.key (encB x.val) (mapL m))) a)).length<=(mapL a).length+u.length
 | [],a=>by simp
 | x::u,a=>by
  rw[List.foldl];have h1:=yQK u (D.map (insM x.key (encB x.val) (mapL a)));have h2:=zRG x.key (encB x.val) (mapL a);have h3:(mapL (D.map (insM x.key (encB x.val) (mapL a)))).length=(insM x.key (encB x.val) (mapL a)).length:=rfl;simp only[List.length_cons];omega
theorem ob_tags{lv:Nat}{z:DE}{t:T}(hlv:lv=J.length)(hz:z.eval X J=t.d)(hu:qQC t.U):(qNG lv z).holds X side J:=by
 subst hlv;unfold qNG;have env:∀(i r a:D),(DE.v (J.length+1)).eval X (J++[i,r,a])=r/\(DE.v (J.length+2)).eval X (J++[i,r,a])=a:=fun i r a=>by
  have:=yPD (J:=J) (Nat.le_refl _) i r a
  rw[List.take_length] at this;exact⟨this.1,this.2.1⟩
 refine all1L (L:=t.U) (e:=Tg.d) (h:=fun y a=>.map (insM y.key (encB y.val) (mapL a))) (by rw[xSJ hz,xLB];rfl) (fun i a y _=>?_) (fun k y hk=>qBA ?_)
 ·obtain⟨e1,e2⟩:=env i y.d a;rw[ev_f,zAA,zAA,zAA,zBA,e2,ev_f,ev_f,zAA,zBA,e1,zOA,zOA,zNA,X_23];rfl
 ·simp only[Ob.holds];obtain⟨e1,e2⟩:=env (.int k) y.d ((t.U.take k).foldl (fun a y=>.map (insM y.key (encB y.val) (mapL a))) ((DE.k .nil).eval X J));rw[zAA,zAA,zAA,zBA,e2];show (insM _ _ (mapL _)).length<=lim;refine Nat.le_trans (zRG _ _ _) ?_;have h1:=yQK (t.U.take k) ((DE.k .nil).eval X J);have h2:(mapL ((DE.k .nil).eval X J)).length=0:=rfl;have h3:(t.U.take k).length<=t.U.length:=by simp;omega
  have h4:=hu.2.1;simp only[Most] at h4;simp only[lim];omega
theorem xRF{tg:Bool}{lv:Nat}{z:DE}{t:T}(hlv:lv=J.length)(hz:z.eval X J=t.d)(hu:qQC t.U):zCA X side (if tg then [qNG lv z] else []) J:=by
 cases tg with
 | false=>trivial
 | true=>exact qBA (ob_tags hlv hz hu)
theorem qQE{z:DE}(i:Nat):(Ob.pre 1 [z,.k (.int i)]).holds X side J:=by
 simp only[Ob.holds,zAA,zBA,ev_k];rw[side_1];simp only[zMA];omega
theorem qXJ{v k nl:Int}{z:DE}{t:T}{sub:List Ob}(hz:z.eval X J=t.d)(hok:okV v k nl t)(hs:k=10->zCA X side sub J):zCA X side (obV k nl z sub) J:=by
 unfold obV;by_cases h7:k=7
 ·rw[if_pos h7];exact qBA trivial
 rw[if_neg h7];by_cases h8:k=8
 ·rw[if_pos h8];split
  ·trivial
  ·exact qBA trivial
 rw[if_neg h8];by_cases h9:k=9
 ·rw[if_pos h9];refine qBA ?_;simp only[Ob.holds,zAA,zBA];rw[hz];show (X 27 [t.d]).len<=lim;rw[X_27,yAA]
  have:=(hok (.inr h9)).1
  simp only[Most] at this;cases t.null
  ·show t.S.length<=lim;simp only[lim];omega
  ·exact Nat.zero_le _
 rw[if_neg h9];by_cases h10:k=10
 ·rw[if_pos h10];exact hs h10
 ·rw[if_neg h10];trivial
end
mutual
theorem obs_F{tg:Bool}{v:Int}:∀(f:Fl) (lv:Nat) (J:List D) (s:DE) (t:T) (i:Nat),zMH tg f=true->lv=J.length->s.eval X J=t.d->okF true v f (at' t i)->zCA X side (obF tg lv f s i) J
 | .mk k a b nl g df of sub,lv,J,s,t,i,hsm,hlv,hs,hok=>by
  have hz:=ev_atE hs i;obtain⟨hsm1,hsm2,hsm3⟩:=zNH hsm
  clear hsm
  have hsm:=And.intro hsm1 hsm2;rw[obF];by_cases h:k=11
  ·subst h;rw[okF,if_pos rfl] at hok;obtain⟨q1,q2,q3⟩:=hok;simp only[if_true];have hL:(at' t i).L.length<=32767:=q1;refine zHC ?_ (qBA (qQE i));simp only[Ob.holds];intro _;refine zHC ?_ (zHC (qQE i) (zHC ?_ (qBA (qQE i))))
   ·subst hlv;have env:∀(i r a:D),(DE.v (J.length+1)).eval X (J++[i,r,a])=r/\(DE.v (J.length+2)).eval X (J++[i,r,a])=a:=fun i r a=>by
     have:=yPD (J:=J) (Nat.le_refl _) i r a
     rw[List.take_length] at this;exact⟨this.1,this.2.1⟩
    have hlen:∀(i r a:D),J.length+3=(J++[i,r,a]).length:=fun i r a=>by simp
    have hel:∀(i a:D) (y:T),(DE.f .app [.v (J.length+2),.f .mklist [elV of (qSI (J.length+3) of (-1) (.v (J.length+1)) (yHF tg (J.length+3) sub (.v (J.length+1)))) (.v (J.length+1))]]).eval X (J++[i,y.d,a])=a.appd (.list [elD of (dV of (-1) y (dS tg sub y)) y]):=fun i a y=>by
     obtain⟨e1,e2⟩:=env i y.d a;rw[ev_f,zAA,zAA,zBA,e2,ev_f,zAA,zBA,xRA,yMA];rw[ev_elV of e1 (zBG of (-1) e1 (fun _=>zJD tg sub (J.length+3) _ _ y hsm.2 (Nat.le_of_eq (hlen _ _ _)) e1))]
    have acc:∀(l:List T) (a:List D),l.foldl (fun(a:D) (y:T)=>a.appd (.list [elD of (dV of (-1) y (dS tg sub y)) y])) (.list a) = .list (a++l.map fun y=>elD of (dV of (-1) y (dS tg sub y)) y):=by
     intro l
     induction l with
     | nil=>intro a;simp
     | cons y l ih =>
      intro a;rw[List.foldl];show List.foldl _ (D.list (a++[elD of (dV of (-1) y (dS tg sub y)) y])) l=_;rw[ih];simp
    refine all1L (L:=(at' t i).L) (e:=T.d) (h:=fun y a=>a.appd (.list [elD of (dV of (-1) y (dS tg sub y)) y])) (by rw[zCG hz,qWB];rfl) (fun j aa y _=>hel j aa y) (fun kk y hk=>?_);have hkl:kk<(at' t i).L.length:=(List.getElem?_eq_some_iff.1 hk).1;obtain⟨o1,o2⟩:=q3 y (List.mem_of_getElem? hk);rw[ev_k,acc,List.nil_append];obtain⟨e1,e2⟩:=env (.int kk) y.d (.list (((at' t i).L.take kk).map fun y=>elD of (dV of (-1) y (dS tg sub y)) y));refine zHC ?_ (qXJ e1 o1 (fun h10=>obs_S sub _ _ _ y hsm.2 (hlen _ _ _) e1 (o2 h10)));simp only[Ob.holds];rw[hel];show ((_++[_]:List D)).length*_<=LIM/\((_++[_]:List D)).length<=maxLen;have hl2:((((at' t i).L.take kk).map fun y=>elD of (dV of (-1) y (dS tg sub y)) y)++[elD of (dV of (-1) y (dS tg sub y)) y]).length<=32767:=by simp;omega
    refine⟨Nat.le_trans (Nat.mul_le_mul hl2 hsm.1) (by simp[LIM]),Nat.le_trans hl2 (by decide)⟩
   ·simp only[Ob.holds];have e:(DE.f .len [.f (.get 3) [atE s i]]).eval X J = .int (at' t i).L.length:=by
     rw[ev_f,zAA,zBA,zCG hz,yQA,qJA];rfl
    rw[e];simp only[zMA,Int.toNat_natCast];exact⟨Int.natCast_nonneg _,Nat.le_trans (Nat.mul_le_mul hL hsm.1) (by simp[LIM]),Nat.le_trans hL (by decide)⟩
  ·rw[okF,if_neg h] at hok;simp only[if_neg h];by_cases hq:k=10/\0<=nl
   ·rw[if_pos hq];refine zHC ?_ (qBA (qQE i));simp only[Ob.holds,zAA,zBA,hz];rw[(pt_X (hsm3 hq).2 _).2,ptS,yAA];exact fun _=>⟨v,hok.2.1 hq.1⟩
   rw[if_neg hq];exact zWB (qXJ hz hok.1 (fun h10=>obs_S sub lv J _ _ hsm.2 hlv hz (hok.2.1 h10))) (qBA (qQE i))
theorem obs_S{tg:Bool}{v:Int}:∀(fs:Option (List Fl)) (lv:Nat) (J:List D) (z:DE) (t:T),zRF tg fs=true->lv=J.length->z.eval X J=t.d->okS true v fs t->zCA X side (obS tg lv fs z) J
 | none,lv,J,z,t,hsm,hlv,hz,hok=>by
  rw[obS];exact xRF hlv hz hok
 | some l,lv,J,z,t,hsm,hlv,hz,hok=>by
  rw[obS];exact zWB (xRF hlv hz (yXC hok)) (obs_L l lv 0 J z t hsm hlv hz hok.2)
theorem obs_L{tg:Bool}{v:Int}:∀(l:List Fl) (lv i:Nat) (J:List D) (z:DE) (t:T),qIF tg l=true->lv=J.length->z.eval X J=t.d->okL true v l i t->zCA X side (obL tg lv l i z) J
 | [],_,_,_,_,_,_,_,_,_=>by rw[obL];trivial
 | f::r,lv,i,J,z,t,hsm,hlv,hz,hok=>by
  simp only[qIF,Bool.and_eq_true] at hsm;rw[okL] at hok;rw[obL];exact zWB (obs_L r lv (i+1) J z t hsm.2 hlv hz hok.2) (obs_F f lv J z t i hsm.1 hlv hz (hok.1 (.inl rfl)))
end
end Go.Mx
namespace Go.Mx
open Go Go.Dx
theorem xFE(o:D)(s:List UInt8):(app o s).len=o.asStr.length+s.length:=by simp[app,D.len]
theorem xEE(o:D){s:List UInt8}(h:0<s.length):(appD o s).len=o.asStr.length+s.length:=by
 rw[<- yZA h,xFE]
section
variable {J:List D} {o:DE} {od:D}
theorem qPE{n:Nat}{l:List DE}(h:side n (zDA X l J)):zCA X side [.pre n l] J:=qBA h
theorem xQJ(n:Nat)(l:List DE):X n (zDA X l J)=(DE.f (.ext n) l).eval X J:=by rw[ev_f,zNA]
theorem side_d4(a b:D):side 4 [a,b]=((X 4 [a,b]).len<=lim):=rfl
theorem yJG(a b:D):side 10 [a,b]=((X 10 [a,b]).len<=lim):=rfl
theorem side_d25(a b:D):side 25 [a,b]=((X 25 [a,b]).len<=lim /\ ∀x∈mapL a,x.2.len<4294967296):=rfl
theorem yNJ(k:Int)(b x:Bool)(t:T)(p:List UInt8)(h:k≠10):0<(yOA k b x t p).length:=by
 unfold yOA;by_cases h0:k=0
 ·rw[if_pos h0];simp
 rw[if_neg h0];by_cases h7:k=7
 ·rw[if_pos h7,qYB];omega
 rw[if_neg h7];by_cases h8:k=8
 ·rw[if_pos h8];exact xXA (yND _ _ _ _ (by omega))
 rw[if_neg h8];by_cases h9:k=9
 ·rw[if_pos h9];exact xXA (yND _ _ _ _ (by omega))
 rw[if_neg h9,if_neg h];refine xSB _ _ ?_;unfold xTC
 repeat (first|decide|split)
theorem S_le(b x:Bool)(t:T)(k:Int)(p:List UInt8)(h:k=8∨k=9)(hS:t.S.length<=Most)(hb:b=false):t.S.length<=(yOA k b x t p).length:=by
 subst hb;rcases h with rfl|rfl
 ·simp only[yOA,show ¬((8:Int)=0) by decide,show ¬((8:Int)=7) by decide,if_true,if_false,Bool.false_eq_true];rw[List.take_of_length_le hS,List.length_append];omega
 ·simp only[yOA,show ¬((9:Int)=0) by decide,show ¬((9:Int)=7) by decide,show ¬((9:Int)=8) by decide,if_true,if_false,Bool.false_eq_true];rw[List.take_of_length_le hS,List.length_append];omega
theorem zAK{v k nl:Int}(x:Bool){cs:List DE}{t:T}{sd:List D}{sub:DE}{p:List UInt8}{b:Bool}(hk:k≠10)(hc:zDA X cs J=dV k nl t sd)(ho:o.eval X J=od)
  (hok:okV v k nl t) (hb:(k=8∨k=9)->b=(t.null&&(decide (0<=nl)&&decide (nl<=v)))) (hlen:od.asStr.length+(yOA k b x t p).length+16<=lim):zCA X side (zSJ (wrV x k nl v cs o sub)) J:=by
 have hev:=yCI x (p:=p) (sub:=sub) hc ho (fun h=>absurd h hk) hok hb;have hd:=xEE od (yNJ k b x t p hk);have hle:((wrV x k nl v cs o sub).eval X J).len<=lim:=by rw[hev,hd];omega
 have two:∀(n:Nat) (a c:DE),wrV x k nl v cs o sub = .f (.ext n) [a,c]->(∀d e,(X n [d,e]).len<=lim->side n [d,e])->zCA X side (zSJ (wrV x k nl v cs o sub)) J:=fun n a c e h=>by
  rw[e] at hle ⊢;refine qPE ?_;rw[zAA,zAA,zBA];refine h _ _ ?_;rw[<- xQJ,zAA,zAA,zBA] at hle;exact hle
 have hh:=zPB hc;by_cases h0:k=0
 ·exact two 2 o (xMA cs) (by unfold wrV;rw[if_pos h0]) (fun d e h=>h)
 by_cases h1:k=1
 ·exact two 3 o (xMA cs) (by unfold wrV;rw[if_neg h0,if_pos h1]) (fun d e h=>h)
 by_cases h2:k=2
 ·exact two 4 o (xMA cs) (by unfold wrV;rw[if_neg h0,if_neg h1,if_pos h2]) (fun d e h=>h)
 by_cases h3:k=3
 ·exact two 6 o (xMA cs) (by unfold wrV;rw[if_neg h0,if_neg h1,if_neg h2,if_pos h3]) (fun d e h=>h)
 by_cases h5:k=5
 ·exact two 5 o (xMA cs) (by unfold wrV;rw[if_neg h0,if_neg h1,if_neg h2,if_neg h3,if_pos h5]) (fun d e h=>h)
 by_cases h7:k=7
 ·exact two 9 o (.f .mkrow cs) (by unfold wrV;rw[if_neg h0,if_neg h1,if_neg h2,if_neg h3,if_neg h5,if_pos h7]) (fun d e h=>h)
 by_cases h8:k=8
 ·obtain⟨k1,k2⟩:=hok (.inl h8);have hbe:=hb (.inl h8);have hm:t.S.length<=32767:=k1;have hS:b=false->t.S.length<=(yOA k b x t p).length:=S_le b x t k p (.inl h8) k1;subst h8;by_cases hn:0<=nl/\nl<=v
  ·have e:wrV x 8 nl v cs o sub = .f (.ext (if x then 14 else 13)) [o,xMA cs]:=by unfold wrV;rw[if_neg h0,if_neg h1,if_neg h2,if_neg h3,if_neg h5,if_neg h7,if_pos rfl,if_pos hn]
   cases x with
   | false=>exact two 13 o (xMA cs) e (fun d e h=>h)
   | true =>
    have hbn:b=t.null:=by rw[hbe];simp[hn.1,hn.2]
    rw[e,if_pos rfl];refine qPE ?_;rw[zAA,zAA,zBA,ho,hh,yBK];have hcell:dV 8 nl t sd=[if t.null then .nil else .ptr (.str t.S)]:=by
     show (if nl<0 then _ else _)=_;rw[if_neg (by omega)]
    rw[hcell];cases htn:t.null with
    | true =>
     show (0:Nat)<2147483648/\od.asStr.length+0+5<=lim;exact⟨by omega,by omega⟩
    | false =>
     show t.S.length<2147483648/\od.asStr.length+t.S.length+5<=lim
     have:=hS (by rw[hbn,htn])
     exact⟨by omega,by omega⟩
  ·have hnl:t.null=false:=by
    cases ht:t.null with
    | false=>rfl
    | true=>exact absurd (k2 ht) hn
   have e:wrV x 8 nl v cs o sub = .f (.ext (if x then 12 else 11)) [o,if nl<0 then xMA cs else .f .ite [.f .not [.f .isNil [xMA cs]],.f (.get 0) [.f .deref [xMA cs]],.k (.str [])]]:=by unfold wrV;rw[if_neg h0,if_neg h1,if_neg h2,if_neg h3,if_neg h5,if_neg h7,if_pos rfl,if_neg hn]
   cases x with
   | false=>exact two 11 o _ e (fun d e h=>h)
   | true =>
    have ev:(if nl<0 then xMA cs else DE.f .ite [.f .not [.f .isNil [xMA cs]],.f (.get 0) [.f .deref [xMA cs]],.k (.str [])]).eval X J = .str t.S:=by
     have hcell:dV 8 nl t sd=if nl<0 then [.str t.S] else [if t.null then .nil else .ptr (.str t.S)]:=rfl
     rw[hcell] at hh;by_cases hn0:nl<0
     ·rw[if_pos hn0] at hh ⊢;rw[hh];rfl
     ·rw[if_neg hn0] at hh ⊢;simp only[ev_f,zAA,zBA,ev_k];rw[hh,hnl];rfl
    rw[e,if_pos rfl];refine qPE ?_;rw[zAA,zAA,zBA,ho,ev,qXH];show t.S.length<2147483648/\od.asStr.length+t.S.length+5<=lim
    have:=hS (by rw[hbe,hnl];rfl)
    exact⟨by omega,by omega⟩
 by_cases h9:k=9
 ·obtain⟨k1,k2⟩:=hok (.inr h9);have hbe:=hb (.inr h9);have hm:t.S.length<=32767:=k1;have hS:b=false->t.S.length<=(yOA k b x t p).length:=S_le b x t k p (.inr h9) k1;subst h9;have hcell:dV 9 nl t sd=[if t.null then .nil else .bytes t.S]:=rfl;rw[hcell] at hh;by_cases hn:0<=nl/\nl<=v
  ·have hbn:b=t.null:=by rw[hbe];simp[hn.1,hn.2]
   have e:wrV x 9 nl v cs o sub = .f (.ext (if x then 18 else 17)) [o,xMA cs]:=by unfold wrV;rw[if_neg h0,if_neg h1,if_neg h2,if_neg h3,if_neg h5,if_neg h7,if_neg h8,if_pos rfl,if_pos hn]
   cases x with
   | false=>exact two 17 o (xMA cs) e (fun d e h=>h)
   | true =>
    rw[e,if_pos rfl];refine qPE ?_;rw[zAA,zAA,zBA,ho,hh,side_18];cases htn:t.null with
    | true =>
     show (0:Nat)<2147483648/\od.asStr.length+0+5<=lim;exact⟨by omega,by omega⟩
    | false =>
     show t.S.length<2147483648/\od.asStr.length+t.S.length+5<=lim
     have:=hS (by rw[hbn,htn])
     exact⟨by omega,by omega⟩
  ·have hnl:t.null=false:=by
    cases ht:t.null with
    | false=>rfl
    | true=>exact absurd (k2 ht) hn
   have e:wrV x 9 nl v cs o sub = .f (.ext (if x then 16 else 15)) [o,xMA cs]:=by unfold wrV;rw[if_neg h0,if_neg h1,if_neg h2,if_neg h3,if_neg h5,if_neg h7,if_neg h8,if_pos rfl,if_neg hn]
   cases x with
   | false=>exact two 15 o (xMA cs) e (fun d e h=>h)
   | true =>
    rw[e,if_pos rfl];refine qPE ?_;rw[zAA,zAA,zBA,ho,hh,side_16,hnl];show t.S.length<2147483648/\od.asStr.length+t.S.length+5<=lim
    have:=hS (by rw[hbe,hnl];rfl)
    exact⟨by omega,by omega⟩
 exact two 7 o (xMA cs) (by unfold wrV;rw[if_neg h0,if_neg h1,if_neg h2,if_neg h3,if_neg h5,if_neg h7,if_neg h8,if_neg h9,if_neg hk]) (fun d e h=>h)
theorem qZJ{v nl:Int}(x:Bool){c:DE}{t:T}{g:T->D}(hc:c.eval X J=if t.null then .nil else .list (t.L.map g))(ho:o.eval X J=od)(hL:t.L.length<=Most)
  (hn:t.null=true->(0<=nl/\nl<=v)∨t.L=[]) {b:Bool} (hb:b=(t.null&&(decide (0<=nl)&&decide (nl<=v)))) (hlen:od.asStr.length+(counted x b (if b then 0 else t.L.length) 4).length+16<=lim):zCA X side (zSJ (yWG x nl v c o)) J:=by
 have hev:=zEG x hc ho hn hb;have hd:=xEE od (yND x b (if b then 0 else t.L.length) 4 (by omega));have hle:((yWG x nl v c o).eval X J).len<=lim:=by rw[hev,hd];omega
 have hl:(if t.null then D.nil else D.list (t.L.map g)).len<=32767:=by
  cases t.null
  ·show (t.L.map g).length<=_;rw[List.length_map];exact hL
  ·exact Nat.zero_le _
 unfold yWG at hle ⊢;by_cases h:0<=nl/\nl<=v
 ·rw[if_pos h] at hle ⊢;refine qPE ?_;rw[<- xQJ] at hle;rw[zAA,zAA,zAA,zBA,ev_f,ev_f,zAA,zBA,yQA,xCB,ho,hc] at hle ⊢;cases x with
  | false=>exact hle
  | true =>
   show 0<=(_:Int)/\(_:Int)<2147483648/\od.asStr.length+5<=lim;simp only[zMA];exact⟨Int.natCast_nonneg _,by omega,by omega⟩
 ·rw[if_neg h] at hle ⊢;refine qPE ?_;rw[<- xQJ] at hle;rw[zAA,zAA,zBA,ev_f,zAA,zBA,yQA,ho,hc] at hle ⊢;cases x with
  | false=>exact hle
  | true =>
   show 0<=(_:Int)/\(_:Int)<2147483648/\od.asStr.length+5<=lim;simp only[zMA];exact⟨Int.natCast_nonneg _,by omega,by omega⟩
theorem zOD(x:Bool){c:DE}{u:List Tg}{p:List UInt8}(hc:x=true->c.eval X J=tagD u)(ho:o.eval X J=appD od p)(hu:qQC u)(hlen:x=true->od.asStr.length+(p++zII u).length+16<=lim):zCA X side (qTG x c o) J:=by
 cases x with
 | false=>trivial
 | true =>
  have hev:=xSE true hc ho hu;have hlen:=hlen rfl;have hc:=hc rfl;have hpos:0<(p++zII u).length:=by rw[List.length_append,zII,List.length_append];have:=xJC (n:=u.length);omega
  have hd:=xEE od hpos;unfold yIH at hev;rw[if_pos rfl,if_pos rfl] at hev;unfold qTG;rw[if_pos rfl];have e24:(DE.f (.add .u32) [.k (.int 0),.f (.wrap .u32) [.f (.ext 24) [c]]]).eval X J = .int u.length:=by
   simp only[ev_f,zAA,zBA,ev_k];have hL:=yPK hu.1;have h2:=hu.2.1;rw[hc,zNA,X_24,hL,List.length_map,zXA,xMC];rw[zRC (x:=(u.length:Int)) (by omega) (by simp[Most] at h2;omega),Int.zero_add,zRC (by omega) (by simp[Most] at h2;omega)]
  refine zHC ?_ (zHC ?_ (qBA ?_))
  ·simp only[Ob.holds];rw[zAA,zAA,zBA,side_d25];rw[ev_f,zAA,zAA,zBA,zNA] at hev;refine⟨by rw[hev,hd];omega,fun x hx=>?_⟩;rw[hc,yPK hu.1] at hx;obtain⟨y,hy,rfl⟩:=List.mem_map.1 hx
   have:=(hu.2.2 y hy).2.2
   simp only[Most] at this;show (encB y.val).len<_;rw[yWA];omega
  ·simp only[Ob.holds];rw[zAA,zAA,zBA,yJG,e24,ho,X_10,xFE,zMA,Int.toNat_natCast,yIC,List.length_append];rw[List.length_append,zII,List.length_append] at hlen;omega
  ·exact trivial
theorem qWJ(k nl v:Int)(c:DE):zCA X side (obNil k nl v c) J:=by
 unfold obNil;split
 ·refine qBA ?_;simp only[Ob.holds];intro h;refine qBA ?_;simp only[Ob.holds];intro h2;have e:(DE.f .not [.f .isNil [c]]).eval X J = .bool (!(c.eval X J).isNil):=by
   rw[ev_f,zAA,zBA,ev_f,zAA,zBA,xCB,yCE]
  have e2:(DE.f .isNil [c]).eval X J = .bool (c.eval X J).isNil:=by
   rw[ev_f,zAA,zBA,xCB]
  rw[e,zTA] at h;rw[e2,zTA] at h2;rw[h2] at h;cases h
 ·trivial
end
end Go.Mx
namespace Go.Mx
open Go Go.Dx
theorem qDH{c:DE}{J:List D}(h:(DE.f .isNil [c]).eval X J = .bool false):(nilC c).holds X side J:=by
 simp only[nilC,Ob.holds];intro hh;rw[h] at hh;cases hh
theorem qRE{x:Bool}{p c o:DE}{J:List D}(hn:(DE.f .isNil [p]).eval X J = .bool false)(h:zCA X side (qTG x c o) J):zCA X side (qIH x p c o) J:=by
 cases x with
 | false=>exact trivial
 | true=>exact⟨h.1,qDH hn,h.2.1,h.2.2.1,qDH hn,trivial⟩
mutual
theorem qYJ{al tg x:Bool}{v:Int}(hx:x=true->tg=true):∀(f:Fl) (lv:Nat) (J:List D) (cs:List DE) (o:DE) (t:T) (od:D),yGE f=true->lv=J.length->zDA X cs J=dF tg f t->o.eval X J=od->okF al v f t->od.asStr.length+(field f v x t).length+16<=lim->zCA X side (owF tg v x lv f cs o) J
 | .mk k a b nl g df of sub,lv,J,cs,o,t,od,hp,hlv,hc,ho,hok,hlen=>by
  obtain⟨_,hp11,hps⟩:=qUC hp;rw[yPC] at hlen;simp only[Fl.kind,Fl.null,Fl.of,Fl.sub] at hlen;rw[owF];unfold zZC at hlen;by_cases h:k=11
  ·have hof:=hp11 h;subst h;subst hlv;simp only[if_true] at hlen ⊢;rw[dF,if_pos rfl] at hc;rw[okF,if_pos rfl] at hok;obtain⟨q1,q2,q3⟩:=hok;have hh:(xMA cs).eval X J=if t.null then .nil else .list (t.L.map fun y=>elD of (dV of (-1) y (dS tg sub y)) y):=zPB hc
   have q2':t.null=true->(0<=nl/\nl<=v)∨t.L=[]:=fun h=>(q2 h).imp id (fun h=>h.2)
   have hlenD:=zEG x hh ho q2' (b:=Mx.null (.mk 11 a b nl g df of sub) v t) rfl;have hlv:J.length<=J.length:=Nat.le_refl _;have env:∀(i r a:D),(DE.v (J.length+1)).eval X (J++[i,r,a])=r/\(DE.v (J.length+2)).eval X (J++[i,r,a])=a/\J.length+3=(J++[i,r,a]).length:=fun i r a=>by
    have:=yPD (J:=J) (Nat.le_refl _) i r a
    rw[List.take_length] at this;exact⟨this.1,this.2.1,by simp⟩
   have hgets:∀(i aa:D) (y:T),zDA X (xVD (.v (J.length+1)) (wdV tg of sub)) (J++[i,elD of (dV of (-1) y (dS tg sub y)) y,aa])=dV of (-1) y (dS tg sub y):=by
    intro i aa y;obtain⟨e1,e2,e3⟩:=env i (elD of (dV of (-1) y (dS tg sub y)) y) aa;have hcells:=xDG of y (dS tg sub y)
    have:=zNG (r:=.v (J.length+1)) (J:=J++[i,elD of (dV of (-1) y (dS tg sub y)) y,aa]) (l:=dV of (-1) y (dS tg sub y)) (by rw[e1];exact hcells)
    rwa [xOJ of (-1) y _ tg sub (zVI tg sub y)] at this
   have hsd:of=10 -> ∀y,dV of (-1) y (dS tg sub y)=dS tg sub y:=fun h10 y=>by subst h10;rfl
   have hbody:∀(i aa:D) (y:T),y∈t.L->(wrV x of (-1) v (xVD (.v (J.length+1)) (wdV tg of sub)) (.v (J.length+2)) (wrS tg v x (J.length+3) sub (xVD (.v (J.length+1)) (wdV tg of sub)) (.v (J.length+2)))).eval X (J++[i,elD of (dV of (-1) y (dS tg sub y)) y,aa])=appD aa (yOA of false x y (yKA sub v x y)):=by
    intro i aa y hy;obtain⟨e1,e2,e3⟩:=env i (elD of (dV of (-1) y (dS tg sub y)) y) aa;obtain⟨o1,o2⟩:=q3 y hy;refine yCI x (hgets i aa y) e2 (fun h10=>?_) o1 (fun _=>by simp);exact xNG hx sub (J.length+3) _ _ _ y _ hps (Nat.le_of_eq e3) ((hgets i aa y).trans (hsd h10 y)) e2 (o2 h10)
   refine zWB (qBA ?_) ?_
   ·cases hn:t.null with
    | true =>
     rw[hn] at hh;exact all1L (L:=([]:List T)) (e:=fun y=>elD of (dV of (-1) y (dS tg sub y)) y) (h:=fun y a=>a) (by rw[hh];rfl) (fun _ _ y hy=>by cases hy) (fun k y hk=>by simp at hk)
    | false =>
     have hb:Mx.null (.mk 11 a b nl g df of sub) v t=false:=by rw[xPB,hn];rfl
     rw[hb] at hlenD hlen;rw[hn] at hh;simp only[Bool.false_eq_true,if_false] at hlen hlenD;rw[List.take_of_length_le q1] at hlen;refine all1L (L:=t.L) (e:=fun y=>elD of (dV of (-1) y (dS tg sub y)) y) (h:=fun y a=>appD a (yOA of false x y (yKA sub v x y))) (by rw[hh];rfl) hbody (fun kk y hk=>?_);have hy:=List.mem_of_getElem? hk;obtain⟨o1,o2⟩:=q3 y hy;rw[zGE,hlenD,xGB];have hw:(t.L.map fun y=>yOA of false x y (yKA sub v x y))[kk]? = some (yOA of false x y (yKA sub v x y)):=by rw[List.getElem?_map,hk];rfl
     obtain⟨r,hr⟩:=zJG hw;rw[hr,<- List.map_take] at hlen;generalize hacc:appD od (counted x false t.L.length 4++((t.L.take kk).map fun y=>yOA of false x y (yKA sub v x y)).flatten)=acc;have hal:acc.asStr.length+(yOA of false x y (yKA sub v x y)).length+16<=lim:=by
      rw[<- hacc,yIC];simp only[List.length_append] at hlen ⊢;omega
     obtain⟨e1,e2,e3⟩:=env (.int kk) (elD of (dV of (-1) y (dS tg sub y)) y) acc;have hg:=hgets (.int kk) acc y;by_cases h10:of=10
     ·rw[if_pos h10];have hv:yOA of false x y (yKA sub v x y)=yKA sub v x y:=by subst h10;rfl
      rw[hv] at hal;exact qFH hx sub (J.length+3) _ _ _ y acc hps e3 (hg.trans (hsd h10 y)) e2 (o2 h10) hal
     ·rw[if_neg h10];exact zAK x h10 hg e2 o1 (fun _=>by simp) hal
   ·refine qZJ x hh ho q1 q2' (b:=Mx.null (.mk 11 a b nl g df of sub) v t) rfl ?_;have hle:(counted x (Mx.null (.mk 11 a b nl g df of sub) v t) (if Mx.null (.mk 11 a b nl g df of sub) v t then 0 else t.L.length) 4).length=(counted x (Mx.null (.mk 11 a b nl g df of sub) v t) (if Mx.null (.mk 11 a b nl g df of sub) v t then ([]:List T) else t.L.take Most).length 4).length:=by
     rw[List.take_of_length_le q1];cases Mx.null (.mk 11 a b nl g df of sub) v t <;> rfl
    rw[hle];simp only[List.length_append] at hlen;omega
  ·rw[if_neg h];rw[if_neg h] at hlen;rw[dF,if_neg h] at hc;rw[okF,if_neg h] at hok;obtain⟨o1,o2,o3⟩:=hok;by_cases hq:k=10/\0<=nl
   ·obtain⟨rfl,h0⟩:=hq;rw[if_pos ⟨rfl,h0⟩] at hc;rw[if_pos ⟨rfl,h0⟩,qTJ h0 (o3 rfl h0)] at hlen;rw[if_pos rfl,if_pos h0];have hh:(xMA cs).eval X J=if t.null then .nil else .ptr (.row (dS tg sub t)):=zPB hc
    have hni:(DE.f .isNil [xMA cs]).eval X J = .bool t.null:=by
     rw[ev_f,zAA,zBA,hh,xCB];cases t.null <;> rfl
    have hroom:∀n:Int,od.asStr.length+1+16<=lim->(Ob.room (octE o n) 1).holds X side J:=fun n hl=>by
     simp only[Ob.holds];rw[zDG ho,xEE od (by simp)];have hlim:lim=1099511627776:=rfl;simp only[List.length_singleton,LIM,maxLen];omega
    refine⟨fun hb=>?_,fun hb=>?_,trivial⟩
    ·rw[hni,zTA] at hb;rw[hb,if_pos rfl,yPA] at hlen;exact qBA (hroom 255 (by omega))
    ·rw[hni,zTA] at hb;rw[hb,if_neg (by decide),List.length_append,yPA] at hlen;have hlen:od.asStr.length+(1+(yKA sub v x t).length)+16<=lim:=hlen;have hg:=xBF (tg:=tg) (sub:=sub) (c:=xMA cs) (J:=J) (t:=t) (by rw[hh,hb];rfl);refine obs_owP hx sub lv J _ (octE o 1) _ t (appD od [1]) hps hlv hg (zDG ho) (o2 rfl) (by rw[yIC];simp only[List.length_append,List.length_singleton];omega) (by rw[hni,hb]) (hroom 1 (by omega))
   rw[if_neg hq] at hc hlen;by_cases h10:k=10
   ·rw[if_pos h10,if_neg (fun e=>hq ⟨h10,e⟩)];have hsd:dV k nl t (dS tg sub t)=dS tg sub t:=by subst h10;rfl
    rw[hsd] at hc;have hv:∀b',yOA k b' x t (yKA sub v x t)=yKA sub v x t:=fun b'=>by subst h10;rfl
    rw[hv] at hlen;exact qFH hx sub lv J cs o t od hps hlv hc ho (o2 h10) hlen
   ·rw[if_neg h10];exact zWB (zAK x h10 hc ho o1 (fun _=>rfl) hlen) (qWJ _ _ _ _)
theorem qFH{al tg x:Bool}{v:Int}(hx:x=true->tg=true):∀(fs:Option (List Fl)) (lv:Nat) (J:List D) (cs:List DE) (o:DE) (t:T) (od:D),xPC fs=true->lv=J.length->zDA X cs J=dS tg fs t->o.eval X J=od->okS al v fs t->od.asStr.length+(yKA fs v x t).length+16<=lim->zCA X side (owS tg v x lv fs cs o) J
 | none,lv,J,cs,o,t,od,hp,hlv,hc,ho,hok,hlen=>by
  rw[yVB hp hok] at hlen;rw[owS];refine zOD (od:=od) (p:=[]) x (fun hxt=>?_) ho hok (fun hxt=>?_)
  ·rw[dS,hx hxt,if_pos rfl] at hc;exact zPB hc
  ·rw[hxt,if_pos rfl] at hlen;exact hlen
 | some l,lv,J,cs,o,t,od,hp,hlv,hc,ho,hok,hlen=>by
  rw[yVB hp (yXC hok)] at hlen;rw[owS];rw[dS] at hc;have h1:=yBI hx l lv 0 J cs o t od _ hp (Nat.le_of_eq hlv) hc ho hok.2;refine zWB (zOD x (fun hxt=>?_) h1 (yXC hok) (fun hxt=>?_)) (qEH hx l lv 0 J cs o t od _ hp hlv hc ho hok.2 ?_)
  ·have hd:zDA X (cs.drop (wdL tg l)) J=[tagD t.U]:=by
    rw[qFB,hc,hx hxt,if_pos rfl,<- xGG true l 0 t,List.drop_left]
   exact zPB hd
  ·rw[hxt,if_pos rfl] at hlen;rw[hxt];exact hlen
  ·cases x with
   | true =>
    rw[if_pos rfl,List.length_append] at hlen
    have:(outP ((some l).getD []) v true t).length=((mapI (fun i f=>qKB v (rowP v true t i f)) 0 l).flatten).length:=rfl
    omega
   | false=>exact hlen
theorem obs_owP{al tg x:Bool}{v:Int}(hx:x=true->tg=true):∀(fs:Option (List Fl)) (lv:Nat) (J:List D) (cs:List DE) (o c:DE) (t:T) (od:D),xPC fs=true->lv=J.length->zDA X cs J=dS tg fs t->o.eval X J=od->okS al v fs t->od.asStr.length+(yKA fs v x t).length+16<=lim ->
  (DE.f .isNil [c]).eval X J = .bool false->(Ob.room o 1).holds X side J->zCA X side (owP tg v x lv c fs cs o) J
 | none,lv,J,cs,o,c,t,od,hp,hlv,hc,ho,hok,hlen,hn,hr=>by
  rw[yVB hp hok] at hlen;rw[owP];refine zWB (qRE hn (zOD (od:=od) (p:=[]) x (fun hxt=>?_) ho hok (fun hxt=>?_))) (qBA hr)
  ·rw[dS,hx hxt,if_pos rfl] at hc;exact zPB hc
  ·rw[hxt,if_pos rfl] at hlen;exact hlen
 | some l,lv,J,cs,o,c,t,od,hp,hlv,hc,ho,hok,hlen,hn,hr=>by
  rw[yVB hp (yXC hok)] at hlen;rw[owP];rw[dS] at hc;have h1:=yBI hx l lv 0 J cs o t od _ hp (Nat.le_of_eq hlv) hc ho hok.2;refine zWB (qRE hn (zOD x (fun hxt=>?_) h1 (yXC hok) (fun hxt=>?_))) (zWB (zWG hx l lv 0 J cs o c t od _ hp hlv hc ho hok.2 ?_ hn) (qBA hr))
  ·have hd:zDA X (cs.drop (wdL tg l)) J=[tagD t.U]:=by
    rw[qFB,hc,hx hxt,if_pos rfl,<- xGG true l 0 t,List.drop_left]
   exact zPB hd
  ·rw[hxt,if_pos rfl] at hlen;rw[hxt];exact hlen
  ·cases x with
   | true =>
    rw[if_pos rfl,List.length_append] at hlen
    have:(outP ((some l).getD []) v true t).length=((mapI (fun i f=>qKB v (rowP v true t i f)) 0 l).flatten).length:=rfl
    omega
   | false=>exact hlen
theorem zWG{al tg x:Bool}{v:Int}(hx:x=true->tg=true):∀(l:List Fl) (lv i:Nat) (J:List D) (cs:List DE) (o c:DE) (t:T) (od:D) (rest:List D),qSB l=true->lv=J.length->zDA X cs J=dL tg l i t++rest->o.eval X J=od->okL al v l i t->od.asStr.length+((mapI (fun i f=>qKB v (rowP v x t i f)) i l).flatten).length+16<=lim ->
  (DE.f .isNil [c]).eval X J = .bool false->zCA X side (owPL tg v x lv c l cs o) J
 | [],lv,i,J,cs,o,c,t,od,rest,hp,hlv,hc,ho,hok,hlen,hn=>by rw[owPL];trivial
 | f::r,lv,i,J,cs,o,c,t,od,rest,hp,hlv,hc,ho,hok,hlen,hn=>by
  simp only[qSB,Bool.and_eq_true] at hp;rw[okL] at hok;rw[owPL];rw[dL,List.append_assoc] at hc;have ht:zDA X (cs.take (wdF tg f)) J=dF tg f (at' t i):=by rw[zDE,hc,<- xNE tg f (at' t i),List.take_left]
  have hd:zDA X (cs.drop (wdF tg f)) J=dL tg r (i+1) t++rest:=by rw[qFB,hc,<- xNE tg f (at' t i),List.drop_left]
  rw[mapI,List.flatten_cons,List.length_append] at hlen;by_cases h:f.tag<0/\has f v=true
  ·rw[if_pos h];have hce:qKB v (rowP v x t i f)=field f v x (at' t i):=by unfold qKB rowP;rw[if_pos h]
   rw[hce] at hlen;have hokf:=hok.1 (.inr h);have h1:=xTJ hx f lv J _ o (at' t i) od hp.1 (Nat.le_of_eq hlv) ht ho hokf;refine zWB (zWG hx r lv (i+1) J _ _ c t _ rest hp.2 hlv hd h1 hok.2 ?_ hn) (zWB (qYJ hx f lv J _ o (at' t i) od hp.1 hlv ht ho hokf (by omega)) (qBA (qDH hn)));rw[yIC,List.length_append];omega
  ·rw[if_neg h];exact zWG hx r lv (i+1) J _ _ c t od rest hp.2 hlv hd ho hok.2 (by omega) hn
theorem qEH{al tg x:Bool}{v:Int}(hx:x=true->tg=true):∀(l:List Fl) (lv i:Nat) (J:List D) (cs:List DE) (o:DE) (t:T) (od:D) (rest:List D),qSB l=true->lv=J.length->zDA X cs J=dL tg l i t++rest->o.eval X J=od->okL al v l i t->od.asStr.length+((mapI (fun i f=>qKB v (rowP v x t i f)) i l).flatten).length+16<=lim->zCA X side (owL tg v x lv l cs o) J
 | [],lv,i,J,cs,o,t,od,rest,hp,hlv,hc,ho,hok,hlen=>by rw[owL];trivial
 | f::r,lv,i,J,cs,o,t,od,rest,hp,hlv,hc,ho,hok,hlen=>by
  simp only[qSB,Bool.and_eq_true] at hp;rw[okL] at hok;rw[owL];rw[dL,List.append_assoc] at hc;have ht:zDA X (cs.take (wdF tg f)) J=dF tg f (at' t i):=by rw[zDE,hc,<- xNE tg f (at' t i),List.take_left]
  have hd:zDA X (cs.drop (wdF tg f)) J=dL tg r (i+1) t++rest:=by rw[qFB,hc,<- xNE tg f (at' t i),List.drop_left]
  rw[mapI,List.flatten_cons,List.length_append] at hlen;by_cases h:f.tag<0/\has f v=true
  ·rw[if_pos h];have hce:qKB v (rowP v x t i f)=field f v x (at' t i):=by unfold qKB rowP;rw[if_pos h]
   rw[hce] at hlen;have hokf:=hok.1 (.inr h);have h1:=xTJ hx f lv J _ o (at' t i) od hp.1 (Nat.le_of_eq hlv) ht ho hokf;refine zWB (qEH hx r lv (i+1) J _ _ t _ rest hp.2 hlv hd h1 hok.2 ?_) (qYJ hx f lv J _ o (at' t i) od hp.1 hlv ht ho hokf (by omega));rw[yIC,List.length_append];omega
  ·rw[if_neg h];exact qEH hx r lv (i+1) J _ _ t od rest hp.2 hlv hd ho hok.2 (by omega)
end
def zXG(m:Msg):Bool:=xPC m.fs&&zRF m.tg m.fs&&(m.tg || decide (m.fx<0))
theorem msgX{m:Msg}(h:zXG m=true)(v:Int):xFA m.fx v=true->m.tg=true:=by
 simp only[zXG,Bool.and_eq_true,Bool.or_eq_true,decide_eq_true_eq] at h;intro hx;rcases h.2 with h|h
 ·exact h
 ·simp only[xFA,Bool.and_eq_true,decide_eq_true_eq] at hx;omega
theorem qJF(m:Msg)(v:Int)(J:List D):(xRI m v).eval X J=appD .nil (xSC m v):=by
 unfold xRI xSC;cases m.kept
 ·rfl
 ·rw[if_pos rfl,if_pos rfl,ev_f,zAA,zAA,zBA,ev_k,ev_k,zNA,X_4,zMA];exact yZA (xSB _ _ (by omega))
theorem msg_eval{m:Msg}(h:zXG m=true){v:Int}{t:T}(hok:okS true v m.fs t):(msgE m v).eval X [.int v,t.d]=appD .nil (xTB m v t):=by
 have hx:=msgX h v;simp only[zXG,Bool.and_eq_true] at h;unfold msgE;rw[xNG hx m.fs 2 [.int v,t.d] _ _ t _ h.1.1 (Nat.le_refl _) (zJD m.tg m.fs 2 [.int v,t.d] (.v 1) t h.1.2 (Nat.le_refl _) rfl) (qJF m v _) hok,xGB];rfl
theorem msg_obs{m:Msg}(h:zXG m=true){v:Int}{t:T}(hok:okS true v m.fs t)(hlen:(xTB m v t).length+16<=lim):zCA X side (msgO m v) [.int v,t.d]:=by
 have hx:=msgX h v;simp only[zXG,Bool.and_eq_true] at h;unfold xTB at hlen;rw[List.length_append] at hlen;unfold msgO;refine zWB (zWB ?_ ?_) (obs_S m.fs 2 [.int v,t.d] (.v 1) t h.1.2 rfl rfl hok)
 ·refine qFH hx m.fs 2 [.int v,t.d] _ _ t _ h.1.1 rfl (zJD m.tg m.fs 2 [.int v,t.d] (.v 1) t h.1.2 (Nat.le_refl _) rfl) (qJF m v _) hok ?_;rw[yIC];simp only[D.asStr,List.nil_append];omega
 ·unfold xSC at hlen;cases hk:m.kept
  ·trivial
  ·rw[hk,if_pos rfl] at hlen;rw[if_pos rfl];refine qBA ?_;simp only[Ob.holds];rw[zAA,zAA,zBA,ev_k,ev_k,side_d4,X_4,xFE,zMA];simp only[D.asStr,List.length_nil];omega
end Go.Mx
namespace Go.Mx
open Go Go.Dx
theorem X_118(v t:D):X 118 [v,t]=mX M118 v t:=rfl
theorem side_118(v t:D):side 118 [v,t]=xTH M118 v t:=rfl
end Go.Mx
namespace Go.Mx
open Go Go.Dx
theorem okL_nl{v:Int}{a b:T}(hl:a.L=b.L):∀(l:List Fl) (i:Nat),okL true v l i a->okL true v l i b
 | [],_,_=>trivial
 | f::r,i,h=>by
  rw[okL] at h ⊢
  have:at' a i=at' b i:=by unfold at';rw[hl]
  exact⟨fun ha=>this▸h.1 ha,okL_nl hl r (i+1) h.2⟩
theorem okS_nl{v:Int}{fs:Option (List Fl)}{a b:T}(hl:a.L=b.L)(hu:a.U=b.U)(h:okS true v fs a):okS true v fs b:=by
 cases fs with
 | none=>rw[okS] at h ⊢;rwa [<- hu]
 | some l=>rw[okS] at h ⊢;exact⟨hu▸h.1,okL_nl hl l 0 h.2⟩
theorem wfT_L{t:T}(h:wfT t=true):∀y∈t.L,wfT y=true:=by
 obtain⟨n,s,b,l,u⟩:=t;simp only[wfT,Bool.and_eq_true] at h;cases l with
 | none=>intro y hy;simp[T.L,T.l] at hy
 | some l=>exact yUG.1 h.1.2
theorem qBI:wfT T.zero=true:=by decide
theorem wfT_at{t:T}(h:wfT t=true)(i:Int):wfT (at' t i)=true:=by
 unfold at';split
 ·rw[List.getD_eq_getElem?_getD];cases hg:t.L[i.toNat]? with
  | none=>exact qBI
  | some y=>exact wfT_L h y (List.mem_of_getElem? hg)
 ·exact qBI
theorem wfT_U{t:T}(h:wfT t=true):∀y∈t.U,0<=y.key/\y.key<4294967296:=by
 obtain⟨n,s,b,l,u⟩:=t;simp only[wfT,Bool.and_eq_true] at h;intro y hy
 have:=List.all_eq_true.1 h.2 y hy
 simpa[wfTg] using this
theorem ySK(fs:Option (List Fl))(v:Int)(t:T)(h:wfT t=true):qQC (given (FitS fs v t)).U:=by
 have e:(given (FitS fs v t)).U=(zRA (fs.getD []) t.u).map cut:=by
  rw[gF];exact xBA _
 rw[e];obtain⟨a,b⟩:=xXI (fs.getD []) t.u;refine⟨yLK a,by rw[List.length_map];exact zYB _ _,fun y hy=>?_⟩;obtain⟨z,hz,rfl⟩:=List.mem_map.1 hy;obtain⟨k1,k2⟩:=wfT_U h z (b z hz).2;refine⟨k1,k2,?_⟩;show ((xIC z.val).getD []).length<=Most;rw[qIB,List.length_take];omega
theorem okV_gB{v k nl:Int}{b:Bool}{sub:Option (List Fl)}{t:T}(hb:b=true->0<=nl/\nl<=v):okV v k nl (gB k b sub v t):=by
 intro hk;refine⟨?_,fun h=>?_⟩
 ·rw[gB_S _ _ _ _ _ (by omega),if_pos hk,List.length_take];omega
 ·rw[zKG,if_pos (by omega)] at h;exact hb h
mutual
theorem zBK:∀(f:Fl) (v:Int) (t:T),yGE f=true->wfT t=true->okF true v f (given (xNA f v t))
 | .mk k a b nl g df of sub,v,t,hp,hw=>by
  obtain⟨hg,hof,hs⟩:=qUC hp;have hsub:∀(b:Bool) (y:T),wfT y=true->okS true v sub (gB 10 b sub v y):=fun b y hy=>by
   have:=qQG sub v y hs hy
   obtain⟨e1,e2⟩:=xZJ b sub v y;exact okS_nl e1.symm (by unfold T.U;rw[e2]) this
  by_cases h:k=11
  ·have hof:=hof h;subst h;rw[okF,if_pos rfl,xRD,mk_L];refine⟨by rw[List.length_map,List.length_take];omega,fun hn=>?_,fun y hy=>?_⟩
   ·simp only[T.null] at hn;have hz:decide (0<=g)=false:=by simp;omega
    rw[hz,Bool.false_and,Bool.or_false,xPB] at hn;simp only[Bool.and_eq_true,decide_eq_true_eq,Fl.null] at hn;exact .inl ⟨of_decide_eq_true hn.2.1,of_decide_eq_true hn.2.2⟩
   ·obtain⟨z,hz,rfl⟩:=List.mem_map.1 hy;refine⟨okV_gB (fun h=>by cases h),fun h10=>?_⟩;subst h10;exact hsub false z (wfT_L hw z (List.mem_of_mem_take hz))
  ·rw[okF,if_neg h,xSD _ _ _ _ _ _ _ _ _ _ h];refine⟨okV_gB (fun hn=>?_),fun h10=>?_,fun h10 h0 hn=>?_⟩
   ·rw[xPB] at hn;simp only[Bool.and_eq_true,decide_eq_true_eq,Fl.null] at hn;exact⟨of_decide_eq_true hn.2.1,of_decide_eq_true hn.2.2⟩
   ·subst h10;exact hsub _ t hw
   ·rw[zKG,if_pos (by omega),xPB] at hn;simp only[Bool.and_eq_true,decide_eq_true_eq,Fl.null] at hn;exact of_decide_eq_true hn.2.2
theorem qQG:∀(fs:Option (List Fl)) (v:Int) (t:T),xPC fs=true->wfT t=true->okS true v fs (given (FitS fs v t))
 | none,v,t,_,hw=>ySK none v t hw
 | some l,v,t,hp,hw=>by
  rw[okS];refine⟨ySK (some l) v t hw,?_⟩;have hl:=qPG l v hp;have key:∀(r:List Fl) (i:Nat),(∀(k:Nat) f,r[k]? = some f->l[i+k]? = some f)->okL true v r i (given (FitS (some l) v t)):=by
   intro r
   induction r with
   | nil=>intro i _;trivial
   | cons f r ih =>
    intro i h;rw[okL];refine⟨fun _=>?_,ih (i+1) (fun k g hg=>by
     have:=h (k+1) g hg
     rwa [show i+(k+1)=i+1+k by omega] at this)⟩
    have hf:l[i]? = some f:=h 0 f rfl;rw[at_gF (some l) v t i f hf];exact hl f (List.mem_of_getElem? hf) _ (wfT_at hw _)
  exact key l 0 (fun k f hk=>by rwa [Nat.zero_add])
theorem qPG:∀(l:List Fl) (v:Int),qSB l=true -> ∀f∈l,∀t,wfT t=true->okF true v f (given (xNA f v t))
 | [],_,_,f,hf,_,_=>by cases hf
 | g::r,v,hp,f,hf,t,hw=>by
  simp only[qSB,Bool.and_eq_true] at hp;rcases List.mem_cons.1 hf with h1|h1
  ·rw[h1];exact zBK g v t hp.1 hw
  ·exact qPG r v hp.2 f h1 t hw
end
def qOG(M:Msg):Bool:=zXG M&&wfFs M.fs&&okGs M.fs&&decide (0<=M.most)&&decide (M.most<=1000)
def verM(M:Msg):DE:=if M.kept then .f .tmod [.f (.wrap .i64) [.v 0],.k (.int (M.most+1))] else .f (.ext 58) [.v 0,.k (.int M.most)]
def fitM(M:Msg):DE:=.f (.ext 43) [scE M.fs,verM M,.v 1]
def qZI(M:Msg):DE:=.f (.ext 44) [fitM M]
def yBJ(M:Msg):DE:=.f .mkrow [scE M.fs,.k (.int M.fx)]
def wrN(M:Msg):Nat:=if M.kept then 60 else 59
def lawE'(M:Msg)(m:Nat):DE:=.f .ite [.f .not [.f (.ext 54) [.v 1]],.k (.bool true),.f (.ext 52) [.f (.ext m) [verM M,qZI M],.f (.ext (wrN M)) [yBJ M,verM M,.v 1]]]
def lawO'(M:Msg)(m:Nat):List Ob:=[.when (.f .not [.f (.ext 54) [.v 1]]) false ([.pre 52 [.f (.ext m) [verM M,qZI M],.f (.ext (wrN M)) [yBJ M,verM M,.v 1]],.pre (wrN M) [yBJ M,verM M,.v 1],.pre m [verM M,qZI M],.pre 44 [fitM M],.pre 43 [scE M.fs,verM M,.v 1]]++(if M.kept then [] else [.pre 58 [.v 0,.k (.int M.most)]])),.pre 54 [.v 1]]
theorem law_okM{M:Msg}{m:Nat}(h:qOG M=true)(hX:∀v t,X m [v,t]=mX M v t)(hS:∀v t,side m [v,t]=xTH M v t)(n:Int)(t:T)(hn0:0<=n)(hn1:n<256)(hw:wfT t=true)
  (hl:xQD t=true -> ∀v,0<=v->v<=M.most->(xTB M v t).length+16<=lim):zCA X side (lawO' M m) [.int n,t.d]/\(lawE' M m).eval X [.int n,t.d] = .bool true:=by
 simp only[qOG,Bool.and_eq_true,decide_eq_true_eq] at h;obtain⟨⟨⟨⟨hm,hwf⟩,hG⟩,hm0⟩,hm1⟩:=h;have hp:xPC M.fs=true:=by
  simp only[zXG,Bool.and_eq_true] at hm;exact hm.1.1
 have hv0:0<=n%(M.most+1):=Int.emod_nonneg _ (by omega);have hv1:n%(M.most+1)<=M.most:=by have:=Int.emod_lt_of_pos n (b:=M.most+1) (by omega);omega
 have eV:(verM M).eval X [.int n,t.d] = .int (n%(M.most+1)):=by
  unfold verM;cases M.kept
  ·rw[if_neg (by decide),ev_f,zAA,zAA,zBA,ev_v,ev_k,List.getD_cons_zero,zNA,X_58,zMA,zMA]
  ·rw[if_pos rfl,ev_f,zAA,zAA,zBA,ev_f,zAA,zBA,ev_v,ev_k,List.getD_cons_zero,zXA];show D.int ((IntKind.i64.wrap n).tmod (M.most+1))=_;rw[IntKind.wrap_i64,show (n+9223372036854775808)%18446744073709551616-9223372036854775808=n by omega,Int.tmod_eq_emod_of_nonneg hn0]
 generalize n%(M.most+1)=v at hv0 hv1 eV;have e54:(DE.f .not [.f (.ext 54) [.v 1]]).eval X [.int n,t.d] = .bool (!xQD t):=by
  simp only[ev_f,zAA,zBA,ev_v,List.getD_cons_zero,List.getD_cons_succ,zNA,X_54,yAA,yCE]
 have eF:(fitM M).eval X [.int n,t.d]=(FitS M.fs v t).d:=by
  rw[fitM,ev_f];simp only[zAA,zBA,eV,yYE,ev_v,List.getD_cons_zero,List.getD_cons_succ,zNA,X_43,zLA,yAA,zMA]
 have eG:(qZI M).eval X [.int n,t.d]=(given (FitS M.fs v t)).d:=by
  rw[qZI,ev_f];simp only[zAA,zBA,eF,zNA,X_44,yAA]
 have hbytes:xTB M v (given (FitS M.fs v t))=xTB M v t:=by
  unfold xTB;rw[partG M.fs v _ t hv0 hG]
 have eM:(DE.f (.ext m) [verM M,qZI M]).eval X [.int n,t.d]=appD .nil (xTB M v t):=by
  rw[ev_f];simp only[zAA,zBA,eV,eG,zNA];rw[hX,mX,yAA,zMA,hbytes]
 have eK:(yBJ M).eval X [.int n,t.d] = .row [encF M.fs,.int M.fx]:=by
  rw[yBJ,ev_f];simp only[zAA,zBA,yYE,ev_k,qFA]
 have eW:(DE.f (.ext (wrN M)) [yBJ M,verM M,.v 1]).eval X [.int n,t.d]=encN (xTB M v t):=by
  rw[ev_f];simp only[zAA,zBA,eK,eV,ev_v,List.getD_cons_zero,List.getD_cons_succ,zNA];unfold wrN xTB xSC;cases M.kept
  ·rw[if_neg (by decide),if_neg (by decide),X_59,zLA,yAA,zMA,zMA,List.nil_append]
  ·rw[if_pos rfl,if_pos rfl,X_60,zLA,yAA,zMA,zMA]
 constructor
 ·refine⟨fun hc=>?_,trivial,trivial⟩;rw[e54,zTA] at hc;have hf:xQD t=true:=by simpa using hc
  have hlen:=hl hf v hv0 hv1;refine zWB ⟨trivial,?_,?_,?_,?_,trivial⟩ ?_
  ·simp only[Ob.holds,zAA,zBA,eK,eV,ev_v,List.getD_cons_zero,List.getD_cons_succ];unfold xTB xSC at hlen;unfold wrN;cases hk:M.kept
   ·rw[if_neg (by decide),zHI,zLA,zMA,zMA,yAA];rw[hk,if_neg (by decide),List.nil_append] at hlen;exact⟨hwf,by omega⟩
   ·rw[if_pos rfl,yCK,zLA,zMA,zMA,yAA];rw[hk,if_pos rfl,List.length_append,yPA] at hlen;exact⟨hwf,by omega⟩
  ·simp only[Ob.holds,zAA,zBA,eV,eG];rw[hS];refine⟨⟨hv0,hv1⟩,?_,?_⟩
   ·rw[zMA,yAA];exact qQG M.fs v t hp hw
   ·rw[zMA,yAA,hbytes];exact hlen
  ·simp only[Ob.holds,zAA,zBA,eF];rw[zBI,yAA];exact smS M.fs v t hwf
  ·simp only[Ob.holds,zAA,zBA,yYE,eV];rw[zAI,zLA];exact hwf
  ·cases M.kept
   ·rw[if_neg (by decide)];refine qBA ?_;simp only[Ob.holds,zAA,zBA,ev_v,ev_k,List.getD_cons_zero];rw[zGI];exact⟨hn0,hm0,hm1⟩
   ·trivial
 ·rw[lawE',ev_f];simp only[zAA,zBA];rw[e54,ev_k,yBA];cases hf:xQD t with
  | false=>rfl
  | true =>
   simp only[Bool.not_true,Bool.false_eq_true,if_false];rw[ev_f];simp only[zAA,zBA];rw[eM,eW,zNA,X_52,qWD,yIC];simp[D.asStr]
theorem make_evM{M:Msg}{m:Nat}(h:qOG M=true)(hX:∀v t,X m [v,t]=mX M v t)(hS:∀v t,side m [v,t]=xTH M v t)(v:Int)(t:T)(hs:side m [.int v,t.d]) :
  zCA X side (msgO M v) [.int v,t.d]/\(msgE M v).eval X [.int v,t.d]=X m [.int v,t.d]:=by
 rw[hS] at hs;obtain⟨_,h2,h3⟩:=hs;rw[zMA,yAA] at h2 h3;simp only[qOG,Bool.and_eq_true] at h;have hm:=h.1.1.1.1;refine⟨msg_obs hm h2 h3,?_⟩;rw[msg_eval hm h2,hX,mX,yAA,zMA]
end Go.Mx
namespace Go.Mx
open Go Go.Dx
noncomputable def qGF(P:Program)(C:Cfg)(f:Nat)(c:Ctr)(ks:List (Nat×Int))(d:DE)(os:List Ob):Bool :=
 match P.funcs[f]? with
 | some fn=>match runFK C 100000 8 c fn ks with
  | some (d',os')=>d'.beq d&&yED os' os
  | none=>false
 | none=>false
theorem zMF{P:Program}{C:Cfg}{f:Nat}{c:Ctr}{ks:List (Nat×Int)}{d:DE}{os:List Ob}(h:qGF P C f c ks d os=true):∃fn,P.funcs[f]? = some fn/\runFK C 100000 8 c fn ks=some (d,os):=by
 unfold qGF at h;split at h
 ·rename_i fn hf;split at h
  ·rename_i d' os' hr;simp only[Bool.and_eq_true] at h;have e1:=DE.beq_eq h.1;have e2:=yDC h.2;subst e1;subst e2
   exact⟨fn,hf,hr⟩
  ·cases h
 ·cases h
def xXE(P:Program)(f:Nat):Bool:=match P.funcs[f]? with|some fn=>fn.body.isSome|none=>false
theorem xDF{P:Program}{f:Nat}(h:xXE P f=true):∃fn b,P.funcs[f]? = some fn/\fn.body=some b:=by
 unfold xXE at h;split at h
 ·rename_i fn hf;obtain⟨b,hb⟩:=Option.isSome_iff_exists.1 h;exact⟨fn,b,hf,hb⟩
 ·cases h
theorem make_okR{P:Program}(hnm:xOA P)(hord:P.follows .mixedOrders=true){f:FuncId}{c:Ctr}{M:Msg}(hf:xXE P f=true)
  (hpre:c.pre=true) (hnr:noRd c.res=true) (hsig:areA P [.int .i64,.tree] c.args=true) (hS:∀v t,side c.fn [v,t]=xTH M v t)
  (hrun:∀v,0<=v->v<=M.most -> ∃C:Cfg,C.P=P/\(∀f c,C.ctr f=some c->xMB P X side f c) /\ ∃de os,qGF P C f c [(0,v)] de os=true /\ ∀t:T,side c.fn [.int v,t.d]->zCA X side os [.int v,t.d]/\de.eval X [.int v,t.d]=X c.fn [.int v,t.d]):xMB P X side f c:=by
 obtain⟨fn,b,hf,hb⟩:=xDF hf;refine⟨⟨fn,b,hf,hb⟩,fun ok w vs ds hA hok hRd hp=>?_⟩;have hk:=qQF hsig hA;have hs:=hp hpre;obtain @⟨⟩ | @⟨_,d1,_,_,k1,hk⟩:=hk;obtain @⟨⟩ | @⟨_,d2,_,_,k2,hk⟩:=hk;cases hk;obtain⟨v,rfl,_⟩:=k1;obtain⟨t,rfl⟩:=k2;have hs':=hs;rw[hS] at hs';obtain⟨C,hP,hall,de,os,hr,he⟩:=hrun v hs'.1.1 hs'.1.2;subst hP;obtain⟨fn',hf',hr⟩:=zMF hr;rw[hf] at hf';cases hf'
 obtain⟨h1,h2⟩:=he t hs;refine callK hnm hord hall hf hr hA hok (fun j k hjk=>?_) h1 h2 (xXD hnr _);simp only[lk] at hjk;split at hjk
 ·rename_i hj;cases hjk;rw[beq_iff_eq] at hj;subst hj;rfl
 ·cases hjk
theorem make_okM{P:Program}(hnm:xOA P)(hord:P.follows .mixedOrders=true){f:FuncId}{c:Ctr}{M:Msg}(hf:xXE P f=true)
  (hpre:c.pre=true) (hnr:noRd c.res=true) (hsig:areA P [.int .i64,.tree] c.args=true) (hM:qOG M=true) (hX:∀v t,X c.fn [v,t]=mX M v t) (hS:∀v t,side c.fn [v,t]=xTH M v t)
  (hrun:∀v,0<=v->v<=M.most -> ∃C:Cfg,C.P=P/\(∀f c,C.ctr f=some c->xMB P X side f c)/\qGF P C f c [(0,v)] (msgE M v) (msgO M v)=true):xMB P X side f c :=
 make_okR hnm hord hf hpre hnr hsig hS (fun v h0 h1=>by
  obtain⟨C,hP,hc,hr⟩:=hrun v h0 h1;exact⟨C,hP,hc,_,_,hr,fun t hs=>make_evM hM hX hS v t hs⟩)
theorem law_calls{P:Program}{C:Cfg}(hP:C.P=P)(hnm:xOA P)(hord:P.follows .mixedOrders=true)(hctr:∀f c,C.ctr f=some c->xMB P X side f c){f:Nat}{tu tt tb m:Nat}{M:Msg}
  (hrun:qGF P C f ⟨[.val tu,.val tt],.val tb,200,false⟩ [] (lawE' M m) (lawO' M m)=true) (hu:isI P .u8 tu=true) (htree:yBC P tt=true) (hbo:isBo P tb=true)
  (hM:qOG M=true) (hX:∀v t,X m [v,t]=mX M v t) (hS:∀v t,side m [v,t]=xTH M v t) {ok:Nat->Prop} {w:World} {n:Int} {tv:Value} {d:D} (hn:(Lit.int .u8 n).wf=true) (ht:Rep P ok w tt tv d) (hok:∀b,ok b->b<w.heap.size)
  (hl:∀t:T,d=t.d->wfT t=true->xQD t=true -> ∀v,0<=v->v<=M.most->(xTB M v t).length+16<=lim) :
  Calls P f #[.int .u8 n,tv] w fun e w'=>e = .returned (.bool true)/\Fr (fun _=>False) w w':=by
 subst hP;obtain⟨fn,hf,hr⟩:=zMF hrun;have hA:ArgsOk C.P ok w [.val tu,.val tt] [.int .u8 n,tv] [.int n,d]:=.cons (.val (.int (yRI hu) hn)) (.cons (.val ht) .nil);obtain⟨t,rfl⟩:=(zFF ht).1 htree;have hw:=(zRK ht).1 htree t rfl;obtain⟨hn0,hn1⟩:=wf_u8 hn;have hlaw:=law_okM hM hX hS n t hn0 hn1 hw (hl t rfl hw);have hW:∀b,¬Wr w [AK.val tu,.val tt] [.int .u8 n,tv] b:=fun b h=>by simp[Wr,wrA] at h
 have:=callK (C:=C) (c:=⟨[.val tu,.val tt],.val tb,200,false⟩) hnm hord hctr hf hr hA (fun b hb=>⟨hok b hb,hW b⟩) (fun j k hj=>by simp[lk] at hj) hlaw.1 (by rw[hlaw.2];exact(X_200 _).symm) (xXD rfl _)
 refine Calls.mono this (fun e w' he=>?_);obtain⟨v,rfl,hfr,hres⟩:=he;have e1:Rep C.P (fun b=>ok b∨w.heap.size<=b) w' tb v (X 200 [.int n,t.d]):=hres (fun b=>ok b∨w.heap.size<=b) (fun _ h=>.inl h) (fun _ h _=>.inr h);rw[X_200] at e1;refine⟨?_,hfr.mono (fun b _ hb=>(hW b hb).elim)⟩;cases e1;rfl
noncomputable def namesOk? (l : List Func) : Bool := l.all fun fn => !(fn.name == "runtime.NumGoroutine")
theorem names_ok{P:Program}(h:namesOk? P.funcs.toList=true):xOA P:=fun f fn hf=>by
 have:=List.all_eq_true.1 h fn (by
  rw[<- Array.getElem?_toList] at hf;exact List.mem_of_getElem? hf)
 simpa using this
end Go.Mx
namespace Go.Mx
open Go Go.Dx
def fldOk(P:Program)(good:List TypeId)(i:Nat)(f:Field):Bool:=decide (f.offset=i)&&decide (P.cellsOf f.type=1)&&good.elem f.type && !agg P f.type
def xWG(P:Program)(good:List TypeId):Nat->List Field->Bool
 | _,[]=>true
 | i,f::r=>fldOk P good i f&&xWG P good (i+1) r
def okT(P:Program)(good:List TypeId)(t:TypeId):Bool :=
 match P.underlying t with
 | some .bool=>true
 | some (.int _)=>true
 | some .string=>true
 | some (.slice e)=>(P.info? e).isSome&&decide (0<P.cellsOf e)&&good.elem e&&(!isI P .u8 e || decide (P.cellsOf e=1))
 | some (.struct fs)=>decide (P.cellsOf t=fs.size)&&decide (tys P t=fs.toList.map (·.type))&&xWG P good 0 fs.toList
 | _=>false
section
variable {H:Type} {enc:TypeId×Value->H} {P:Program} {w:World} {sp:Nat->Bool} {held:Bool} {good:List TypeId}
theorem yWF:∀ {l:List Field} {i j:Nat} {f:Field},xWG P good i l=true->l[j]? = some f->fldOk P good (i+j) f=true
 | g::r,i,0,f,h,hj=>by
  simp only[List.getElem?_cons_zero,Option.some.injEq] at hj;subst hj
  simp only[xWG,Bool.and_eq_true] at h;exact h.1
 | g::r,i,j+1,f,h,hj=>by
  simp only[List.getElem?_cons_succ] at hj;simp only[xWG,Bool.and_eq_true] at h
  have:=yWF h.2 hj
  rwa [show i+1+j=i+(j+1) by omega] at this
theorem cell_lt{a:Addr}{v:Value}(h:w.cell? a=some v):a.spot=none/\a.block<w.heap.size:=by
 unfold World.cell? at h;split at h
 ·rename_i c t fr hb;split at h
  ·cases h
  ·rename_i hs;exact⟨by simpa using hs,(Array.getElem?_eq_some_iff.1 hb).1⟩
 ·cases h
theorem size_of{e:TypeId}{i:TypeInfo}(h:P.info? e=some i):P.cellsOf e=i.size:=by simp[Program.cellsOf,h]
theorem xLG{t:TypeId}(h:good.elem t=true):t∈good:=by simpa using h
structure Bulk (bk:DataW H->Nat):Prop where
 one:∀d,1<=bk d
 sl:∀es sp,(es.map bk).sum+1<=bk (.slice es sp)
 ag:∀ps,(ps.map bk).sum+1<=bk (.agg ps)
mutual
def wD:D->Nat
 | .bytes s=>s.length+1
 | .list l=>wDs l+1
 | .row l=>wDs l+1
 | _=>1
def wDs:List D->Nat
 | []=>0
 | d::r=>wD d+wDs r
end
theorem xIK:∀(l:List D) (m:List Nat),l.length=m.length->(∀(j:Nat) d n,l[j]? = some d->m[j]? = some n->wD d<=n)->wDs l<=m.sum
 | [],_,_,_=>by simp[wDs]
 | d::l,[],h,_=>by simp at h
 | d::l,n::m,h,hp=>by
  simp only[wDs,List.sum_cons];have h1:=hp 0 d n rfl rfl;have h2:=xIK l m (by simpa using h) (fun j d' n' hd hn=>hp (j+1) d' n' hd hn);omega
theorem sum_ge:∀(m:List Nat),(∀n∈m,1<=n)->m.length<=m.sum
 | [],_=>by simp
 | n::m,h=>by
  have h1:=h n (by simp);have h2:=sum_ge m (fun k hk=>h k (by simp[hk]));simp only[List.length_cons,List.sum_cons];omega
theorem rep_trod{bk:DataW H->Nat}(hbk:Bulk bk)(hg:∀t∈good,okT P good t=true)(hsp:∀b,sp b=true):∀(fuel:Nat) (t:TypeId) (cs:List Value) (x:DataW H×List MemPlace),t∈good->DataW.trod enc P w 0 sp held fuel t cs=some x ->
  ∃v d,v.cells.toList=cs/\Rep P (fun b=>b<w.heap.size) w t v d/\(agg P t=false->cs=[v])/\wD d<=bk x.1:=by
 intro fuel
 induction fuel using Nat.strongRecOn with
 | _ fuel ih =>
  intro t cs x ht h;have hok:=hg t ht;unfold okT at hok;split at hok
  ·rename_i hu;obtain⟨b,rfl,_⟩:=DataW.trod_bool hu h;exact⟨.bool b,_,rfl,.bool hu,fun _=>rfl,hbk.one _⟩
  ·rename_i k hu;obtain⟨n,rfl,_,hw⟩:=DataW.trod_int hu h;exact⟨.int k n,_,rfl,.int hu hw,fun _=>rfl,hbk.one _⟩
  ·rename_i hu;obtain⟨s,rfl,_,hs⟩:=DataW.trod_string hu h;exact⟨.string s,_,rfl,.str hu hs,fun _=>rfl,hbk.one _⟩
  ·rename_i e hu;simp only[Bool.and_eq_true,decide_eq_true_eq] at hok;obtain⟨⟨⟨hinf,hpos⟩,hge⟩,hu8⟩:=hok;obtain⟨i,hi⟩:=Option.isSome_iff_exists.1 hinf;have hsz:=size_of hi;rcases DataW.trod_slice hu h with⟨rfl,_⟩|⟨a,len,cap,elems,rest,n,rfl,rfl,rfl,hb,hlc,hcm,hlen,hel,hrest,_⟩
   ·exact⟨.slice none 0 0,_,rfl,.snil hu,fun _=>rfl,hbk.one _⟩
   ·refine⟨.slice (some a) len cap,?_⟩;have hel':∀j,j<len -> ∃cj yj,w.cells? 0 (a.add (j*P.cellsOf e)) (P.cellsOf e)=some cj/\DataW.trod enc P w 0 sp held n e cj=some yj/\elems[j]? = some yj:=fun j hj=>by
     have:=hel j hj
     have hej:elems[j]? = some elems[j]:=List.getElem?_eq_getElem (by omega);rw[hej] at this;obtain⟨cj,h1,h2⟩:=Option.bind_eq_some_iff.1 this;exact⟨cj,_,h1,h2,hej⟩
    have hspot:0<cap->a.spot=none/\a.block<w.heap.size:=fun h0=>by
     have hread:∃cj,w.cells? 0 a (P.cellsOf e)=some cj:=by
      by_cases hl0:0<len
      ·obtain⟨cj,_,h1,_⟩:=hel' 0 hl0;exact⟨cj,by simpa[Addr.add] using h1⟩
      ·have hl:len=0:=by omega
       obtain⟨hr1,hr2⟩:=hrest (hsp _)
       have:=hr2 0 (by omega)
       rw[List.getElem?_eq_getElem (by omega)] at this;obtain⟨cj,h1,_⟩:=Option.bind_eq_some_iff.1 this;exact⟨cj,by simpa[Addr.add,hl] using h1⟩
     obtain⟨cj,hcj⟩:=hread;obtain⟨_,hlj,hcell⟩:=World.cells?_some hcj;have h1:=hcell 0 hpos;rw[List.getElem?_eq_getElem (by omega)] at h1;have h2:=cell_lt h1;simpa[Addr.add] using h2
    have hch:∀j:Nat,∃q:Value×D,j<len->(∀i,i<P.cellsOf e->w.cell? ((a.add (j*P.cellsOf e)).add i)=q.1.cells.toList[i]?)/\q.1.cells.size=P.cellsOf e/\Rep P (fun b=>b<w.heap.size) w e q.1 q.2/\(agg P e=false->q.1.cells = #[q.1]) /\ ∀y,elems[j]? = some y->wD q.2<=bk y.1:=fun j=>by
     by_cases hj:j<len
     ·obtain⟨cj,yj,h1,h2,h3⟩:=hel' j hj;obtain⟨_,hlj,hcell⟩:=World.cells?_some h1;obtain⟨v,d,k1,k2,k3,k4⟩:=ih n (by omega) e cj yj (xLG hge) h2;refine⟨(v,d),fun _=>⟨fun i hi=>by rw[hcell i hi,<- k1],by rw[<- Array.length_toList,k1,hlj],k2,fun ha=>?_,fun y hy=>by rw[h3] at hy;cases hy;exact k4⟩⟩
      have:=k3 ha
      rw[<- k1] at this;exact Array.toList_inj.1 (by rw[this])
     ·exact⟨(undef,.nil),fun h=>absurd h hj⟩
    obtain⟨q,hq⟩:=Classical.axiomOfChoice hch;cases h8:isI P .u8 e with
    | true =>
     have hue:=yRI h8;rw[h8] at hu8;have hs1:P.cellsOf e=1:=by simpa using hu8
     have hag:agg P e=false:=by simp[agg,hue,zFA]
     have hb8:∀j,j<len -> ∃x:UInt8,(q j).1 = .int .u8 x.toNat:=fun j hj=>by
      obtain⟨_,_,hr,_⟩:=hq j hj;generalize (q j).1=v at hr;generalize (q j).2=d at hr;obtain⟨m,rfl,hw⟩:=zXB h8 hr;cases hr with
      | int hu' hw' =>
       rw[hue] at hu';cases hu'
       have hb:0<=m/\m<256:=by
        simp[Lit.wf,IntKind.min,IntKind.max,IntKind.signed,IntKind.bits] at hw;omega
       refine⟨UInt8.ofNat m.toNat,?_⟩
       have:(UInt8.ofNat m.toNat).toNat=m.toNat:=by simp[UInt8.toNat_ofNat'];omega
       rw[this];congr 1;omega
     obtain⟨y,hy⟩:=Classical.axiomOfChoice (r:=fun(j:Nat) (x:UInt8)=>j<len->(q j).1 = .int .u8 x.toNat) (fun j=>by
      by_cases hj:j<len
      ·obtain⟨x,hx⟩:=hb8 j hj;exact⟨x,fun _=>hx⟩
      ·exact⟨0,fun h=>absurd h hj⟩)
     have hl:((List.range len).map y).length=len:=by simp
     have:=Rep.bytes (ok:=fun b=>b<w.heap.size) (w:=w) (s:=(List.range len).map y) (ad:=a) (cap:=cap) hu hue hspot (by rw[hl];exact hlc) hcm (fun j v hj=>by
      rw[List.getElem?_map,List.getElem?_map] at hj;have hjl:j<len:=by
       by_cases hh:j<len
       ·exact hh
       ·rw[List.getElem?_eq_none (by simp;omega)] at hj;cases hj
      rw[List.getElem?_range hjl] at hj;simp only[Option.map_some,Option.some.injEq] at hj;subst hj;obtain⟨h1,h2,_,h3,_⟩:=hq j hjl;have h4:=h1 0 (by omega);rw[h3 hag,hs1,Nat.mul_one] at h4;have hcap:0<cap:=by omega
      rw[xZC (hspot hcap).1,zAB,Nat.add_zero] at h4;rw[h4,hy j hjl];rfl)
     rw[hl] at this;refine⟨_,rfl,this,fun _=>rfl,?_⟩;show ((List.range len).map y).length+1<=_;refine Nat.le_trans ?_ (hbk.sl _ _);rw[hl]
     have:=sum_ge ((elems.map (·.1)).map bk) (fun n hn=>by obtain⟨d,_,rfl⟩:=List.mem_map.1 hn;exact hbk.one d)
     simp only[List.length_map] at this;omega
    | false =>
     have hne:P.underlying e≠some (.int .u8):=fun hh=>by simp[isI,hh] at h8
     have hl:((List.range len).map fun j=>(q j).2).length=len:=by simp
     have hget:∀ {A:Type} (f:Nat->A) (j:Nat) (v:A),((List.range len).map f)[j]? = some v->j<len/\v=f j:=fun f j v hj=>by
      rw[List.getElem?_map] at hj;have hjl:j<len:=by
       by_cases hh:j<len
       ·exact hh
       ·rw[List.getElem?_eq_none (by simp;omega)] at hj;cases hj
      rw[List.getElem?_range hjl] at hj;simp only[Option.map_some,Option.some.injEq] at hj;exact⟨hjl,hj.symm⟩
     have:=Rep.list (ok:=fun b=>b<w.heap.size) (w:=w) (vs:=(List.range len).map fun j=>(q j).1) (ds:=(List.range len).map fun j=>(q j).2) (ad:=a) (cap:=cap) hu hne hi hspot (by simp) (by rw[hl];exact hlc) hcm
      (fun v hv=>by
       obtain⟨j,hj,rfl⟩:=List.mem_map.1 hv;rw[(hq j (List.mem_range.1 hj)).2.1,hsz])
      (fun j v hj i u hi'=>by
       obtain⟨hjl,rfl⟩:=hget _ j v hj;obtain⟨h1,h2,_,_,_⟩:=hq j hjl;have hil:i<P.cellsOf e:=by
        rw[<- h2]
        have:=(List.getElem?_eq_some_iff.1 hi').1
        simpa using this
       have h4:=h1 i hil;have hcap:0<cap:=by omega
       rw[xZC (hspot hcap).1,zAB,hsz] at h4;rw[h4];exact hi')
      (fun j v d h1 h2=>by
       obtain⟨hjl,rfl⟩:=hget _ j v h1;obtain⟨_,rfl⟩:=hget _ j d h2;exact(hq j hjl).2.2.1)
     rw[hl] at this;refine⟨_,rfl,this,fun _=>rfl,?_⟩;show wDs _+1<=_;refine Nat.le_trans (Nat.succ_le_succ (xIK _ ((elems.map (·.1)).map bk) (by simp;omega) (fun j d n h1 h2=>?_))) (hbk.sl _ _);obtain⟨hjl,rfl⟩:=hget _ j d h1;rw[List.map_map,List.getElem?_map] at h2;obtain⟨y,hy,rfl⟩:=Option.map_eq_some_iff.1 h2;exact(hq j hjl).2.2.2.2 y hy
  ·rename_i fs hu;simp only[Bool.and_eq_true,decide_eq_true_eq] at hok;obtain⟨⟨hcs,hty⟩,hfl⟩:=hok;obtain⟨xs,n,rfl,rfl,hlen,hxl,hel⟩:=DataW.trod_struct hu h;have hag:agg P t=true:=by simp[agg,hu,zFA]
   have hl1:cs.length=fs.size:=by rw[hlen,hcs]
   have hch:∀j:Nat,∃d:D,∀(f:Field) (v:Value),fs[j]? = some f->cs[j]? = some v->Rep P (fun b=>b<w.heap.size) w f.type v d/\v.cells = #[v] /\ ∀y,xs[j]? = some y->wD d<=bk y.1:=fun j=>by
    by_cases hj:j<fs.size
    ·have hfj:fs[j]? = some fs[j]:=Array.getElem?_eq_getElem hj;have hfo:=yWF (i:=0) hfl (by rw[Array.getElem?_toList];exact hfj);unfold fldOk at hfo;simp only[Bool.and_eq_true,decide_eq_true_eq,Nat.zero_add,Bool.not_eq_true'] at hfo;obtain⟨⟨⟨o1,o2⟩,o3⟩,o4⟩:=hfo;have h1:=hel j _ hfj;rw[o1,o2,List.getElem?_eq_getElem (by omega)] at h1;obtain⟨v,d,k1,k2,k3,k5⟩:=ih n (by omega) _ _ _ (xLG o3) h1;have k4:=k3 o4;refine⟨d,fun f u hf hu'=>?_⟩;rw[hfj] at hf;cases hf
     have:(cs.drop j).take 1=[u]:=by
      rw[List.drop_eq_getElem_cons (by omega)]
      have:=(List.getElem?_eq_some_iff.1 hu').2
      simp[this]
     rw[this] at k4 k1;cases k4;exact⟨k2,Array.toList_inj.1 (by rw[k1]),fun y hy=>by rw[List.getElem?_eq_getElem (by omega)] at hy;cases hy;exact k5⟩
    ·exact⟨.nil,fun f v hf=>by rw[Array.getElem?_eq_none (by omega)] at hf;cases hf⟩
   obtain⟨q,hq⟩:=Classical.axiomOfChoice hch;have htl:(tys P t).length=fs.size:=by rw[hty];simp
   refine⟨.agg cs.toArray,.row ((List.range fs.size).map q),rfl,?_,(fun h=>by rw[hag] at h;cases h),?_⟩
   rotate_left
   ·show wDs _+1<=_;refine Nat.le_trans (Nat.succ_le_succ (xIK _ ((xs.map (·.1)).map bk) (by simp;omega) (fun j d n h1 h2=>?_))) (hbk.ag _);rw[List.getElem?_map] at h1;have hjf:j<fs.size:=by
     by_cases hh:j<fs.size
     ·exact hh
     ·rw[List.getElem?_eq_none (by simp;omega)] at h1;cases h1
    rw[List.getElem?_range hjf] at h1;simp only[Option.map_some,Option.some.injEq] at h1;subst h1;rw[List.map_map,List.getElem?_map] at h2;obtain⟨y,hy,rfl⟩:=Option.map_eq_some_iff.1 h2;exact(hq j fs[j] _ (Array.getElem?_eq_getElem hjf) (List.getElem?_eq_getElem (by omega))).2.2 y hy
   refine .row hu rfl (by rw[htl,hl1]) (by simp[htl]) (fun v hv=>?_) (fun j u v d hj hv hd=>?_)
   ·obtain⟨j,hj,rfl⟩:=List.mem_iff_getElem.1 hv;have hjf:j<fs.size:=by omega
    exact(hq j fs[j] _ (Array.getElem?_eq_getElem hjf) (List.getElem?_eq_getElem hj)).2.1
   ·rw[hty,List.getElem?_map,Array.getElem?_toList] at hj;obtain⟨f,hf,rfl⟩:=Option.map_eq_some_iff.1 hj;rw[List.getElem?_map] at hd;have hjf:=(Array.getElem?_eq_some_iff.1 hf).1;rw[List.getElem?_range hjf] at hd;simp only[Option.map_some,Option.some.injEq] at hd;subst hd;exact(hq j f v hf hv).1
  ·cases hok
end
end Go.Mx
namespace Go.Mx
open Go Go.Dx
mutual
def WT:T->Nat
 | .mk _ s _ l u=>1+(s.getD []).length+WTo l+((u.getD []).map fun x=>1+(x.val.getD []).length).sum
def WTo:Option (List T)->Nat
 | none=>0
 | some l=>WTl l
def WTl:List T->Nat
 | []=>0
 | t::r=>WT t+WTl r
end
theorem yTJ:∀l:List T,WTl l=(l.map WT).sum
 | []=>rfl
 | t::r=>by rw[WTl,yTJ r];rfl
theorem ySJ(t:T):1<=WT t:=by obtain⟨n,s,b,l,u⟩:=t;rw[WT];omega
theorem WT_S(t:T):t.S.length+1<=WT t:=by obtain⟨n,s,b,l,u⟩:=t;rw[WT];show (s.getD []).length+1<=_;omega
theorem WT_L(t:T):(t.L.map WT).sum+1<=WT t:=by
 obtain⟨n,s,b,l,u⟩:=t;rw[WT];cases l with
 | none=>show 0+1<=_;omega
 | some l=>rw[WTo,yTJ];show (l.map WT).sum+1<=_;omega
def WU(u:List Tg):Nat:=(u.map fun x=>1+(x.val.getD []).length).sum
theorem WT_U(t:T):WU t.U+1<=WT t:=by
 obtain⟨n,s,b,l,u⟩:=t;rw[WT];show ((u.getD []).map fun x=>1+(x.val.getD []).length).sum+1<=_;omega
theorem qOJ{A:Type}(f:A->Nat):∀ {l:List A} {a:A},a∈l->f a<=(l.map f).sum
 | b::l,a,h=>by
  rw[List.map_cons,List.sum_cons];rcases List.mem_cons.1 h with rfl|h
  ·omega
  ·have:=qOJ f h;omega
theorem WT_at(t:T)(i:Int):WT (at' t i)<=WT t:=by
 have h1:=ySJ t;have h0:WT T.zero=1:=rfl;unfold at';split
 ·rw[List.getD_eq_getElem?_getD];cases hg:t.L[i.toNat]? with
  | none=>show WT T.zero<=_;omega
  | some y =>
   show WT y<=_
   have:=qOJ WT (List.mem_of_getElem? hg)
   have:=WT_L t
   omega
 ·omega
theorem yNG{A:Type}(f:A->Nat):∀(l:List A) (n:Nat),((l.take n).map f).sum<=(l.map f).sum
 | [],n=>by simp
 | a::l,0=>by simp
 | a::l,n+1=>by
  have:=yNG f l n
  simp only[List.take_succ_cons,List.map_cons,List.sum_cons];omega
theorem yQI(x:Tg):∀l:List Tg,WU (xAA x l)<=WU l+(1+(x.val.getD []).length)
 | []=>by simp[xAA,WU]
 | t::r=>by
  have:=yQI x r
  rw[xAA];unfold WU at this ⊢;split
  ·simp only[List.map_cons,List.sum_cons] at this ⊢;omega
  ·split
   ·omega
   ·simp only[List.map_cons,List.sum_cons];omega
theorem unk_W(k:Int):∀(l out:List Tg),WU (l.foldl (fun out t=>if t.key<k then out else xAA t out) out)<=WU out+WU l
 | [],out=>by simp[WU]
 | t::l,out=>by
  have h3:WU (t::l)=(1+(t.val.getD []).length)+WU l:=by simp[WU]
  rw[List.foldl];by_cases c:t.key<k
  ·rw[if_pos c];have h1:=unk_W k l out;omega
  ·rw[if_neg c];have h1:=unk_W k l (xAA t out);have h2:=yQI t out;omega
theorem xBK(fs:List Fl)(u:Option (List Tg)):WU (zRA fs u)<=WU (u.getD []):=by
 have h1:=unk_W (xZA fs) ((u.getD []).take Most) [];have h2:=yNG (fun x:Tg=>1+(x.val.getD []).length) (u.getD []) Most;unfold zRA;unfold WU at *;simp only[List.map_nil,List.sum_nil] at h1;omega
theorem Uv_le{n:Nat}(h:n<18446744073709551616):(zHA n).length<=10:=by
 have key:∀(k n:Nat),n<128 ^ (k+1)->(zHA n).length<=k+1:=by
  intro k
  induction k with
  | zero=>intro n hn;rw[zHA,if_neg (by omega)];simp
  | succ k ih =>
   intro n hn;rw[zHA];split
   ·rw[List.length_cons]
    have:=ih (n / 128) (by rw[Nat.pow_succ] at hn;exact Nat.div_lt_of_lt_mul (by rw[Nat.mul_comm];exact hn))
    omega
   ·simp
 exact key 9 n (Nat.lt_trans h (by decide))
theorem unkB_le(x:Tg):(unkB x).length<=20+(x.val.getD []).length:=by
 rw[unkB,tagB,List.length_append,List.length_append];have h1:(zHA (IntKind.u64.wrap x.key).toNat).length<=10:=Uv_le (by rw[IntKind.wrap_u64];omega);have h2:((x.val.getD []).take Most).length<=(x.val.getD []).length:=by rw[List.length_take];omega
 have h3:(zHA ((x.val.getD []).take Most).length).length<=10:=Uv_le (by rw[List.length_take];simp only[Most];omega);omega
theorem xCK:∀l:List Tg,((l.map unkB).flatten).length<=20*WU l
 | []=>by simp
 | x::l=>by
  have h1:=unkB_le x;have h2:=xCK l;have h3:WU (x::l)=(1+(x.val.getD []).length)+WU l:=by simp[WU]
  rw[List.map_cons,List.flatten_cons,List.length_append];omega
mutual
def cF:Fl->Nat
 | .mk k _ _ _ _ _ of sub=>if k=11 then 10+2*cV of (cS sub) else 1+cV k (cS sub)
def cS:Option (List Fl)->Nat
 | none=>30
 | some l=>cL l+30
def cL:List Fl->Nat
 | []=>0
 | f::r=>cF f+cL r
def cV(k:Int)(s:Nat):Nat:=if k=10 then s else 16
end
theorem qZD(x b:Bool){n k:Nat}(h:n<18446744073709551615)(hk:k<=4):(counted x b n k).length<=10:=by
 cases x <;> cases b <;> simp[counted,yPA]
 ·omega
 ·omega
 ·exact Uv_le (by omega)
theorem yGH(k:Int)(b x:Bool)(t:T)(p:List UInt8)(s:Nat)(hp:p.length<=s*(1+WT t)):(yOA k b x t p).length<=cV k s*(1+WT t):=by
 unfold yOA cV;have hw:=WT_S t;by_cases h10:k=10
 ·subst h10;simp only[show ¬((10:Int)=0) by decide,show ¬((10:Int)=7) by decide,show ¬((10:Int)=8) by decide,show ¬((10:Int)=9) by decide,if_true,if_false];exact hp
 rw[if_neg h10,if_neg h10];have hS:(if b then [] else t.S.take Most).length<=t.S.length/\(if b then [] else t.S.take Most).length<=32767:=by cases b <;> simp[Most] <;> omega
 by_cases h0:k=0
 ·rw[if_pos h0];simp;omega
 rw[if_neg h0];by_cases h7:k=7
 ·rw[if_pos h7,qYB];omega
 rw[if_neg h7];by_cases h8:k=8
 ·rw[if_pos h8]
  have:=qZD x b (n:=(if b then [] else t.S.take Most).length) (k:=2) (by omega) (by omega)
  simp only[List.length_append];omega
 rw[if_neg h8];by_cases h9:k=9
 ·rw[if_pos h9]
  have:=qZD x b (n:=(if b then [] else t.S.take Most).length) (k:=4) (by omega) (by omega)
  simp only[List.length_append];omega
 rw[if_neg h9,yPA]
 have:(xTC k).toNat<=8:=by
  unfold xTC
  repeat (first|decide|split)
 omega
theorem flat_W{A:Type}(g:A->List UInt8)(w:A->Nat)(c:Nat):∀l:List A,(∀y∈l,(g y).length<=c*(1+w y))->(∀y∈l,1<=w y)->((l.map g).flatten).length<=2*c*(l.map w).sum
 | [],_,_=>by simp
 | y::l,h,hw=>by
  have h1:=h y (by simp);have h2:=flat_W g w c l (fun z hz=>h z (by simp[hz])) (fun z hz=>hw z (by simp[hz]));have h3:=hw y (by simp);rw[List.map_cons,List.flatten_cons,List.length_append,List.map_cons,List.sum_cons,Nat.mul_add];have h4:c*(1+w y)<=2*c*w y:=by
   have:1+w y<=2*w y:=by omega
   calc c*(1+w y)<=c*(2*w y):=Nat.mul_le_mul_left _ this
    _=2*c*w y:=by rw[<- Nat.mul_assoc,Nat.mul_comm c 2]
  omega
theorem yUK(fs:Option (List Fl))(v:Int)(x:Bool)(t:T)(hp:xPC fs=true){c:Nat}(h:(outP (fs.getD []) v x t).length<=c*(1+WT t)):(yKA fs v x t).length<=(c+30)*(1+WT t):=by
 have hk:xZA (fs.getD [])=0:=by
  cases fs with
  | none=>rfl
  | some l=>exact ySD hp
 rw[Nat.add_mul];cases x with
 | false=>rw[yYC];omega
 | true =>
  rw[yWB,List.length_append,List.length_append];have e1:xFD (fs.getD []) v true t=[]:=by rw[xFD,hk];rfl
  rw[zXD,e1,List.nil_append,yFJ,List.length_map];have h1:=xCK (zRA (fs.getD []) t.u);have h2:=xBK (fs.getD []) t.u;have h3:=WT_U t;have h4:=zYB (fs.getD []) t.u;have h5:=Uv_le (n:=(zRA (fs.getD []) t.u).length) (by omega);have h6:WU (t.u.getD [])=WU t.U:=rfl;omega
mutual
theorem field_le:∀(f:Fl) (v:Int) (x:Bool) (t:T),yGE f=true->(field f v x t).length<=cF f*(1+WT t)
 | .mk k a b nl g df of sub,v,x,t,hp=>by
  obtain⟨_,_,hps⟩:=qUC hp;rw[yPC];simp only[Fl.kind,Fl.null,Fl.of,Fl.sub];generalize Mx.null (.mk k a b nl g df of sub) v t=bn;have hw:=ySJ t;unfold zZC;rw[cF];by_cases h:k=11
  ·rw[if_pos h,if_pos h,List.length_append];have hl:(if bn then ([]:List T) else t.L.take Most).length<=32767:=by cases bn <;> simp[Most];omega
   have h1:=qZD x bn (n:=(if bn then ([]:List T) else t.L.take Most).length) (k:=4) (by omega) (by omega);have h2:=flat_W (fun y=>yOA of false x y (yKA sub v x y)) WT (cV of (cS sub)) (if bn then ([]:List T) else t.L.take Most) (fun y _=>yGH of false x y _ _ (yBG sub v x y hps)) (fun y _=>ySJ y);have h3:((if bn then ([]:List T) else t.L.take Most).map WT).sum<=WT t:=by
    have:=WT_L t
    have:=yNG WT t.L Most
    cases bn
    ·simp only[Bool.false_eq_true,if_false];omega
    ·simp
   have h4:2*cV of (cS sub)*((if bn then ([]:List T) else t.L.take Most).map WT).sum<=2*cV of (cS sub)*WT t:=Nat.mul_le_mul_left _ h3;have e:(10+2*cV of (cS sub))*(1+WT t)=10*(1+WT t)+2*cV of (cS sub)*(1+WT t):=Nat.add_mul _ _ _;have e2:2*cV of (cS sub)*WT t<=2*cV of (cS sub)*(1+WT t):=Nat.mul_le_mul_left _ (by omega);have h2':((((if bn then ([]:List T) else t.L.take Most)).map fun y=>yOA of false x y (yKA sub v x y)).flatten).length<=2*cV of (cS sub)*((if bn then ([]:List T) else t.L.take Most).map WT).sum:=h2;have h5:((((if bn then ([]:List T) else t.L.take Most)).map fun x_1=>yOA of false x x_1 ((fun x_2=>yKA sub v x x_2) x_1)).flatten).length=((((if bn then ([]:List T) else t.L.take Most)).map fun y=>yOA of false x y (yKA sub v x y)).flatten).length:=rfl;simp only at *;omega
  ·rw[if_neg h,if_neg h];have h1:=yGH k bn x t (yKA sub v x t) (cS sub) (yBG sub v x t hps);have e:(1+cV k (cS sub))*(1+WT t)=(1+WT t)+cV k (cS sub)*(1+WT t):=by rw[Nat.add_mul,Nat.one_mul]
   split
   ·rename_i hc;have h2:(yKA sub v x t).length<=cV k (cS sub)*(1+WT t):=by rw[cV,if_pos hc.1];exact yBG sub v x t hps
    split
    ·rw[yPA];omega
    ·rw[List.length_append,yPA];show 1+(yKA sub v x t).length<=_;omega
   ·refine Nat.le_trans h1 ?_;omega
theorem yBG:∀(fs:Option (List Fl)) (v:Int) (x:Bool) (t:T),xPC fs=true->(yKA fs v x t).length<=cS fs*(1+WT t)
 | none,v,x,t,hp=>by
  have h:=yUK (c:=0) none v x t hp (by simp[outP,mapI]);rw[cS];simpa using h
 | some l,v,x,t,hp=>by
  have hl:=xQG l v x t hp 0;have h:=yUK (some l) v x t hp hl;rw[cS];exact h
theorem xQG:∀(l:List Fl) (v:Int) (x:Bool) (t:T),qSB l=true -> ∀i,((mapI (fun i f=>qKB v (rowP v x t i f)) i l).flatten).length<=cL l*(1+WT t)
 | [],_,_,_,_,_=>by simp[mapI]
 | f::r,v,x,t,hp,i=>by
  simp only[qSB,Bool.and_eq_true] at hp;have h1:=field_le f v x (at' t i) hp.1;have h2:=xQG r v x t hp.2 (i+1);have h3:=WT_at t i;have h4:cF f*(1+WT (at' t i))<=cF f*(1+WT t):=Nat.mul_le_mul_left _ (by omega);have h5:(qKB v (rowP v x t i f)).length<=(field f v x (at' t i)).length:=by
   unfold qKB rowP;split
   ·exact Nat.le_refl _
   ·simp
  rw[mapI,List.flatten_cons,List.length_append,cL,Nat.add_mul];omega
end
theorem bytes_le{M:Msg}(h:qOG M=true){t:T}{B:Nat}(hb:WT t<=B)(hc:2+cS M.fs*(1+B)+16<=lim)(v:Int):(xTB M v t).length+16<=lim:=by
 simp only[qOG,zXG,Bool.and_eq_true] at h;have h1:=yBG M.fs v (xFA M.fx v) t h.1.1.1.1.1.1;have h2:cS M.fs*(1+WT t)<=cS M.fs*(1+B):=Nat.mul_le_mul_left _ (by omega);have h3:(xSC M v).length<=2:=by unfold xSC;split <;> simp[yPA]
 unfold xTB;rw[List.length_append];omega
theorem WU_wDs:∀(l:List Tg),(l.map fun x=>1+(x.val.getD []).length).sum<=wDs (l.map Tg.d)
 | []=>by simp
 | x::r=>by
  have h2:=WU_wDs r;have h1:1+(x.val.getD []).length<=wD x.d:=by
   rw[Tg.d,wD,wDs,wDs,wDs];cases x.val with
   | none=>simp[encB,wD]
   | some s=>simp only[encB,wD,Option.getD_some];omega
  rw[List.map_cons,List.sum_cons,List.map_cons,wDs];omega
mutual
theorem WT_wD:∀t:T,WT t<=wD t.d
 | .mk n s b l u=>by
  have h1:=WTo_wD l;rw[WT,T.d,wD,wDs,wDs,wDs,wDs,wDs,wDs];have h2:((u.getD []).map fun x=>1+(x.val.getD []).length).sum<=wD (encU u):=by
   cases u with
   | none=>simp
   | some u=>have:=WU_wDs u;rw[encU,wD];simp only[Option.getD_some];omega
  have h3:(s.getD []).length<=wD (encB s):=by
   cases s with
   | none=>simp
   | some s=>rw[encB,wD];simp
  have h4:wD (D.int n)=1:=rfl;omega
theorem WTo_wD:∀l:Option (List T),WTo l<=wD (encT l)
 | none=>by rw[WTo];exact Nat.zero_le _
 | some l=>by
  rw[WTo,encT,wD]
  have:=WTs_wD l
  omega
theorem WTs_wD:∀l:List T,WTl l<=wDs (tds l)
 | []=>by rw[WTl,tds,wDs];exact Nat.le_refl _
 | t::r=>by
  have h1:=WT_wD t;have h2:=WTs_wD r;rw[WTl,tds,wDs];omega
end
end Go.Mx
namespace Go.Mx
open Go Go.Dx
theorem yPI(k:Int)(d:D):∀l:List (Int×D),(l.map (·.1)).Pairwise (· < ·)->((insM k d l).map (·.1)).Pairwise (· < ·) /\ ∀y∈insM k d l,y=(k,d)∨(y∈l/\y.1≠k)
 | [],_=>by simp[insM]
 | x::r,h=>by
  rw[List.map_cons] at h;obtain⟨h1,h2⟩:=List.pairwise_cons.1 h;have hx:∀y∈r,x.1<y.1:=fun y hy=>h1 _ (List.mem_map.2 ⟨y,hy,rfl⟩)
  obtain⟨i1,i2⟩:=yPI k d r h2;rw[insM];split
  ·rename_i hlt;refine⟨?_,fun y hy=>?_⟩
   ·rw[List.map_cons];refine List.pairwise_cons.2 ⟨fun z hz=>?_,i1⟩;obtain⟨y,hy,rfl⟩:=List.mem_map.1 hz;rcases i2 y hy with rfl|⟨hy,_⟩
    ·exact hlt
    ·exact hx y hy
   ·rcases List.mem_cons.1 hy with rfl|hy
    ·exact .inr ⟨by simp,by omega⟩
    ·rcases i2 y hy with h|⟨h,hn⟩
     ·exact .inl h
     ·exact .inr ⟨by simp[h],hn⟩
  ·split
   ·rename_i heq;refine⟨?_,fun y hy=>?_⟩
    ·rw[List.map_cons];exact List.pairwise_cons.2 ⟨fun z hz=>by rw[<- heq];exact h1 z hz,h2⟩
    ·rcases List.mem_cons.1 hy with rfl|hy
     ·exact .inl rfl
     ·exact .inr ⟨by simp[hy],by have:=hx y hy;omega⟩
   ·refine⟨?_,fun y hy=>?_⟩
    ·rw[List.map_cons,List.map_cons];refine List.pairwise_cons.2 ⟨fun z hz=>?_,List.pairwise_cons.2 ⟨h1,h2⟩⟩;rcases List.mem_cons.1 hz with rfl|hz
     ·show k<x.1;omega
     ·have:=h1 z hz;show k<z;omega
    ·rcases List.mem_cons.1 hy with rfl|hy
     ·exact .inl rfl
     ·refine .inr ⟨hy,?_⟩;rcases List.mem_cons.1 hy with rfl|hy
      ·omega
      ·have:=hx y hy;omega
theorem yNI(k:Int)(d:D):∀l:List (Int×D),(∀y∈l,y.1≠k)->((insM k d l).map (·.1)).Perm (k::l.map (·.1))
 | [],_=>by simp[insM]
 | x::r,h=>by
  rw[insM];split
  ·rw[List.map_cons,List.map_cons];exact((yNI k d r (fun y hy=>h y (by simp[hy]))).cons x.1).trans (List.Perm.swap _ _ _)
  ·rw[if_neg (h x (by simp))];exact List.Perm.refl _
theorem yOI(k:Int)(d:D):∀l:List (Int×D),(l.map (·.1)).Pairwise (· < ·)->(∃y∈l,y.1=k)->(insM k d l).map (·.1)=l.map (·.1)
 | [],_,h=>by obtain⟨y,hy,_⟩:=h;cases hy
 | x::r,h,hk=>by
  rw[List.map_cons] at h;obtain⟨h1,h2⟩:=List.pairwise_cons.1 h;obtain⟨y,hy,rfl⟩:=hk;rw[insM];rcases List.mem_cons.1 hy with rfl|hy
  ·rw[if_neg (by omega),if_pos rfl];rfl
  ·have hlt:x.1<y.1:=h1 _ (List.mem_map.2 ⟨y,hy,rfl⟩);rw[if_pos hlt,List.map_cons,List.map_cons,yOI y.1 d r h2 ⟨y,hy,rfl⟩]
section
variable {P:Program} {ok:Nat->Prop} {w:World} {m k e r:Nat} {ds:List (Int×D)} {clock:Nat} {es:Array MapEntry}
theorem qDE(hk:P.underlying k=some (.int .u32))(hkeys:(es.toList.map (·.key)).Perm (ds.map fun d=>Value.int .u32 d.1))(hkw:∀d∈ds,(Lit.int .u32 d.1).wf=true):∀x∈es.toList,∃d∈ds,x.key = .int .u32 d.1/\keyOf P k x.key=some (.int .u32 d.1):=by
 intro x hx;have h1:x.key∈ds.map fun d=>Value.int .u32 d.1:=hkeys.subset (List.mem_map.2 ⟨x,hx,rfl⟩)
 obtain⟨d,hd,he⟩:=List.mem_map.1 h1;refine⟨d,hd,he.symm,?_⟩;rw[<- he];exact Maps.keyOf_int_mk hk (hkw d hd)
theorem xOI{A:Type}{l:List A}{j:Nat}{a:A}(h:l[j]? = some a):l.set j a=l:=by
 apply List.ext_getElem (by simp);intro i h1 h2;rw[List.getElem_set];split
 ·rename_i e;subst e;exact(List.getElem?_eq_some_iff.1 h).2.symm
 ·rfl
theorem qCH{A:Type}(es:Array A)(j:Nat)(e0:A)(f:A->A)(h:es.toList[j]? = some e0):(es.modify j f).toList=es.toList.set j (f e0):=by
 rw[Array.toList_modify,ChangeMaps.modify_eq_set _ _ _ _ h]
theorem tags_update{n:Int}{v:Value}{dv:D}(h:TagsAt P ok w m (.map (some r)) (.map ds))(hm:P.underlying m=some (.map k e))(hn:(Lit.int .u32 n).wf=true)(hv:Rep P ok w e v dv) :
  ∃es' clock',(Instr.mapUpdate m (.map (some r)) (.int .u32 n) v).run P w = .ok () (ChangeMaps.setBlock w r (.map es' clock')) /\
   ∀(ok':Nat->Prop) (w':World),w'.heap[r]? = some (.map es' clock')->(∀b,ok b->ok' b/\w'.heap[b]? = w.heap[b]?)->TagsAt P ok' w' m (.map (some r)) (.map (insM n dv ds)):=by
 cases h with
 | map hu hk hh hkeys hkw hs hborn hclock hr =>
  rw[hm] at hu;cases hu
  rename_i clock es;have K:=Maps.int_keyed hk;have hkey:=Maps.keyOf_int_mk hk hn;have hkr:=qDE hk hkeys hkw;obtain⟨s1,s2⟩:=yPI n dv ds hs;have hin:∀d'∈ds,d'.1≠n->True:=fun _ _ _=>trivial
  rcases K.find w hkey es.toList (fun x hx=>by obtain⟨d,_,_,h⟩:=hkr x hx;exact⟨_,h⟩) with⟨h1,h2⟩|⟨j,e0,h1,h2,h3⟩
  ·refine⟨es.push ⟨.int .u32 n,v,clock⟩,clock+1,?_,fun ok' w' hw' hok'=>?_⟩
   ·simp[Instr.mapUpdate,run_underlying hm,Go.MapKept.run_getObj_map hh,K.check w false hkey,h1,Go.MapKept.run_setObj_map _ hh,Result.andThen,ChangeMaps.setBlock]
   ·have hnew:∀y∈ds,y.1≠n:=fun y hy he=>by
     have:Value.int .u32 n∈es.toList.map (·.key):=hkeys.symm.subset (List.mem_map.2 ⟨y,hy,by rw[he]⟩)
     obtain⟨x,hx,hxe⟩:=List.mem_map.1 this;exact h2 x hx hxe
    refine .map hm hk hw' ?_ (fun d hd=>?_) s1 ?_ ?_ ?_
    ·have hp:=(yNI n dv ds hnew).map (fun i=>Value.int .u32 i);rw[List.map_map] at hp;have e1:(ds.map fun d=>Value.int .u32 d.1)=(ds.map (·.1)).map (fun i=>Value.int .u32 i):=by rw[List.map_map];rfl
     simp only[Array.toList_push,List.map_append,List.map_cons,List.map_nil];refine List.Perm.trans ?_ hp.symm;rw[List.map_cons,<- e1];exact(hkeys.append_right _).trans (List.perm_append_singleton _ _)
    ·rcases s2 d hd with rfl|⟨hd,_⟩
     ·exact hn
     ·exact hkw d hd
    ·simp only[Array.toList_push,List.map_append,List.map_cons,List.map_nil];refine List.nodup_append.2 ⟨hborn,by simp,fun a ha b hb=>?_⟩;obtain⟨x,hx,rfl⟩:=List.mem_map.1 ha;rw[List.mem_singleton] at hb
     have:=hclock x hx
     omega
    ·intro x hx;simp only[Array.toList_push,List.mem_append,List.mem_singleton] at hx;rcases hx with hx|rfl
     ·have:=hclock x hx;omega
     ·show clock<clock+1;omega
    ·intro x hx n' d' hxn hd';simp only[Array.toList_push,List.mem_append,List.mem_singleton] at hx;rcases hx with hx|rfl
     ·have hne:n'≠n:=fun e1=>h2 x hx (by rw[hxn,e1])
      rcases s2 _ hd' with h4|⟨h4,_⟩
      ·cases h4;exact absurd rfl hne
      ·exact(hr x hx n' d' hxn h4).mono (fun b hb=>(hok' b hb).1) (fun b hb=>(hok' b hb).2)
     ·have hxn:Value.int .u32 n = .int .u32 n':=hxn;cases hxn;rcases s2 _ hd' with h4|⟨_,h4⟩
      ·cases h4;exact hv.mono (fun b hb=>(hok' b hb).1) (fun b hb=>(hok' b hb).2)
      ·exact absurd rfl h4
  ·have hj:es[j]? = some e0:=by simpa using h2
   have hlist:(es.modify j (fun e'=>{ e' with key:=.int .u32 n,val:=v })).toList=es.toList.set j { e0 with key:=.int .u32 n,val:=v }:=qCH es j e0 _ h2;have hjl:j<es.toList.length:=(List.getElem?_eq_some_iff.1 h2).1;have hkeyS:(es.toList.set j { e0 with key:=.int .u32 n,val:=v }).map (·.key)=es.toList.map (·.key):=by
    rw[List.map_set];exact xOI (by rw[List.getElem?_map,h2];simp[h3])
   have hbornS:(es.toList.set j { e0 with key:=.int .u32 n,val:=v }).map (·.born)=es.toList.map (·.born):=by
    rw[List.map_set];exact xOI (by rw[List.getElem?_map,h2];rfl)
   have hold:∃y∈ds,y.1=n:=by
    obtain⟨d,hd,he,_⟩:=hkr e0 (List.mem_of_getElem? h2);rw[h3] at he;cases he;exact⟨d,hd,rfl⟩
   refine⟨es.modify j (fun e'=>{ e' with key:=.int .u32 n,val:=v }),clock,?_,fun ok' w' hw' hok'=>?_⟩
   ·simp[Instr.mapUpdate,run_underlying hm,Go.MapKept.run_getObj_map hh,K.check w false hkey,h1,hj,h3,K.stays w hkey,Go.MapKept.run_setObj_map _ hh,Result.andThen,ChangeMaps.setBlock]
   ·refine .map hm hk hw' ?_ (fun d hd=>?_) s1 ?_ ?_ ?_
    ·rw[hlist,hkeyS];have e1:(ds.map fun d=>Value.int .u32 d.1)=(ds.map (·.1)).map (fun i=>Value.int .u32 i):=by rw[List.map_map];rfl
     have e2:((insM n dv ds).map fun d=>Value.int .u32 d.1)=((insM n dv ds).map (·.1)).map (fun i=>Value.int .u32 i):=by rw[List.map_map];rfl
     rw[e2,yOI n dv ds hs hold,<- e1];exact hkeys
    ·rcases s2 d hd with rfl|⟨hd,_⟩
     ·exact hn
     ·exact hkw d hd
    ·rw[hlist,hbornS];exact hborn
    ·intro x hx
     have:x.born∈es.toList.map (·.born):=by
      rw[<- hbornS];rw[hlist] at hx;exact List.mem_map.2 ⟨x,hx,rfl⟩
     obtain⟨y,hy,hye⟩:=List.mem_map.1 this;rw[<- hye];exact hclock y hy
    ·intro x hx n' d' hxn hd';rw[hlist] at hx;obtain⟨i,hi,hxi⟩:=List.mem_iff_getElem.1 hx;rw[List.getElem_set] at hxi;split at hxi
     ·subst hxi;have hxn:Value.int .u32 n = .int .u32 n':=hxn;cases hxn;rcases s2 _ hd' with h4|⟨_,h4⟩
      ·cases h4;exact hv.mono (fun b hb=>(hok' b hb).1) (fun b hb=>(hok' b hb).2)
      ·exact absurd rfl h4
     ·rename_i hne;have hil:i<es.toList.length:=by rw[List.length_set] at hi;exact hi
      have hxm:x∈es.toList:=hxi▸List.getElem_mem hil;have hne2:n'≠n:=fun e1=>by
       have hnd:(es.toList.map (·.key)).Nodup:=by
        refine hkeys.nodup_iff.2 ?_
        have:(ds.map (·.1)).Nodup:=hs.imp (fun {a b} h=>by omega)
        have e1:(ds.map fun d=>Value.int .u32 d.1)=(ds.map (·.1)).map (fun i=>Value.int .u32 i):=by rw[List.map_map];rfl
        rw[e1];exact List.Pairwise.map _ (fun a b (hab:a≠b) hc=>hab (by cases hc;rfl)) this
       have hi2:i<(es.toList.map (·.key)).length:=by rw[List.length_map];exact hil
       have hj2:j<(es.toList.map (·.key)).length:=by rw[List.length_map];exact hjl
       have:(es.toList.map (·.key))[i]=(es.toList.map (·.key))[j]:=by
        rw[List.getElem_map,List.getElem_map,hxi,hxn,e1]
        have:=(List.getElem?_eq_some_iff.1 h2).2
        rw[this,h3]
       exact hne ((List.getElem_inj hnd).1 this).symm
      rcases s2 _ hd' with h4|⟨h4,_⟩
      ·cases h4;exact absurd rfl hne2
      ·exact(hr x hxm n' d' hxn h4).mono (fun b hb=>(hok' b hb).1) (fun b hb=>(hok' b hb).2)
end
end Go.Mx
namespace Go.Mx
open Go Go.Dx
def boxS(tb nt:Nat):St:={ env:=[(0,.i .u32 (.v 0)),(1,.x 1),(2,.oa 0 0)],vars:=[(1,⟨.set tb,.v 1⟩),(2,⟨.own tb,.v 2⟩)],objs:=[(0,[.x 2])],loops:=[],obl:=[],lvl:=3,nx:=3,nt:=nt }
noncomputable def boxOut(tb:Nat)(de:DE)(os:List Ob):List Out->Bool
 | [o]=>xDE [o]&&o.pc.isEmpty&&yED o.st.obl os&&(match lk 0 o.st.objs with
  | some [.x m]=>(match lk m o.st.vars with
   | some ⟨.own t,d⟩=>decide (t=tb)&&d.beq de
   | _=>false)
  | _=>false)
 | _=>false
noncomputable def boxRun(C:Cfg)(tb f:Nat)(de:DE)(os:List Ob):Bool :=
 match C.P.funcs[f]? with
 | some fn=>match fn.body with
  | some body=>fn.results.isEmpty&&decide (3<=fn.ntmps)&&(match exec C 100000 8 [body] (boxS tb fn.ntmps) with
   | some outs=>boxOut tb de os outs
   | none=>false)
  | none=>false
 | none=>false
section
variable {C:Cfg} {ok:Nat->Prop} {w:World} {tb f B ty:Nat} {key:Int} {v vv:Value} {dv acc:D} {de:DE} {os:List Ob}
theorem box_mem{nt:Nat}(hnt:3<=nt)(hB:w.heap[B]? = some (.cells #[v] ty (0,0)))(hown:yRA C.P ok w tb v acc)(hval:Rep C.P ok w tb vv dv)(hkey:(Lit.int .u32 key).wf=true)(hone:v.oneCell'=true)
  (hok:∀b,ok b->b<w.heap.size/\b≠B/\v.ownBlock≠some b) (hvB:v.ownBlock≠some B) :
  Mem C.P X ⟨w,fun b=>b=B∨v.ownBlock=some b,fun b=>b<w.heap.size /\ ¬ok b /\ ¬(b=B∨v.ownBlock=some b)⟩ [.int key,dv,acc] (boxS tb nt) { rv:=fun i=>if i=1 then vv else v,rb:=fun _=>B,rh:=fun _=>(0,0),ex:=fun b=>b<w.heap.size /\ ¬ok b /\ ¬(b=B∨v.ownBlock=some b) } w /\
   Env X [.int key,dv,acc] (boxS tb nt) { rv:=fun i=>if i=1 then vv else v,rb:=fun _=>B,rh:=fun _=>(0,0),ex:=fun b=>b<w.heap.size /\ ¬ok b /\ ¬(b=B∨v.ownBlock=some b) } { tmps:=#[.int .u32 key,vv,.pointer (some ⟨B,0,none⟩)]++Array.replicate (nt-3) undef,defers:=[] }:=by
 have hvars:∀n vi,lk n (boxS tb nt).vars=some vi->(n=1/\vi=⟨.set tb,.v 1⟩)∨(n=2/\vi=⟨.own tb,.v 2⟩):=fun n vi hn=>by
  simp only[boxS,lk] at hn;split at hn
  ·rename_i h;rw[beq_iff_eq] at h;cases hn;exact .inl ⟨h,rfl⟩
  ·split at hn
   ·rename_i h;rw[beq_iff_eq] at h;cases hn;exact .inr ⟨h,rfl⟩
   ·cases hn
 have hobjs:∀o cs,lk o (boxS tb nt).objs=some cs->o=0/\cs=[.x 2]:=fun o cs ho=>by
  simp only[boxS,lk] at ho;split at ho
  ·rename_i h;rw[beq_iff_eq] at h;cases ho;exact⟨h,rfl⟩
  ·cases ho
 have hact:∀b,Actv (boxS tb nt) { rv:=fun i=>if i=1 then vv else v,rb:=fun _=>B,rh:=fun _=>(0,0),ex:=fun b=>b<w.heap.size /\ ¬ok b /\ ¬(b=B∨v.ownBlock=some b) } b->b=B∨v.ownBlock=some b:=by
  rintro b (⟨o,cs,h1,h2⟩|⟨n,vi,h1,h2⟩)
  ·exact .inl h2.symm
  ·rcases hvars n vi h1 with⟨rfl,rfl⟩|⟨rfl,rfl⟩
   ·simp[zGA] at h2
   ·exact .inr h2
 have hokS:∀b,ok b->okOf (boxS tb nt) { rv:=fun i=>if i=1 then vv else v,rb:=fun _=>B,rh:=fun _=>(0,0),ex:=fun b=>b<w.heap.size /\ ¬ok b /\ ¬(b=B∨v.ownBlock=some b) } w b:=fun b hb=>by
  obtain⟨h1,h2,h3⟩:=hok b hb;exact⟨h1,fun e=>by rcases hact b e with h|h;exact h2 h;exact h3 h,fun e=>e.2.1 hb⟩
 refine⟨⟨fun n vi hn=>?_,fun o cs ho=>?_,fun o o' c c' h1 h2 _=>by rw[(hobjs o c h1).1,(hobjs o' c' h2).1],fun n m vi vj b h1 h2 h3 h4=>?_,fun o n c vi h1 h2 h3=>?_,fun b hb=>.inr (hact b hb),fun l hl=>by simp[boxS] at hl,Fr.refl _ w,rfl,⟨fun b hb=>⟨hb.1,hb.2.2⟩,fun b hb=>hb⟩⟩,⟨fun s sv hs=>?_,rfl,by simp[boxS];omega⟩⟩
 ·rcases hvars n vi hn with⟨rfl,rfl⟩|⟨rfl,rfl⟩
  ·exact hval.mono hokS (fun _ _=>rfl)
  ·exact hown.mono hokS (fun _ _=>rfl) (fun _ _=>rfl)
 ·obtain⟨rfl,rfl⟩:=hobjs o cs ho;exact⟨⟨ty,hB⟩,fun u hu=>by simp[dens,SV.den] at hu;subst hu;exact hone,trivial,trivial⟩
 ·rcases hvars n vi h1 with⟨rfl,rfl⟩|⟨rfl,rfl⟩
  ·simp[zGA] at h3
  ·rcases hvars m vj h2 with⟨rfl,rfl⟩|⟨rfl,rfl⟩
   ·simp[zGA] at h4
   ·rfl
 ·rcases hvars n vi h2 with⟨rfl,rfl⟩|⟨rfl,rfl⟩
  ·simp[zGA] at h3
  ·exact hvB h3
 ·simp only[boxS,lk] at hs;split at hs
  ·rename_i h;rw[beq_iff_eq] at h;cases hs;subst h
   exact⟨(Array.getElem?_append_left (by simp)).trans rfl,key,rfl,hkey⟩
  ·split at hs
   ·rename_i h;rw[beq_iff_eq] at h;cases hs;subst h
    exact⟨(Array.getElem?_append_left (by simp)).trans rfl,trivial⟩
   ·split at hs
    ·rename_i h;rw[beq_iff_eq] at h;cases hs;subst h
     exact⟨(Array.getElem?_append_left (by simp)).trans rfl,trivial⟩
    ·cases hs
theorem box_calls(hnm:xOA C.P)(hord:C.P.follows .mixedOrders=true)(hctr:∀f c,C.ctr f=some c->xMB C.P X side f c)(hrun:boxRun C tb f de os=true)(h8:isBy C.P tb=true)
  (hB:w.heap[B]? = some (.cells #[v] ty (0,0))) (hown:yRA C.P ok w tb v acc) (hval:Rep C.P ok w tb vv dv) (hkey:(Lit.int .u32 key).wf=true)
  (hok:∀b,ok b->b<w.heap.size/\b≠B/\v.ownBlock≠some b) (hvB:v.ownBlock≠some B) (hob:zCA X side os [.int key,dv,acc]) :
  Calls C.P f #[.int .u32 key,vv,.pointer (some ⟨B,0,none⟩)] w fun e w'=>e = .returned (.tuple #[])/\Fr (fun b=>b=B∨v.ownBlock=some b) w w' /\
   ∃v' ty',w'.heap[B]? = some (.cells #[v'] ty' (0,0))/\v'.ownBlock≠some B/\(∀b,v'.ownBlock=some b->b<w'.heap.size/\(w.heap.size<=b∨v.ownBlock=some b)) /\ ∀ok',yRA C.P ok' w' tb v' (de.eval X [.int key,dv,acc]):=by
 unfold boxRun at hrun;split at hrun
 rotate_left
 ·cases hrun
 rename_i fn hf;split at hrun
 rotate_left
 ·cases hrun
 rename_i body hbody;simp only[Bool.and_eq_true,decide_eq_true_eq] at hrun;obtain⟨⟨hres,hnt⟩,hrun⟩:=hrun;split at hrun
 rotate_left
 ·cases hrun
 rename_i outs houts;unfold boxOut at hrun;split at hrun
 rotate_left
 ·cases hrun
 rename_i o;simp only[Bool.and_eq_true] at hrun;obtain⟨⟨⟨hret,hpc⟩,hobl⟩,hfin⟩:=hrun;have hpc:o.pc=[]:=by simpa using hpc
 have hobl:=yDC hobl;split at hfin
 rotate_left
 ·cases hfin
 rename_i m hobj;split at hfin
 rotate_left
 ·cases hfin
 rename_i t d hvar;simp only[Bool.and_eq_true,decide_eq_true_eq] at hfin;obtain⟨rfl,hd⟩:=hfin;have hd:=DE.beq_eq hd;subst hd;have hone:v.oneCell'=true:=by
  obtain⟨e,i,n,xs,hu,hi,⟨_,hr⟩,_⟩:=hown;rcases hr with⟨rfl,_⟩|⟨b,cap,cur,rfl,_⟩ <;> rfl
 obtain⟨hm,he⟩:=box_mem (C:=C) hnt hB hown hval hkey hone hok hvB;have hsound:=zEE hnm hord hctr 100000 8;refine calls_of_wp hf hbody (zUA ?_);refine hsound.sound _ _ [body] _ [o] _ w _ hm he houts (fun o' ho' _=>?_) _ (fun o' ho' _ g' w' a' k1 k2 k3=>?_)
 ·rw[List.mem_singleton] at ho';subst ho'
  rw[hobl];exact hob
 ·rw[List.mem_singleton] at ho';subst ho'
  have hfr:Fr (fun b=>b=B∨v.ownBlock=some b) w w':=k2.fr;have hobO:=k2.ob 0 _ hobj;obtain⟨⟨ty',hcell⟩,_,_⟩:=hobO;have hrb:g'.rb 0=B:=(k1.rb 0 _ rfl).2;rw[hrb] at hcell;have hownv:yRA C.P (okOf o'.st g' w') w' t (g'.rv m) (d.eval X [.int key,dv,acc]):=k2.va m _ hvar;obtain⟨e,hu,hue⟩:=xLH h8;have hou:∀ok',yRA C.P ok' w' t (g'.rv m) (d.eval X [.int key,dv,acc]):=fun ok'=>hownv.u8 hu (by simp[isU8,hue])
  have hres0:fn.results = #[]:=by simpa using hres
  have hrun:(results fn a'.tmps).run C.P w' = .ok (.tuple #[]) w':=by
   simp[results,hres0]
  have hpost:a'.defers=[] /\ ∃v1,(results fn a'.tmps).run C.P w' = .ok v1 w'/\(Ending.returned v1 = .returned (.tuple #[])/\Fr (fun b=>b=B∨v.ownBlock=some b) w w' /\
    ∃v' ty',w'.heap[B]? = some (.cells #[v'] ty' (0,0))/\v'.ownBlock≠some B/\(∀b,v'.ownBlock=some b->b<w'.heap.size/\(w.heap.size<=b∨v.ownBlock=some b)) /\ ∀ok',yRA C.P ok' w' t v' (d.eval X [.int key,dv,acc])):=by
   refine⟨k3.df,_,hrun,rfl,hfr,g'.rv m,ty',hcell,?_,fun b hb=>?_,hou⟩
   ·intro e1;exact k2.ov 0 m _ _ hobj hvar (by rw[hrb];exact e1)
   ·have hA:Actv o'.st g' b:=.inr ⟨m,_,hvar,hb⟩;refine⟨k2.act_lt hA,?_⟩;rcases k2.lo b hA with h|h
    ·exact .inl h
    ·rcases h with rfl|h
     ·exact absurd hb (fun e1=>k2.ov 0 m _ _ hobj hvar (by rw[hrb];exact e1))
     ·exact .inr h
  rcases xXC hret o' (by simp) with hx|hx
  ·rw[hx];exact hpost
  ·rw[hx];exact hpost
end
end Go.Mx
namespace Go.Mx
open Go Go.Dx
def zZJ(v:Value):Option (DataW Value×List MemPlace):=some (.held v,[])
section
variable {P:Program} {ok:Nat->Prop} {w:World} {m k e r:Nat} {ds:List (Int×D)}
theorem yMK:∀(l:List Int) (lo hi:Int),l.Pairwise (· < ·)->(∀x∈l,lo<=x/\x<hi)->lo<=hi->(l.length:Int)<=hi-lo
 | [],lo,hi,_,_,h=>by simp;omega
 | x::l,lo,hi,hp,hb,h=>by
  obtain⟨h1,h2⟩:=List.pairwise_cons.1 hp;have hx:=hb x (by simp)
  have:=yMK l (x+1) hi h2 (fun y hy=>⟨by have:=h1 y hy;omega,(hb y (by simp[hy])).2⟩) (by omega)
  simp only[List.length_cons];omega
theorem tags_few(hs:(ds.map (·.1)).Pairwise (· < ·))(hw:∀d∈ds,(Lit.int .u32 d.1).wf=true):ds.length<=4294967296:=by
 have:=yMK (ds.map (·.1)) 0 4294967296 hs (fun x hx=>by
  obtain⟨d,hd,rfl⟩:=List.mem_map.1 hx
  have:=hw d hd
  simp[Lit.wf,IntKind.min,IntKind.max,IntKind.signed,IntKind.bits] at this;omega) (by omega)
 rw[List.length_map] at this;omega
theorem yHJ(h:TagsAt P ok w m (.map (some r)) (.map ds)):(ds.map (·.1)).Pairwise (· < ·)/\(∀d∈ds,(Lit.int .u32 d.1).wf=true)/\ds.length<=4294967296:=by
 cases h with
 | map hu hk hh hkeys hkw hs hborn hclock hr=>exact⟨hs,hkw,tags_few hs hkw⟩
theorem tags_owns(h:TagsAt P ok w m (.map (some r)) (.map ds))(hm:P.underlying m=some (.map k e)):∃D:DataW Value,w.ownsMap P k zZJ r ds.length D/\Maps.size D=ds.length /\ ∀x,x∈ds.map (·.1)↔Maps.has D (.int .u32 x)=true:=by
 obtain⟨_,_,hfew⟩:=yHJ h;cases h with
 | map hu hk hh hkeys hkw hs hborn hclock hr =>
  rw[hm] at hu;cases hu
  rename_i clock es;have hsz:es.size=ds.length:=by
   have:=hkeys.length_eq
   simpa using this
  have hkr:=qDE hk hkeys hkw;have hnd:(es.toList.map (·.key)).Nodup:=by
   refine hkeys.nodup_iff.2 ?_
   have:(ds.map (·.1)).Nodup:=hs.imp (fun {a b} h=>by omega)
   have e1:(ds.map fun d=>Value.int .u32 d.1)=(ds.map (·.1)).map (fun i=>Value.int .u32 i):=by rw[List.map_map];rfl
   rw[e1];exact List.Pairwise.map _ (fun a b (hab:a≠b) hc=>hab (by cases hc;rfl)) this
  have hrd:∀x∈es.toList,∀d,x.key = .int .u32 d->(Lit.int .u32 d).wf=true->WideElems.rd P k zZJ x=some (.int .u32 d,.held x.val):=fun x hx d hd hw=>by
   have:keyOf P k x.key=some (.int .u32 d):=by rw[hd];exact Maps.keyOf_int_mk hk hw
   simp[WideElems.rd,this,zZJ]
  have F:WideElems.Fit P k zZJ es clock:=by
   refine⟨by rw[hsz];unfold maxLen;omega,(MapKept.stamped_iff es clock).2 ⟨hclock,hborn,List.pairwise_map.1 hnd⟩,fun x hx=>?_⟩;obtain⟨d,hd,he,_⟩:=hkr x hx;exact⟨_,hrd x hx d.1 he (hkw d hd)⟩
  refine⟨_,⟨es,clock,hh,F,by rw[hsz];exact Nat.le_refl _,rfl⟩,by simp[Maps.size,length_sorted,hsz],fun x=>?_⟩;have hrg:∀y∈es.toList,∀d,y.key = .int .u32 d->(Lit.int .u32 d).wf=true->(WideElems.rg P k zZJ y).1 = .int .u32 d:=fun y hy d hd hw=>by
   rw[WideElems.rg_of (hrd y hy d hd hw)]
  rw[Maps.has_eq,List.any_eq_true];constructor
  ·intro hx;obtain⟨d,hd,rfl⟩:=List.mem_map.1 hx
   have:Value.int .u32 d.1∈es.toList.map (·.key):=hkeys.symm.subset (List.mem_map.2 ⟨d,hd,rfl⟩)
   obtain⟨y,hy,hye⟩:=List.mem_map.1 this;refine⟨WideElems.rg P k zZJ y,mem_sorted.2 (List.mem_map.2 ⟨y,hy,rfl⟩),?_⟩;rw[hrg y hy d.1 hye (hkw d hd)];exact WideAt.sameKey_self trivial
  ·rintro⟨p,hp,hpk⟩;obtain⟨y,hy,rfl⟩:=List.mem_map.1 (mem_sorted.1 hp);obtain⟨d,hd,he,_⟩:=hkr y hy;rw[hrg y hy d.1 he (hkw d hd)] at hpk
   have:=WideAt.sameKey_eq hpk
   cases this;exact List.mem_map.2 ⟨d,hd,rfl⟩
theorem tags_lookup{n:Int}{d:D}(h:TagsAt P ok w m (.map (some r)) (.map ds))(hm:P.underlying m=some (.map k e))(hn:(n,d)∈ds) :
  ∃v,Rep P ok w e v d /\ ∀w':World,w'.heap[r]? = w.heap[r]? -> (Instr.lookup m (.map (some r)) (.int .u32 n) false).run P w' = .ok v w':=by
 cases h with
 | map hu hk hh hkeys hkw hs hborn hclock hr =>
  rw[hm] at hu;cases hu
  rename_i clock es;have K:=Maps.int_keyed hk;have hkey:=Maps.keyOf_int_mk hk (hkw _ hn);have hkr:=qDE hk hkeys hkw;have hmem:Value.int .u32 n∈es.toList.map (·.key):=hkeys.symm.subset (List.mem_map.2 ⟨(n,d),hn,rfl⟩);obtain⟨y,hy,hye⟩:=List.mem_map.1 hmem;have hfind:=fun w'=>K.find w' hkey es.toList (fun x hx=>by obtain⟨d,_,_,h⟩:=hkr x hx;exact⟨_,h⟩)
  refine⟨y.val,hr y hy n d hye hn,fun w' hw'=>?_⟩;rcases hfind w' with⟨_,h2⟩|⟨j,e0,h1,h2,h3⟩
  ·exact absurd hye (h2 y hy)
  ·have hnd:(es.toList.map (·.key)).Nodup:=by
    refine hkeys.nodup_iff.2 ?_
    have:(ds.map (·.1)).Nodup:=hs.imp (fun {a b} h=>by omega)
    have e1:(ds.map fun d=>Value.int .u32 d.1)=(ds.map (·.1)).map (fun i=>Value.int .u32 i):=by rw[List.map_map];rfl
    rw[e1];exact List.Pairwise.map _ (fun a b (hab:a≠b) hc=>hab (by cases hc;rfl)) this
   have hje:y=e0:=by
    obtain⟨i,hi,hyi⟩:=List.mem_iff_getElem.1 hy;have hj:=(List.getElem?_eq_some_iff.1 h2).1;have hje0:=(List.getElem?_eq_some_iff.1 h2).2
    have:(es.toList.map (·.key))[i]'(by rw[List.length_map];exact hi)=(es.toList.map (·.key))[j]'(by rw[List.length_map];exact hj):=by
     rw[List.getElem_map,List.getElem_map,hyi,hje0,hye,h3]
    have hij:=(List.getElem_inj hnd).1 this;subst hij;rw[<- hyi,<- hje0]
   subst hje;simp[Instr.lookup,run_underlying hm,Go.MapKept.run_getObj_map (hw'.trans hh),K.check w' _ hkey,h1,Result.andThen]
end
def de84:DE:=.f .app [.f (.ext 10) [.f (.ext 10) [.v 2,.v 0],.f (.wrap .u32) [.f .len [.v 1]]],.v 1]
def os84:List Ob:=[.room de84 1,.pre 10 [.f (.ext 10) [.v 2,.v 0],.f (.wrap .u32) [.f .len [.v 1]]],.pre 10 [.v 2,.v 0]]
def tb(y:Int×D):List UInt8:=tagB y.1.toNat y.2.asStr
theorem ev84{key:Int}{val:Option (List UInt8)}{acc:D}(h0:0<=key)(hl:(val.getD []).length<4294967296)(hlen:acc.asStr.length+(tagB key.toNat (val.getD [])).length<=lim) :
  zCA X side os84 [.int key,encB val,acc]/\de84.eval X [.int key,encB val,acc]=appD acc (tb (key,encB val)):=by
 have e1:(DE.f (.ext 10) [.v 2,.v 0]).eval X [.int key,encB val,acc]=app acc (zHA key.toNat):=by
  simp only[ev_f,zAA,zBA,ev_v,List.getD_cons_zero,List.getD_cons_succ,zNA,X_10,zMA]
 have e2:(DE.f (.wrap .u32) [.f .len [.v 1]]).eval X [.int key,encB val,acc] = .int ((val.getD []).length:Nat):=by
  simp only[ev_f,zAA,zBA,ev_v,List.getD_cons_zero,List.getD_cons_succ,yQA,zXA,yWA];rw[zRC (by omega) (by omega)]
 have e3:(DE.f (.ext 10) [.f (.ext 10) [.v 2,.v 0],.f (.wrap .u32) [.f .len [.v 1]]]).eval X [.int key,encB val,acc]=app acc (zHA key.toNat++zHA (val.getD []).length):=by
  rw[ev_f,zAA,zAA,zBA,e1,e2,zNA,X_10,zMA,Int.toNat_natCast];simp[app,D.asStr]
 have e4:de84.eval X [.int key,encB val,acc]=appD acc (tb (key,encB val)):=by
  rw[de84,ev_f,zAA,zAA,zBA,e3,ev_v,List.getD_cons_succ,List.getD_cons_zero,yMA,app_b,tb,xPA,tagB];exact yZA (xXA (xXA xJC))
 have hpos:0<(tagB key.toNat (val.getD [])).length:=by rw[tagB];exact xXA (xXA xJC)
 have hd:(de84.eval X [.int key,encB val,acc]).len<=lim:=by
  rw[e4,tb,xPA,xEE _ hpos];exact hlen
 rw[tagB,List.length_append,List.length_append] at hlen;refine⟨⟨?_,?_,?_,trivial⟩,e4⟩
 ·exact yPB hd
 ·simp only[Ob.holds];rw[zAA,zAA,zBA,e1,e2,yJG,X_10,xFE,zMA,Int.toNat_natCast]
  have:(app acc (zHA key.toNat)).asStr=acc.asStr++zHA key.toNat:=rfl
  rw[this,List.length_append];omega
 ·simp only[Ob.holds,zAA,zBA,ev_v,List.getD_cons_zero,List.getD_cons_succ];rw[yJG,X_10,xFE,zMA];omega
theorem X_25'(m o:D):X 25 [m,o]=appD o ((mapL m).map tb).flatten:=by
 rw[X_25];cases hm:mapL m with
 | nil=>rfl
 | cons a l =>
  rw[if_neg (by simp)];refine yZA ?_;rw[List.map_cons,List.flatten_cons];refine xXA ?_;show 0<(tagB a.1.toNat a.2.asStr).length;rw[tagB];exact xXA (xXA xJC)
end Go.Mx
namespace Go.Mx
open Go Go.Dx
def u8V(s:List UInt8):List Value:=s.map fun x=>Value.int .u8 (x.toNat:Int)
def yLE:Array Value:=#[.int .u8 0,.int .u8 0,.int .u8 0,.int .u8 0,.int .u8 0,.int .u8 0,.int .u8 0,.int .u8 0,.int .u8 0,.int .u8 0,.int .u8 0,.int .u8 0,.int .u8 0,.int .u8 0,.int .u8 0,.int .u8 0]
section
variable {P:Program} {ok:Nat->Prop} {w:World}
theorem rep_u8{e:TypeId}{v:Value}{d:D}(he:P.underlying e=some (.int .u8))(h:Rep P ok w e v d):∃x:UInt8,v = .int .u8 (x.toNat:Int)/\d = .int (x.toNat:Int):=by
 obtain⟨n,rfl,hn⟩:KOk (.int .u8) d:=zXB (by simp[isI,he]) h;cases h with
 | int hu hw =>
  rw[he] at hu;cases hu
  have hb:0<=n/\n<256:=by simp[Lit.wf,IntKind.min,IntKind.max,IntKind.signed,IntKind.bits] at hn;omega
  have:((UInt8.ofNat n.toNat).toNat:Int)=n:=by rw[UInt8.toNat_ofNat'];omega
  exact⟨UInt8.ofNat n.toNat,by rw[this],by rw[this]⟩
theorem rep_u16{t e:TypeId}{v:Value}{d:D}(ha:agg P t=true)(ht:tys P t=List.replicate 16 e)(he:P.underlying e=some (.int .u8))(h:Rep P ok w t v d) :
  ∃s:List UInt8,s.length=16/\v = .agg (u8V s).toArray/\d = .row (s.map fun x=>.int (x.toNat:Int)):=by
 obtain⟨ds,rfl,_,_⟩:=zEF ha h;cases h with
 | row hu hd hlen hlen' h1 hr =>
  rename_i dd vs;rw[ht] at hlen hlen' hr;have hl:vs.length=16:=by simpa using hlen
  have hl':ds.length=16:=by simpa using hlen'
  have hx:∀j (h:j<16),∃x:UInt8,vs[j]? = some (.int .u8 (x.toNat:Int))/\ds[j]? = some (.int (x.toNat:Int)):=fun j hj=>by
   have h1:vs[j]? = some (vs[j]'(by omega)):=List.getElem?_eq_getElem (by omega);have h2:ds[j]? = some (ds[j]'(by omega)):=List.getElem?_eq_getElem (by omega);obtain⟨x,e1,e2⟩:=rep_u8 he (hr j e _ _ (by rw[List.getElem?_replicate,if_pos hj]) h1 h2);exact⟨x,by rw[h1,e1],by rw[h2,e2]⟩
  have hk:∀x:UInt8,UInt8.ofNat (D.int (x.toNat:Int)).asInt.toNat=x:=fun x=>by simp[D.asInt]
  refine⟨ds.map fun d=>UInt8.ofNat d.asInt.toNat,by simpa using hl',?_,?_⟩
  ·congr 1
   apply congrArg List.toArray;apply List.ext_getElem?;intro j;by_cases hj:j<16
   ·obtain⟨x,e1,e2⟩:=hx j hj;rw[e1,u8V,List.getElem?_map,List.getElem?_map,e2,Option.map_some,Option.map_some,hk]
   ·rw[List.getElem?_eq_none (by omega),List.getElem?_eq_none (by simp[u8V];omega)]
  ·congr 1
   apply List.ext_getElem?;intro j;by_cases hj:j<16
   ·obtain⟨x,e1,e2⟩:=hx j hj;rw[List.getElem?_map,List.getElem?_map,e2,Option.map_some,Option.map_some,hk]
   ·rw[List.getElem?_eq_none (by omega),List.getElem?_eq_none (by simp;omega)]
theorem rowBytes_of(s:List UInt8):zRD (.row (s.map fun x=>.int (x.toNat:Int)))=s:=by
 simp only[zRD,D.cells,List.map_map]
 conv=>rhs;rw[<- List.map_id s]
 apply List.map_congr_left;intro x _;simp[D.asInt]
theorem xAG(w:World)(a b:Array Value)(ty:TypeId):(w.alloc (.cells a ty)).setRow w.heap.size b=w.alloc (.cells b ty):=by
 simp only[World.setRow,World.alloc]
 congr 1
 apply Array.ext_getElem?;intro i;rw[Array.getElem?_modify];by_cases h:w.heap.size=i
 ·subst h;simp
 ·rw[if_neg h];simp[Array.getElem?_push,Ne.symm h]
theorem run_copy16{t e ty tyA:TypeId}{i:TypeInfo}(hu:P.underlying t=some (.slice e))(hi:P.info? e=some i)(hsz1:i.size=1)(he:P.underlying e=some (.int .u8)){v:Value}{d:D}(hr:Rep P ok w t v d)(hok:∀b,ok b->b<w.heap.size) :
  ∃n,(Builtin.copy_ #[t,t] ty #[.slice (some ⟨w.heap.size,0,none⟩) 16 16,v]).run P (w.alloc (.cells yLE tyA)) = .ok (goInt n) (w.alloc (.cells (u8V (xRB d.asStr)).toArray tyA)):=by
 have hW:Rep P ok (w.alloc (.cells yLE tyA)) t v d:=hr.mono (fun _ h=>h) (fun b hb=>(MapKept.heap_alloc w _).2 b (hok b hb));have hsrc:=hW.bytesAt hu he;generalize hWW:w.alloc (.cells yLE tyA)=W at hsrc;have hsrclen:∃sl:List UInt8,d.asStr=sl/\d.len=sl.length/\sl.length<=maxLen/\(Builtin.lenOf v).run P W = .ok sl.length W /\ ∀q,q<=sl.length->(Builtin.firstCells 1 q v).run P W = .ok ((sl.take q).map fun x=>Value.int .u8 (x.toNat:Int)).toArray W:=by
  cases hsrc with
  | nil=>exact⟨[],rfl,rfl,Nat.zero_le _,by simp[Builtin.lenOf],fun q hq=>by simp[Builtin.firstCells]⟩
  | some hsp hcl h1 h2 =>
   rename_i ad cap sl;refine⟨sl,rfl,rfl,by omega,by simp[Builtin.lenOf],fun q hq=>?_⟩;simp only[Builtin.firstCells,Nat.mul_one]
   have:=run_loadCells_list (P:=P) W ad ((sl.take q).map fun x=>Value.int .u8 (x.toNat:Int)) (fun j v hj=>by
    have h0:=(List.getElem?_eq_some_iff.1 hj).1;rw[List.length_map,List.length_take] at h0;rw[xZC (hsp (by omega))];refine hcl j v ?_;rw[List.getElem?_map] at hj ⊢;rw[List.getElem?_take] at hj;split at hj
    ·exact hj
    ·cases hj)
   rw[List.length_map,List.length_take,Nat.min_eq_left hq] at this;exact this
 obtain⟨sl,hs1,hs2,hs3,hlen,hfirst⟩:=hsrclen;have hg:W.heap[w.heap.size]? = some (.cells yLE tyA (0,0)):=by rw[<- hWW];exact(MapKept.heap_alloc w _).1
 generalize hq:min 16 sl.length=q;have hql:(sl.take q).length=q:=by rw[List.length_take];omega
 have hst:=run_storeCells_at P w.heap.size 0 tyA ((sl.take q).map fun x=>Value.int .u8 (x.toNat:Int)) 0 yLE W hg (by simp[yLE];omega) (fun v hv=>by
  obtain⟨x,_,rfl⟩:=List.mem_map.1 hv;rfl)
 have hf:=hfirst q (by omega);have hsz:=Dx.run_sizeOf hi W;rw[hsz1] at hsz;have hmin:Nat.min sl.length 16=q:=by show min sl.length 16=q;omega
 have hl16:(Builtin.lenOf (.slice (some ⟨w.heap.size,0,none⟩) 16 16)).run P W = .ok 16 W:=by simp[Builtin.lenOf]
 refine⟨q,?_⟩;have hfin:W.setRow w.heap.size (yNA yLE.toList 0 ((sl.take q).map fun x=>Value.int .u8 (x.toNat:Int))).toArray=w.alloc (.cells (u8V (xRB d.asStr)).toArray tyA):=by
  rw[<- hWW,xAG]
  congr 3
  rw[hs1,u8V,xRB,List.map_append];have h16:yLE.toList=List.replicate 16 (.int .u8 0):=rfl;simp only[yNA,List.take_zero,List.nil_append,Nat.zero_add,List.length_map,hql,h16,List.drop_replicate,List.map_replicate];have e1:sl.take 16=sl.take q:=by
   by_cases h:sl.length<=16
   ·rw[List.take_of_length_le h,List.take_of_length_le (by omega)]
   ·congr 1;omega
  rw[e1]
  have:16-q=16-sl.length:=by omega
  rw[this];rfl
 simp only[Builtin.copy_,List.size_toArray,List.getElem?_toArray,List.getElem?_cons_zero,List.getElem?_cons_succ,Sem.run_bind,run_underlying hu,hlen,hl16,hsz,hmin,hf,Result.andThen_ok,Sem.run_pure];rw[hst,<- hfin];rfl
theorem xMJ(w:World)(xs:List Value)(t:TypeId)(j:Nat)(u:Value)(h:xs[j]? = some u):(w.alloc (.cells xs.toArray t)).cell? ((⟨w.heap.size,0,none⟩:Addr).add j)=some u:=by
 have hadd:(⟨w.heap.size,0,none⟩:Addr).add j=⟨w.heap.size,0+j,none⟩:=by unfold Addr.add;split <;> simp_all
 have hb:(w.alloc (.cells xs.toArray t)).heap[w.heap.size]? = some (.cells xs.toArray t (0,0)):=(MapKept.heap_alloc w _).1;rw[hadd];unfold World.cell?;simp only[hb,Nat.zero_add];simpa using h
theorem results_cell{fn:Func}{a t:Nat}(h:fn.results = #[.cell a t]){tmps:Array Value}{ad:Addr}(ha:tmps[a]?.getD undef = .pointer (some ad)){W:World}{v:Value}(hl:(loadVar t ad).run P W = .ok v W):(results fn tmps).run P W = .ok v W:=by
 simp[results,h,ha,asAddr,hl,Result.andThen]
theorem load_box{t:TypeId}{d:TypeDesc}{i:TypeInfo}(hu:P.underlying t=some d)(ha:zFA d=true)(hi:P.info? t=some i)(xs:List Value)(hl:xs.length=i.size):(loadVar t ⟨w.heap.size,0,none⟩).run P (w.alloc (.cells xs.toArray t)) = .ok (.agg xs.toArray) (w.alloc (.cells xs.toArray t)):=by
 have:=yDB (P:=P) (w:=w.alloc (.cells xs.toArray t)) (b:=w.heap.size) (off:=0) hu hi (fun j v hj=>by
  have:=xMJ w xs t j v hj
  rw[zAB] at this;exact this) (by rw[if_pos ha];exact hl)
 rw[if_pos ha] at this;exact this
theorem u16_rep{t e:TypeId}(ha:agg P t=true)(ht:tys P t=List.replicate 16 e)(he:P.underlying e=some (.int .u8)){s:List UInt8}(hl:s.length=16):Rep P ok w t (.agg (u8V s).toArray) (.row (s.map fun x=>.int (x.toNat:Int))):=by
 obtain⟨dd,hu,hd⟩:=yOF ha;refine .row hu hd (by rw[ht];simp[u8V,hl]) (by rw[ht];simp[hl]) (fun v hv=>?_) (fun j u v d h1 h2 h3=>?_)
 ·obtain⟨x,_,rfl⟩:=List.mem_map.1 hv;rfl
 ·rw[ht,List.getElem?_replicate] at h1;split at h1
  ·cases h1;rw[u8V,List.getElem?_map] at h2;rw[List.getElem?_map] at h3;cases hx:s[j]? with
   | none=>rw[hx] at h2;cases h2
   | some x =>
    rw[hx] at h2 h3;cases h2;cases h3
    exact .int he (by have:=x.toNat_lt;simp[Lit.wf,IntKind.min,IntKind.max,IntKind.signed,IntKind.bits];omega)
  ·cases h1
theorem own_slice{t:TypeId}{v:Value}{d:D}(h:yRA P ok w t v d):∃sp sn sc,v = .slice sp sn sc:=by
 obtain⟨e,i,n,xs,_,_,h3,_⟩:=h;rcases h3.2 with⟨rfl,_⟩|⟨g,cap,cur,rfl,_⟩
 ·exact⟨_,_,_,rfl⟩
 ·exact⟨_,_,_,rfl⟩
theorem own_lt{t:TypeId}{v:Value}{d:D}(h:yRA P ok w t v d)(b:Nat)(hb:v.ownBlock=some b):b<w.heap.size:=by
 obtain⟨e,i,n,xs,_,_,h3,_⟩:=h;exact(h3.lt b hb).2
theorem own_bytes{t e:TypeId}{i:TypeInfo}(hu:P.underlying t=some (.slice e))(he:P.underlying e=some (.int .u8))(hi:P.info? e=some i)(h1:i.size=1){v:Value}{d:D}(h:yRA P ok w t v d):∃xs:List UInt8,d.asStr=xs/\w.ownsRow 0 e 1 v xs.length (u8V xs):=by
 obtain⟨e',i',n,xs,hu',hi',h3,h4⟩:=h;rw[hu] at hu';cases hu'
 rw[hi] at hi';cases hi'
 rw[h1] at h3;cases h4 with
 | nil hv=>exact⟨[],rfl,h3⟩
 | bytes hv he' hs=>exact⟨_,rfl,h3⟩
 | list hv he'=>exact absurd he he'
theorem own_mk{t e:TypeId}{i:TypeInfo}(hu:P.underlying t=some (.slice e))(he:P.underlying e=some (.int .u8))(hi:P.info? e=some i)(h1:i.size=1){v:Value}{s:List UInt8}(hn:v = .slice none 0 0->False)(h:w.ownsRow 0 e 1 v s.length (u8V s)):yRA P ok w t v (.bytes s):=by
 refine⟨e,i,s.length,u8V s,hu,hi,by rw[h1];exact h,.bytes ?_ he h1⟩;rcases h.2 with⟨rfl,_⟩|⟨g,cap,cur,rfl,_⟩
 ·exact absurd rfl hn
 ·simp[Value.ownBlock]
end
end Go.Mx
namespace Go.Mx
open Go Go.Dx
def ptE(sub:Option (List Fl)):DE:=.f .ite [.f (.get 2) [.v 0],.k .nil,.f .mkptr [.f .mkrow (yHF true 1 sub (.v 0))]]
def ptO(sub:Option (List Fl)):List Ob:=[.when (.f (.get 2) [.v 0]) false (obS true 1 sub (.v 0))]
theorem pt_ev{sub:Option (List Fl)}(hsm:zRF true sub=true)(t:T)(hs:ptS sub t.d):zCA X side (ptO sub) [t.d]/\(ptE sub).eval X [t.d]=qRI sub t.d:=by
 have hz:(DE.v 0).eval X [t.d]=t.d:=rfl;rw[ptS,yAA] at hs;constructor
 ·refine⟨fun h=>?_,trivial⟩;rw[xFH hz,zTA] at h;obtain⟨v,hok⟩:=hs h;exact obs_S sub 1 [t.d] (.v 0) t hsm rfl hz hok
 ·rw[ptE,ev_f,zAA,zAA,zAA,zBA,xFH hz,ev_k,yBA,qRI,yAA,ev_f,zAA,zBA,ev_f,zJD true sub 1 [t.d] (.v 0) t hsm (Nat.le_refl _) hz,qFA];rfl
theorem ptr_ok{P:Program}(hnm:xOA P)(hord:P.follows .mixedOrders=true){C:Cfg}(hP:C.P=P)(hctr:∀f c,C.ctr f=some c->xMB P X side f c){f:FuncId}{c:Ctr}{sub:Option (List Fl)}(hf:xXE P f=true)
  (hpre:c.pre=true) (hnr:noRd c.res=true) (hsig:areA P [.tree] c.args=true) (hn:c.fn=ptN sub) (hsub:ptOk sub=true) (hsm:zRF true sub=true)
  (hrun:qGF P C f c [] (ptE sub) (ptO sub)=true):xMB P X side f c:=by
 subst hP;obtain⟨fn,b,hf,hb⟩:=xDF hf;refine⟨⟨fn,b,hf,hb⟩,fun ok w vs ds hA hok hRd hp=>?_⟩;have hs:=hp hpre;have hk:=qQF hsig hA;obtain @⟨⟩ | @⟨_,d1,_,_,k1,hk⟩:=hk;cases hk;obtain⟨t,rfl⟩:=k1;obtain⟨fn',hf',hr⟩:=zMF hrun;rw[hf] at hf';cases hf'
 rw[hn,(pt_X hsub _).2] at hs;obtain⟨h1,h2⟩:=pt_ev hsm t hs;exact callK hnm hord hctr hf hr hA hok (fun j k hjk=>by simp[lk] at hjk) h1 (by rw[h2,hn,(pt_X hsub _).1]) (xXD hnr _)
end Go.Mx
