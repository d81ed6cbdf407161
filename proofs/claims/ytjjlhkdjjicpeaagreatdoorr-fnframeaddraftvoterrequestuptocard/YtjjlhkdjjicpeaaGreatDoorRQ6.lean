/- Part of a verified symbolic run of the program's code (no condition of its own). -/
import Derived.Test.YtjjlhkdjjicpeaaGreatDoorRQ5
import Derived.Shelf.Bin.BEUint64
import Derived.Shelf.Bin.BEUint32
set_option linter.unusedVariables false
set_option linter.unusedSimpArgs false
namespace Go.Mx
open Go Go.Dx
def z4:List UInt8:=[0,0,0,0]
section
variable {has:Bool} {id:List UInt8} {num v:Int} {src:Option (List UInt8)}
abbrev dFr (has:Bool) (id:List UInt8) (num v:Int) (src:Option (List UInt8)):List D:=[.row [.bool has,.str id],.int num,.int v,encB src]
theorem ySK(J:List D):fr0.eval X J = .bytes z4:=rfl
theorem ev_fr1(key:Int)(J:List D):(fr1 key).eval X J = .bytes (z4++zHA key 2):=by
 rw[fr1,ev_f,zAA,zAA,zBA,ySK,ev_k,zIA,X_4];rfl
theorem ev_fr2(key v:Int)(J:List D):(fr2 key v).eval X J = .bytes (z4++zHA key 2++zHA v 2):=by
 rw[fr2,ev_f,zAA,zAA,zBA,ev_fr1,ev_k,zIA,X_4];rfl
theorem qGI(key w:Int):(fr3 key w).eval X (dFr has id num v src) = .bytes (z4++zHA key 2++zHA w 2++zHA num 4):=by
 rw[fr3,ev_f,zAA,zAA,zBA,ev_fr2,zIA,X_6];rfl
theorem ev_fr4(key w:Int)(b:Bool):(fr4 key w b).eval X (dFr has id num v src) = .bytes (z4++zHA key 2++zHA w 2++zHA num 4++(if b then zHA (id.length:Nat) 2++id else zHA (-1) 2)):=by
 cases b with
 | true =>
  rw[fr4,ev_f,zAA,zAA,zBA,qGI,zIA];show X 11 [_,.str id]=_;rw[X_11];rfl
 | false =>
  rw[fr4,ev_f,zAA,zAA,zBA,qGI,ev_k,zIA,X_13];rfl
theorem yTK(key w:Int)(x b:Bool):(fr5 key w x b).eval X (dFr has id num v src) = .bytes (z4++hdrB key w num b id x):=by
 unfold fr5 hdrB;cases x with
 | true =>
  rw[if_pos rfl,ev_f,zAA,zAA,zBA,ev_fr4,yYA];have e:(DE.f .mkbytes [z0E]).eval X (dFr has id num v src) = .bytes [0]:=rfl;rw[e];show D.bytes _=_;simp only[List.append_assoc,if_true]
 | false =>
  rw[if_neg (by decide),ev_fr4]
  simp
theorem qQI{b:DE}{J:List D}{B:List UInt8}(h:b.eval X J = .bytes B):(frL b).eval X J = .int (IntKind.u32.wrap (IntKind.i32.wrap ((B.length-4:Nat):Int))):=by
 have e:(DE.f .len [.f .drop [b,.k (.int 4)]]).eval X J = .int ((B.length-4:Nat):Int):=by
  rw[ev_f,zAA,zBA,ev_f,zAA,zAA,zBA,h,ev_k,xMC,yCA];show D.int ((B.drop 4).length:Nat)=_;rw[List.length_drop]
 rw[frL,ev_f,zAA,zBA,ev_f,zAA,zBA,e,zLA,zLA]
theorem frF_eval{b:DE}{J:List D}{B:List UInt8}(h:b.eval X J = .bytes B)(h4:4<=B.length):(frF b).eval X J = .bytes (zHA ((B.length-4:Nat):Int) 4++B.drop 4):=by
 have hn:∀n:Int,(frN b n).eval X J = .int (IntKind.u8.wrap (shrI (IntKind.u32.wrap (IntKind.i32.wrap ((B.length-4:Nat):Int))) n .u32)):=fun n=>by
  rw[frN,ev_f,zAA,zBA,ev_f,zAA,zAA,zBA,qQI h,ev_k,xMD,zLA]
 have h0:(DE.f (.wrap .u8) [frL b]).eval X J = .int (IntKind.u8.wrap (IntKind.u32.wrap (IntKind.i32.wrap ((B.length-4:Nat):Int)))):=by
  rw[ev_f,zAA,zBA,qQI h,zLA]
 have hm:(DE.f .mkbytes [frN b 24,frN b 16,frN b 8,.f (.wrap .u8) [frL b]]).eval X J = .bytes (zHA ((B.length-4:Nat):Int) 4):=by
  rw[ev_f];simp only[zAA,zBA,hn,h0,xZA,List.map_cons,List.map_nil,zOA];rw[<- zND,<- zJH,zJK,qWD];rw[yEC _ 1 8 .u32 (by decide),yEC _ 2 16 .u32 (by decide),yEC _ 3 24 .u32 (by decide)]
 rw[frF,ev_f,zAA,zAA,zBA,h,hm,yZK];show D.bytes ((zHA _ 4).take B.length++B.drop (zHA _ 4).length)=_;rw[zQA,List.take_of_length_le (by rw[zQA];exact h4)]
end
theorem ySJ(H s:List UInt8):appD (.bytes H) s = .bytes (H++s):=by
 cases s with
 | nil=>show D.bytes H=_;rw[List.append_nil]
 | cons a l=>rfl
theorem xGK(key v num:Int)(has:Bool)(id:List UInt8)(x:Bool):(hdrB key v num has id x).length<=11+id.length:=by
 unfold hdrB;simp only[List.length_append,zQA];split <;> split <;> simp only[List.length_append,zQA,List.length_singleton,List.length_nil] <;> omega
theorem frame_ev{M:Msg}(h:okB M=true)(key:Int)(has:Bool)(id:List UInt8)(num v:Int)(src:Option (List UInt8))(hs:yVG M (.row [.bool has,.str id]) (.int num) (.int v) (encB src)) :
  zCA X side (frO M key v) (dFr has id num v src)/\(frE M key v).eval X (dFr has id num v src)=fX M key (.row [.bool has,.str id]) (.int num) (.int v) (encB src):=by
 obtain⟨⟨b0,s0,hbs,hid⟩,_,⟨h0,h1⟩,t,hw,hok,hsrc,hlen⟩:=hs;obtain⟨rfl,rfl⟩:has=b0/\id=s0:=by cases hbs;exact⟨rfl,rfl⟩
 rw[zOA] at h0 h1 hok hsrc;have hrk:=okB_rk h h0 h1;simp only[okB,Bool.and_eq_true] at h;have hm:yBI M=true:=by have:=h.1.1;simp only[okAll,Bool.and_eq_true] at this;exact this.1.1.1.1
 have hx:=msgX hm v;simp only[yBI,Bool.and_eq_true] at hm;obtain⟨⟨hp,hsm⟩,_⟩:=hm;have e2:frS.eval X (dFr has id num v src)=encN (src.getD []):=by
  rw[frS,ev_f,zAA,zAA,zBA,ev_k,ev_v,yYA];exact src_encB src
 have hsg:src.getD []=zYA M.fs v (zPA M.fx v) t:=by rw[<- hsrc,xYD]
 have hS:yQC frS (dFr has id num v src) (zYA M.fs v (zPA M.fx v) t++[]):=fun hne=>by
  rw[List.append_nil] at hne ⊢;rw[e2,hsg];unfold encN;cases hq:zYA M.fs v (zPA M.fx v) t with
  | nil=>exact absurd hq hne
  | cons a l=>rfl
 obtain⟨r1,r2⟩:=rd_M hx M.fs (dFr has id num v src) frS t [] hp hsm hrk hw hok hS;obtain⟨b1,b2⟩:=yBD v (zPA M.fx v) M.fs t hrk hp hok;have r1':zEA X (frC M v) (dFr has id num v src)=dS M.tg M.fs (qJA v (zPA M.fx v) M.fs t):=r1;have hlim:lim=1099511627776:=rfl;rw[xYD] at hlen;have eB:∀b:Bool,(frB M key v b).eval X (dFr has id num v src) = .bytes (z4++(hdrB key v num b id (zPA M.fx v)++src.getD [])):=fun b=>by
  rw[frB,qHI hx M.fs 4 (dFr has id num v src) _ _ (qJA v (zPA M.fx v) M.fs t) _ hp (Nat.le_refl _) r1' (yTK key v (zPA M.fx v) b) b2,b1,ySJ,hsg,List.append_assoc]
 have l4:∀b:Bool,4<=(z4++(hdrB key v num b id (zPA M.fx v)++src.getD [])).length:=fun b=>by
  rw[List.length_append];exact Nat.le_add_right _ _
 have eF:∀b:Bool,(frF (frB M key v b)).eval X (dFr has id num v src) = .bytes (zHE key v num b id (zPA M.fx v) (src.getD [])):=fun b=>by
  rw[frF_eval (eB b) (l4 b)];have e1:(z4++(hdrB key v num b id (zPA M.fx v)++src.getD [])).drop 4=hdrB key v num b id (zPA M.fx v)++src.getD []:=rfl;have e3:(z4++(hdrB key v num b id (zPA M.fx v)++src.getD [])).length-4=(hdrB key v num b id (zPA M.fx v)++src.getD []).length:=by
   rw[List.length_append];exact Nat.add_sub_cancel_left _ _
  rw[e1,e3,zHE]
 have eW:∀b:Bool,zCA X side (frW M key v b) (dFr has id num v src):=fun b=>by
  have hI:(Ob.idx (.k (.int 4)) (frB M key v b) false).holds X side (dFr has id num v src):=by
   simp only[Ob.holds,ev_k,eB,zOA];exact⟨by decide,l4 b⟩
  have hh:=xGK key v num b id (zPA M.fx v);have hz:z4.length=4:=rfl;refine ySB ⟨hI,hI,trivial⟩ (ySB ?_ (ySB ?_ (zYB ?_)))
  ·refine yAI hx M.fs 4 (dFr has id num v src) _ _ (qJA v (zPA M.fx v) M.fs t) _ hp rfl r1' (yTK key v (zPA M.fx v) b) b2 ?_;rw[b1,<- hsg];show (z4++hdrB key v num b id (zPA M.fx v)).length+_+16<=lim;rw[List.length_append];omega
  ·cases hfx:zPA M.fx v with
   | false=>exact trivial
   | true =>
    refine zYB ?_;simp only[Ob.holds];rw[yTK];have hh:=xGK key v num b id true;simp only[D.len,List.length_append,hz,LIM,maxLen];omega
  ·cases b with
   | true =>
    simp only[frP,Ob.holds,zAA,zBA,qGI];show (X 11 [_,.str id]).len<=lim;rw[X_11];simp only[app,D.asStr,D.len,List.length_append,zQA,hz];omega
   | false =>
    simp only[frP,Ob.holds,zAA,zBA,qGI,ev_k];show (X 13 [_,.nil]).len<=lim;rw[X_13];simp only[app,D.asStr,D.len,D.isNil,if_true,List.length_append,zQA,hz];omega
 have hz:z4.length=4:=rfl;constructor
 ·unfold frO;refine ySB ⟨fun hc=>?_,fun hc=>?_,?_,?_,?_,?_,trivial⟩ (ySB r2 (zYB ?_))
  ·exact eW true
  ·exact eW false
  ·show (X 6 (zEA X [fr2 key v,.v 1] _)).len<=lim;simp only[zAA,zBA,ev_fr2];rw[X_6];simp only[app,D.asStr,D.len,List.length_append,zQA,hz];omega
  ·show (X 4 (zEA X [fr1 key,.k (.int v)] _)).len<=lim;simp only[zAA,zBA,ev_fr1,ev_k];rw[X_4];simp only[app,D.asStr,D.len,List.length_append,zQA,hz];omega
  ·show (X 4 (zEA X [fr0,.k (.int key)] _)).len<=lim;simp only[zAA,zBA,ySK,ev_k];rw[X_4];simp only[app,D.asStr,D.len,List.length_append,zQA,hz];omega
  ·simp only[Ob.holds,ySK,D.len,hz,LIM,maxLen];omega
  ·simp only[Ob.holds];rw[e2,xFA,Nat.mul_one];simp only[LIM,maxLen];omega
 ·have e0:(DE.f (.get 0) [.v 0]).eval X (dFr has id num v src) = .bool has:=rfl;rw[frE,ev_f,zAA,zAA,zAA,zBA,e0,eF,eF,yJA,fX];show _=D.bytes (zHE key v num has id (zPA M.fx v) (encB src).asStr);rw[xYD];cases has <;> rfl
theorem ksF{ds:List D}(hk:KsOk [.idt,.int .i32,.int .i64,.byts] ds):∃(b:Bool) (s:List UInt8) (n v:Int) (a:Option (List UInt8)),ds=[.row [.bool b,.str s],.int n,.int v,encB a]:=by
 obtain @⟨⟩ | @⟨_,d1,_,_,k1,hk⟩:=hk;obtain @⟨⟩ | @⟨_,d2,_,_,k2,hk⟩:=hk;obtain @⟨⟩ | @⟨_,d3,_,_,k3,hk⟩:=hk;obtain @⟨⟩ | @⟨_,d4,_,_,k4,hk⟩:=hk;cases hk;obtain⟨b,s,rfl⟩:=k1;obtain⟨n,rfl,_⟩:=k2;obtain⟨v,rfl,_⟩:=k3;obtain⟨a,rfl⟩:=k4;exact⟨b,s,n,v,a,rfl⟩
theorem frame_okR{P:Program}(hnm:xJA P)(hord:P.follows .mixedOrders=true){f:FuncId}{c:Ctr}{M:Msg}{key:Int}(hf:zOF P f=true)
  (hpre:c.pre=true) (hnr:noRd c.res=true) (hsig:areA P [.idt,.int .i32,.int .i64,.byts] c.args=true) (hS:∀i n v a,side c.fn [i,n,v,a]=yVG M i n v a) (hX:∀i n v a,X c.fn [i,n,v,a]=fX M key i n v a) (hok:okB M=true)
  (hrun:∀v,0<=v->v<=M.most -> ∃C:Cfg,C.P=P/\(∀f c,C.ctr f=some c->qRA P X side f c)/\zTJ P C f c [(2,v)] (frE M key v) (frO M key v)=true):qRA P X side f c:=by
 obtain⟨fn,b,hf,hb⟩:=yTE hf;refine⟨⟨fn,b,hf,hb⟩,fun ok w vs ds hA hokb hRd hp=>?_⟩;have hs:=hp hpre;obtain⟨hb,id,num,v,da,rfl⟩:=ksF (qTE hsig hA);have hs':=hs;rw[hS] at hs';obtain⟨C,hP,hall,hr⟩:=hrun v hs'.2.2.1.1 hs'.2.2.1.2;subst hP;obtain⟨fn',hf',hr⟩:=yZH hr;rw[hf] at hf';cases hf'
 obtain⟨h1,h2⟩:=frame_ev hok key hb id num v da hs';refine callK hnm hord hall hf hr hA hokb (fun j k hjk=>?_) h1 (h2.trans (hX _ _ _ _).symm) (zJE hnr _);simp only[lk] at hjk;split at hjk
 ·rename_i hj;cases hjk;rw[beq_iff_eq] at hj;subst hj;rfl
 ·cases hjk
def lenF:DE:=.f .len [.f (.get 1) [.v 1]]
def verF(M:Msg):DE:=.f (.ext 58) [.v 0,.k (.int M.most)]
def wrFm(M:Msg):DE:=.f (.ext 59) [qPJ M,verF M,.v 3]
def inF(M:Msg)(m:Nat):DE:=.f (.ext m) [.v 1,.v 2,verF M,wrFm M]
def reL(M:Msg)(key:Int):List DE:=[.k (.int key),verF M,.v 2,.f (.get 0) [.v 1],.f .toBytes [.f (.get 1) [.v 1]],.f .leI [.k (.int M.fx),verF M],wrFm M]
def reF(M:Msg)(key:Int):DE:=.f (.ext 309) (reL M key)
def longI:DE:=.f .not [.f .ite [.f .ltI [.k (.int 2147483647),lenF],.k (.bool false),.k (.bool true)]]
def longF:DE:=.f .ite [longI,.k (.bool true),.f .not [.f (.ext 54) [.v 3]]]
def longG:DE:=.f .ltI [.k (.int 32767),lenF]
def lawEF(M:Msg)(key:Int)(m:Nat):DE:=.f .ite [longF,.k (.bool true),.f .ite [longG,.k (.bool true),.f (.ext 52) [inF M m,reF M key]]]
def lawOF(M:Msg)(key:Int)(m:Nat):List Ob :=
 [.when longF false [.when longG false [.pre 52 [inF M m,reF M key],.pre 309 (reL M key),.pre m [.v 1,.v 2,verF M,wrFm M],.pre 59 [qPJ M,verF M,.v 3]],.pre 58 [.v 0,.k (.int M.most)]],
  .when longI false [.pre 54 [.v 3]]]
theorem law_okF{M:Msg}{key:Int}{m:Nat}(h:okB M=true)(hfx:0<=M.fx)(hX:∀i n v a,X m [i,n,v,a]=fX M key i n v a)(hS:∀i n v a,side m [i,n,v,a]=yVG M i n v a)(n:Int)(has:Bool)(id:List UInt8)(num:Int)(t:T)
  (hn0:0<=n) (hn1:n<256) (hw:wfT t=true)
  (hl:xRE t=true -> ∀v,0<=v->v<=M.most->(zYA M.fs v (zPA M.fx v) t).length+50000<=lim) :
  zCA X side (lawOF M key m) [.int n,.row [.bool has,.str id],.int num,t.d]/\(lawEF M key m).eval X [.int n,.row [.bool has,.str id],.int num,t.d] = .bool true:=by
 have hB:=h;simp only[okB,Bool.and_eq_true] at h;have hA:=h.1.1;simp only[okAll,Bool.and_eq_true,decide_eq_true_eq] at hA;obtain⟨⟨⟨⟨hm,hwf⟩,hG⟩,hm0⟩,hm1⟩:=hA;have hp:zGC M.fs=true:=by
  simp only[yBI,Bool.and_eq_true] at hm;exact hm.1.1
 have hv0:0<=n%(M.most+1):=Int.emod_nonneg _ (by omega);have hv1:n%(M.most+1)<=M.most:=by have:=Int.emod_lt_of_pos n (b:=M.most+1) (by omega);omega
 generalize hδ:[D.int n,.row [.bool has,.str id],.int num,t.d]=J;have d0:(DE.v 0).eval X J = .int n:=by rw[<- hδ];rfl
 have d1:(DE.v 1).eval X J = .row [.bool has,.str id]:=by rw[<- hδ];rfl
 have d2:(DE.v 2).eval X J = .int num:=by rw[<- hδ];rfl
 have d3:(DE.v 3).eval X J=t.d:=by rw[<- hδ];rfl
 have eV:(verF M).eval X J = .int (n%(M.most+1)):=by
  unfold verF;rw[ev_f,zAA,zAA,zBA,d0,ev_k,zIA,X_58,zOA,zOA]
 generalize n%(M.most+1)=v at hv0 hv1 eV;have g0:(DE.f (.get 0) [.v 1]).eval X J = .bool has:=by rw[ev_f,zAA,zBA,d1];rfl
 have g1:(DE.f (.get 1) [.v 1]).eval X J = .str id:=by rw[ev_f,zAA,zBA,d1];rfl
 have eL:lenF.eval X J = .int (id.length:Nat):=by rw[lenF,ev_f,zAA,zBA,g1,yCA];rfl
 have eLt:∀k:Int,(DE.f .ltI [.k (.int k),lenF]).eval X J = .bool (decide (k<(id.length:Nat))):=fun k=>by
  rw[ev_f,zAA,zAA,zBA,ev_k,eL,zOB]
 have e54:(DE.f .not [.f (.ext 54) [.v 3]]).eval X J = .bool (!xRE t):=by
  rw[ev_f,zAA,zBA,ev_f,zAA,zBA,d3,zIA,X_54,qIA,zJF]
 have eI0:longI.eval X J = .bool (decide ((2147483647:Int)<(id.length:Nat))):=by
  unfold longI;rw[ev_f,zAA,zBA,ev_f,zAA,zAA,zAA,zBA,eLt,ev_k,ev_k,yJA];cases decide ((2147483647:Int)<(id.length:Nat)) <;> rfl
 have eB:longF.eval X J = .bool (decide ((2147483647:Int)<(id.length:Nat)) || !xRE t):=by
  unfold longF;rw[ev_f,zAA,zAA,zAA,zBA,eI0,ev_k,e54,yJA];cases decide ((2147483647:Int)<(id.length:Nat)) <;> rfl
 have eC:longG.eval X J = .bool (decide ((32767:Int)<(id.length:Nat))):=eLt 32767;have eK:(qPJ M).eval X J = .row [encF M.fs,.int M.fx]:=by
  rw[qPJ,ev_f];simp only[zAA,zBA,zUJ,ev_k,xNC]
 have eW:(wrFm M).eval X J=encN (zYA M.fs v (zPA M.fx v) t):=by
  rw[wrFm,ev_f];simp only[zAA,zBA,eK,eV,d3,zIA];rw[X_59,zRA,qIA,zOA,zOA]
 have eIn:(inF M m).eval X J = .bytes (zHE key v num has id (zPA M.fx v) (zYA M.fs v (zPA M.fx v) t)):=by
  rw[inF,ev_f];simp only[zAA,zBA,d1,d2,eV,eW,zIA];rw[hX,fX,zOA,zOA,xQA];rfl
 have hfl:decide (M.fx<=v)=zPA M.fx v:=by simp[zPA,hfx]
 have eRL:zEA X (reL M key) J=[.int key,.int v,.int num,.bool has,.bytes id,.bool (zPA M.fx v),encN (zYA M.fs v (zPA M.fx v) t)]:=by
  rw[reL];simp only[zAA,zBA,ev_k,eV,d2,g0,eW,ev_f .toBytes,ev_f .leI,g1,zMD,hfl];rfl
 have eRe:(reF M key).eval X J = .bytes (zHE key v num has id (zPA M.fx v) (zYA M.fs v (zPA M.fx v) t)):=by
  rw[reF,ev_f,eRL,zIA,X_309,zOA,zOA,zOA,zVA,zVA,xQA];rfl
 constructor
 ·refine⟨fun hc=>?_,fun _=>?_,trivial⟩
  ·rw[eB,zVA] at hc;simp only[Bool.or_eq_false_iff,Bool.not_eq_false'] at hc;have hlen:=hl hc.2 v hv0 hv1;refine⟨fun hc2=>?_,?_,trivial⟩
   ·rw[eC,zVA,decide_eq_false_iff_not] at hc2;have hd:id.length<=32767:=by omega
    have hlim:lim=1099511627776:=rfl;refine⟨trivial,?_,?_,?_,trivial⟩
    ·simp only[Ob.holds];rw[eRL];show (D.bytes id).asStr.length+(encN _).asStr.length+100<=lim;rw[xQA];show id.length+_+100<=lim;omega
    ·simp only[Ob.holds,zAA,zBA,d1,d2,eV,eW];rw[hS];refine⟨⟨has,id,rfl,hd⟩,⟨num,rfl⟩,⟨hv0,hv1⟩,given (FitS M.fs v t),xXH _ (qKG M.fs v t hw),qCK _ _ (yCH M.fs v t hp hw),?_,?_⟩
     ·rw[zOA,xQA,partG M.fs v _ t hv0 hG]
     ·rw[xQA];omega
    ·simp only[Ob.holds,zAA,zBA,eK,eV,d3];rw[zHL,zRA,zOA,zOA,qIA];exact⟨hwf,by omega⟩
   ·simp only[Ob.holds,zAA,zBA,d0,ev_k];rw[xFI];exact⟨hn0,hm0,hm1⟩
  ·exact⟨trivial,trivial⟩
 ·rw[lawEF,ev_f,zAA,zAA,zAA,zBA,eB,ev_k,yJA];cases hc:(decide ((2147483647:Int)<(id.length:Nat)) || !xRE t) with
  | true=>rfl
  | false =>
   rw[if_neg (by decide),ev_f,zAA,zAA,zAA,zBA,eC,ev_k,yJA];cases decide ((32767:Int)<(id.length:Nat)) with
   | true=>rfl
   | false =>
    rw[if_neg (by decide),ev_f,zAA,zAA,zBA,eIn,eRe,zIA,X_52];simp[D.asStr]
theorem law_callsF{P:Program}{C:Cfg}(hP:C.P=P)(hnm:xJA P)(hord:P.follows .mixedOrders=true)(hctr:∀f c,C.ctr f=some c->qRA P X side f c){f:Nat}{tu ti tn tt tb:Nat}{E:DE}{O:List Ob}
  (hrun:zTJ P C f ⟨[.val tu,.val ti,.val tn,.val tt],.val tb,200,false⟩ [] E O=true) (hu:isI P .u8 tu=true) (hi:isId P ti=true) (hni:isI P .i32 tn=true) (htree:yZC P tt=true)
  {ok:Nat->Prop} {w:World} {n num:Int} {iv tv:Value} {id d:D} (hn:(Lit.int .u8 n).wf=true) (hnum:(Lit.int .i32 num).wf=true) (hid:Rep P ok w ti iv id) (ht:Rep P ok w tt tv d) (hok:∀b,ok b->b<w.heap.size)
  (hlaw:∀(t:T) (has:Bool) (s:List UInt8),d=t.d->id = .row [.bool has,.str s]->wfT t=true->0<=n->n<256->zCA X side O [.int n,id,.int num,t.d]/\E.eval X [.int n,id,.int num,t.d] = .bool true) :
  Calls P f #[.int .u8 n,iv,.int .i32 num,tv] w fun e w'=>e = .returned (.bool true)/\Fr (fun _=>False) w w':=by
 subst hP;obtain⟨fn,hf,hr⟩:=yZH hrun;have hA:ArgsOk C.P ok w [.val tu,.val ti,.val tn,.val tt] [.int .u8 n,iv,.int .i32 num,tv] [.int n,id,.int num,d]:=.cons (.val (.int (zRH hu) hn)) (.cons (.val hid) (.cons (.val (.int (zRH hni) hnum)) (.cons (.val ht) .nil)));obtain⟨t,rfl⟩:=(yWF ht).1 htree;obtain⟨has,s,hidd⟩:=rep_id hi hid;have hw:=(qUK ht).1 htree t rfl;obtain⟨hn0,hn1⟩:=wf_u8 hn;obtain⟨h1,h2⟩:=hlaw t has s rfl hidd hw hn0 hn1;have hW:∀b,¬Wr w [AK.val tu,.val ti,.val tn,.val tt] [.int .u8 n,iv,.int .i32 num,tv] b:=fun b h=>by simp[Wr,wrA] at h
 have:=callK (C:=C) (c:=⟨[.val tu,.val ti,.val tn,.val tt],.val tb,200,false⟩) hnm hord hctr hf hr hA (fun b hb=>⟨hok b hb,hW b⟩) (fun j k hj=>by simp[lk] at hj) h1 (by rw[h2];exact(X_200 _).symm) (zJE rfl _)
 refine Calls.mono this (fun e w' he=>?_);obtain⟨v,rfl,hfr,hres⟩:=he;have e1:Rep C.P (fun b=>ok b∨w.heap.size<=b) w' tb v (X 200 [.int n,id,.int num,t.d]):=hres (fun b=>ok b∨w.heap.size<=b) (fun _ h=>.inl h) (fun _ h _=>.inr h);rw[X_200] at e1;refine⟨?_,hfr.mono (fun b _ hb=>(hW b hb).elim)⟩;cases e1;rfl
end Go.Mx
namespace Go.Mx
open Go Go.Dx
theorem frameBytes_le{M:Msg}(h:okB M=true){t:T}{B:Nat}(hb:WT t<=B)(hc:cS M.fs*(1+B)+50000<=lim)(v:Int):(zYA M.fs v (zPA M.fx v) t).length+50000<=lim:=by
 simp only[okB,okAll,yBI,Bool.and_eq_true] at h;have h1:=xQG M.fs v (zPA M.fx v) t h.1.1.1.1.1.1.1.1;have h2:cS M.fs*(1+WT t)<=cS M.fs*(1+B):=Nat.mul_le_mul_left _ (by omega);omega
end Go.Mx
namespace Go.Mx
open Go Go.Dx
def u8V(s:List UInt8):List Value:=s.map fun x=>Value.int .u8 (x.toNat:Int)
section
variable {P:Program} {ok:Nat->Prop} {w:World}
theorem rep_u8{e:TypeId}{v:Value}{d:D}(he:P.underlying e=some (.int .u8))(h:Rep P ok w e v d):∃x:UInt8,v = .int .u8 (x.toNat:Int)/\d = .int (x.toNat:Int):=by
 obtain⟨n,rfl,hn⟩:KOk (.int .u8) d:=zZB (by simp[isI,he]) h;cases h with
 | int hu hw =>
  rw[he] at hu;cases hu
  have hb:0<=n/\n<256:=by simp[Lit.wf,IntKind.min,IntKind.max,IntKind.signed,IntKind.bits] at hn;omega
  have:((UInt8.ofNat n.toNat).toNat:Int)=n:=by rw[UInt8.toNat_ofNat'];omega
  exact⟨UInt8.ofNat n.toNat,by rw[this],by rw[this]⟩
theorem rep_u16{t e:TypeId}{v:Value}{d:D}(ha:agg P t=true)(ht:tys P t=List.replicate 16 e)(he:P.underlying e=some (.int .u8))(h:Rep P ok w t v d) :
  ∃s:List UInt8,s.length=16/\v = .agg (u8V s).toArray/\d = .row (s.map fun x=>.int (x.toNat:Int)):=by
 obtain⟨ds,rfl,_,_⟩:=xEE ha h;cases h with
 | row hu hd hlen hlen' h1 hr =>
  rename_i dd vs;rw[ht] at hlen hlen' hr;have hl:vs.length=16:=by simpa using hlen
  have hl':ds.length=16:=by simpa using hlen'
  have hx:∀j (h:j<16),∃x:UInt8,vs[j]? = some (.int .u8 (x.toNat:Int))/\ds[j]? = some (.int (x.toNat:Int)):=fun j hj=>by
   have h1:vs[j]? = some (vs[j]'(by omega)):=List.getElem?_eq_getElem (by omega);have h2:ds[j]? = some (ds[j]'(by omega)):=List.getElem?_eq_getElem (by omega);obtain⟨x,e1,e2⟩:=rep_u8 he (hr j e _ _ (by rw[List.getElem?_replicate,if_pos hj]) h1 h2);exact⟨x,by rw[h1,e1],by rw[h2,e2]⟩
  have hk:∀x:UInt8,UInt8.ofNat (D.int (x.toNat:Int)).asInt.toNat=x:=fun x=>by simp[D.asInt]
  refine⟨ds.map fun d=>UInt8.ofNat d.asInt.toNat,by simpa using hl',?_,?_⟩
  ·congr 1
   apply congrArg List.toArray;apply List.ext_getElem?;intro j;by_cases hj:j<16
   ·obtain⟨x,e1,e2⟩:=hx j hj;rw[e1,u8V,List.getElem?_map,List.getElem?_map,e2,Option.map_some,Option.map_some,hk]
   ·rw[List.getElem?_eq_none (by omega),List.getElem?_eq_none (by simp[u8V];omega)]
  ·congr 1
   apply List.ext_getElem?;intro j;by_cases hj:j<16
   ·obtain⟨x,e1,e2⟩:=hx j hj;rw[List.getElem?_map,List.getElem?_map,e2,Option.map_some,Option.map_some,hk]
   ·rw[List.getElem?_eq_none (by omega),List.getElem?_eq_none (by simp;omega)]
theorem rowBytes_of(s:List UInt8):xBD (.row (s.map fun x=>.int (x.toNat:Int)))=s:=by
 simp only[xBD,D.cells,List.map_map]
 conv=>rhs;rw[<- List.map_id s]
 apply List.map_congr_left;intro x _;simp[D.asInt]
theorem cells_new(w:World)(xs:List Value)(t:TypeId)(j:Nat)(u:Value)(h:xs[j]? = some u):(w.alloc (.cells xs.toArray t)).cell? ((⟨w.heap.size,0,none⟩:Addr).add j)=some u:=by
 have hadd:(⟨w.heap.size,0,none⟩:Addr).add j=⟨w.heap.size,0+j,none⟩:=by unfold Addr.add;split <;> simp_all
 have hb:(w.alloc (.cells xs.toArray t)).heap[w.heap.size]? = some (.cells xs.toArray t (0,0)):=(MapKept.heap_alloc w _).1;rw[hadd];unfold World.cell?;simp only[hb,Nat.zero_add];simpa using h
theorem own_slice{t:TypeId}{v:Value}{d:D}(h:yQA P ok w t v d):∃sp sn sc,v = .slice sp sn sc:=by
 obtain⟨e,i,n,xs,_,_,h3,_⟩:=h;rcases h3.2 with⟨rfl,_⟩|⟨g,cap,cur,rfl,_⟩
 ·exact⟨_,_,_,rfl⟩
 ·exact⟨_,_,_,rfl⟩
theorem own_lt{t:TypeId}{v:Value}{d:D}(h:yQA P ok w t v d)(b:Nat)(hb:v.ownBlock=some b):b<w.heap.size:=by
 obtain⟨e,i,n,xs,_,_,h3,_⟩:=h;exact(h3.lt b hb).2
theorem own_bytes{t e:TypeId}{i:TypeInfo}(hu:P.underlying t=some (.slice e))(he:P.underlying e=some (.int .u8))(hi:P.info? e=some i)(h1:i.size=1){v:Value}{d:D}(h:yQA P ok w t v d):∃xs:List UInt8,d.asStr=xs/\w.ownsRow 0 e 1 v xs.length (u8V xs):=by
 obtain⟨e',i',n,xs,hu',hi',h3,h4⟩:=h;rw[hu] at hu';cases hu'
 rw[hi] at hi';cases hi'
 rw[h1] at h3;cases h4 with
 | nil hv=>exact⟨[],rfl,h3⟩
 | bytes hv he' hs=>exact⟨_,rfl,h3⟩
 | list hv he'=>exact absurd he he'
theorem own_mk{t e:TypeId}{i:TypeInfo}(hu:P.underlying t=some (.slice e))(he:P.underlying e=some (.int .u8))(hi:P.info? e=some i)(h1:i.size=1){v:Value}{s:List UInt8}(hn:v = .slice none 0 0->False)(h:w.ownsRow 0 e 1 v s.length (u8V s)):yQA P ok w t v (.bytes s):=by
 refine⟨e,i,s.length,u8V s,hu,hi,by rw[h1];exact h,.bytes ?_ he h1⟩;rcases h.2 with⟨rfl,_⟩|⟨g,cap,cur,rfl,_⟩
 ·exact absurd rfl hn
 ·simp[Value.ownBlock]
end
end Go.Mx
namespace Go.Mx
open Go Go.Dx
theorem len8{b:List UInt8}(h:8<=b.length):∃b0 b1 b2 b3 b4 b5 b6 b7 r,b=b0::b1::b2::b3::b4::b5::b6::b7::r:=by
 match b,h with
 | b0::b1::b2::b3::b4::b5::b6::b7::r,_=>exact⟨b0,b1,b2,b3,b4,b5,b6,b7,r,rfl⟩
theorem zNJ{P:Program}{ok:Nat->Prop}{w:World}{t:TypeId}{v:Value}{d:D}(ha:agg P t=true)(ht:tys P t=[])(h:Rep P ok w t v d):v = .agg #[]:=by
 obtain⟨ds,rfl,_,_⟩:=xEE ha h;cases h with
 | row hu hd hlen hlen' h1 hr =>
  rename_i dd vs;rw[ht] at hlen
  have:vs=[]:=List.length_eq_zero_iff.1 hlen
  subst this;rfl
theorem hand86{P:Program}{ρ:Go.Shelf.Ren}(L:Go.Proofs.LaysBin.n42 P ρ){f:FuncId}{te tb t64 e:TypeId}(hf:ρ.f 42=f)(hb:zOF P f=true)(ha:agg P te=true)(ht:tys P te=[])(hub:P.underlying tb=some (.slice e))(he:P.underlying e=some (.int .u8))(h64:P.underlying t64=some (.int .u64)) :
  qRA P X side f ⟨[.val te,.val tb],.val t64,86,true⟩:=by
 refine⟨yTE hb,fun ok w vs ds hA hok hRd hp=>?_⟩;obtain @⟨⟩ | @⟨_,v1,d1,_,_,_,h1,hA⟩:=hA;obtain @⟨⟩ | @⟨_,v2,d2,_,_,_,h2,hA⟩:=hA;cases hA;cases h1 with
 | val h1 =>
 cases h2 with
 | val h2 =>
 obtain⟨b,hbd,hl⟩:∃b,d2 = .bytes b/\8<=b.length:=hp rfl;subst hbd;have hv1:=zNJ ha ht h1;subst hv1;obtain⟨b0,b1,b2,b3,b4,b5,b6,b7,r,rfl⟩:=len8 hl;have hB:=h2.bytesAt hub he;cases hB with
 | some hsp hcl hcap hmax =>
  rename_i ad cap;have hs:ad.spot=none:=hsp (by simp only[List.length_cons] at hcap;omega);obtain⟨g,o,sp⟩:=ad;simp only at hs;subst hs;have hc:∀(j:Nat) (x:UInt8),(b0::b1::b2::b3::b4::b5::b6::b7::r)[j]? = some x->w.cell? ⟨g,o+j,none⟩=some (.int .u8 (x.toNat:Int)):=fun j x hx=>hcl j _ (by rw[List.getElem?_map,hx];rfl)
  subst hf;refine(Go.Proofs.Any.binary_BE_Uint64 L g o _ cap b0 b1 b2 b3 b4 b5 b6 b7 w (by simp only[List.length_cons];omega) (hc 0 _ rfl) (hc 1 _ rfl) (hc 2 _ rfl) (hc 3 _ rfl) (hc 4 _ rfl) (hc 5 _ rfl) (hc 6 _ rfl) (hc 7 _ rfl)).mono fun e' w' he'=>?_
  obtain⟨rfl,hbl⟩:=he';refine⟨_,rfl,⟨hbl.os,hbl.tape,hbl.output,hbl.size,fun k hk _=>hbl.block k hk⟩,fun ok' _ _=>?_⟩;have e1:Go.Lib.beNat [b0,b1,b2,b3,b4,b5,b6,b7]=beN [b0,b1,b2,b3,b4,b5,b6,b7]:=by
   simp[Go.Lib.beNat,Go.Lib.beFrom,beN]
  have hlt:beN [b0,b1,b2,b3,b4,b5,b6,b7]<256 ^ 8:=xVI _;show Rep P ok' w' t64 _ (X 86 [d1,.bytes (b0::b1::b2::b3::b4::b5::b6::b7::r)]);rw[X_86,zZA,e1];refine .int h64 (zYC ?_);simp[IntKind.min,IntKind.max,IntKind.signed,IntKind.bits];omega
theorem hand87{P:Program}{ρ:Go.Shelf.Ren}(L:Go.Proofs.LaysBin.n39 P ρ){f:FuncId}{te tb t32 e:TypeId}(hf:ρ.f 39=f)(hb:zOF P f=true)(ha:agg P te=true)(ht:tys P te=[])(hub:P.underlying tb=some (.slice e))(he:P.underlying e=some (.int .u8))(h32:P.underlying t32=some (.int .u32)) :
  qRA P X side f ⟨[.val te,.val tb],.val t32,87,true⟩:=by
 refine⟨yTE hb,fun ok w vs ds hA hok hRd hp=>?_⟩;obtain @⟨⟩ | @⟨_,v1,d1,_,_,_,h1,hA⟩:=hA;obtain @⟨⟩ | @⟨_,v2,d2,_,_,_,h2,hA⟩:=hA;cases hA;cases h1 with
 | val h1 =>
 cases h2 with
 | val h2 =>
 obtain⟨b,hbd,hl⟩:∃b,d2 = .bytes b/\4<=b.length:=hp rfl;subst hbd;have hv1:=zNJ ha ht h1;subst hv1;obtain⟨b0,b1,b2,b3,r,rfl⟩:=len4 hl;have hB:=h2.bytesAt hub he;cases hB with
 | some hsp hcl hcap hmax =>
  rename_i ad cap;have hs:ad.spot=none:=hsp (by simp only[List.length_cons] at hcap;omega);obtain⟨g,o,sp⟩:=ad;simp only at hs;subst hs;have hc:∀(j:Nat) (x:UInt8),(b0::b1::b2::b3::r)[j]? = some x->w.cell? ⟨g,o+j,none⟩=some (.int .u8 (x.toNat:Int)):=fun j x hx=>hcl j _ (by rw[List.getElem?_map,hx];rfl)
  subst hf;refine(Go.Proofs.Any.binary_BE_Uint32 L g o _ cap b0 b1 b2 b3 w (by simp only[List.length_cons];omega) (hc 0 _ rfl) (hc 1 _ rfl) (hc 2 _ rfl) (hc 3 _ rfl)).mono fun e' w' he'=>?_
  obtain⟨rfl,hbl⟩:=he';refine⟨_,rfl,⟨hbl.os,hbl.tape,hbl.output,hbl.size,fun k hk _=>hbl.block k hk⟩,fun ok' _ _=>?_⟩;have e1:Go.Lib.beNat [b0,b1,b2,b3]=beN [b0,b1,b2,b3]:=by
   simp[Go.Lib.beNat,Go.Lib.beFrom,beN]
  have hlt:beN [b0,b1,b2,b3]<256 ^ 4:=xVI _;show Rep P ok' w' t32 _ (X 87 [d1,.bytes (b0::b1::b2::b3::r)]);rw[X_87,zZA,e1];refine .int h32 (zYC ?_);simp[IntKind.min,IntKind.max,IntKind.signed,IntKind.bits];omega
end Go.Mx
