/- Part of a verified symbolic run of the program's code (no condition of its own). -/
import Derived.Test.YtblndkbbnboldaaGreatDoorQ5
import Derived.Maps.RangeWalk
import Derived.Maps.OwnSet
import Derived.WalkKit
import Derived.Shelf.Bin.BEUint64
import Derived.Shelf.Bin.BEUint32
set_option linter.unusedVariables false
set_option linter.unusedSimpArgs false
namespace Go.Mx
open Go Go.Dx
theorem yYJ(f:Fl)(v:Int)(x:Bool)(t g:T):zFH f v x t g=if f.kind=11 then
   (if (decide (0<=f.null)&&decide (f.null<=v))=true/\(g.null==Mx.null f v t)=false then false else
   if Mx.null f v t then true else
   g.L.length==(t.L.take Most).length&&all2 (fun y z=>qVF f.of false false y z (qKE f.sub v x y z)) (t.L.take Most) g.L)
  else qVF f.kind (Mx.null f v t) (decide (0<=f.null)&&decide (f.null<=v)) t g (qKE f.sub v x t g):=by
 cases f;rw[zFH];rfl
theorem xCL(f:Fl)(h:f.of≠11)(v:Int)(x:Bool)(y z:T):zFH (one f) v x y z=qVF f.of false false y z (qKE f.sub v x y z):=by
 rw[yYJ];have e1:(one f).kind=f.of:=rfl;have e2:(one f).sub=f.sub:=rfl;have e3:Mx.null (one f) v y=false:=by
  unfold Mx.null
  have:(one f).null = -1:=rfl
  rw[this];simp
 have e4:(decide (0<=(one f).null)&&decide ((one f).null<=v))=false:=rfl;rw[e1,if_neg h,e2,e3,e4]
theorem zDF{A B:Type}(z0:B)(p:A->B->Bool):∀(l:List A) (zs pre:List B) (s:Bool),l.length=zs.length->xKA (fun i y s=>if s then true else !p y ((pre++zs).getD i z0)) pre.length l s=(s || !all2 p l zs)
 | [],[],_,s,_=>by simp[xKA,all2]
 | [],_::_,_,_,h=>by simp at h
 | _::_,[],_,_,h=>by simp at h
 | y::l,z::zs,pre,s,h=>by
  have ih:=zDF z0 p l zs (pre++[z]) (if s then true else !p y ((pre++z::zs).getD pre.length z0)) (by simpa using h);rw[List.append_assoc,List.singleton_append,List.length_append,List.length_singleton] at ih;rw[xKA,ih,all2];have e:(pre++z::zs).getD pre.length z0=z:=by simp
  rw[e];cases s <;> cases p y z <;> simp
theorem yWJ(l:Option (List T))(i:Nat):toT ((encT l).rows.getD i .nil)=(l.getD []).getD i T.zero:=by
 rw[yLD,List.getD_eq_getElem?_getD,List.getElem?_map,List.getD_eq_getElem?_getD];cases (l.getD [])[i]? with
 | none=>rw[Option.map_none,Option.getD_none,Option.getD_none,toT];intro n s b l u h;cases h
 | some y=>rw[Option.map_some,Option.getD_some,Option.getD_some,xBA]
theorem copy16(s:Option (List UInt8)):((D.bytes (List.replicate 16 0)).copyD (encB s)).asStr=qHB (s.getD []):=by
 have e:(D.bytes (List.replicate 16 0)).copyD (encB s) = .bytes ((encB s).asStr.take 16++(List.replicate 16 (0:UInt8)).drop (encB s).asStr.length):=rfl;rw[e,yTA,List.drop_replicate];rfl
theorem beq_bool(a b:Bool):(if a then (!b) else b) = !(a==b):=by cases a <;> cases b <;> rfl
def nu4:DE:=(.f (.ext 56) [.v 0,.v 1,.v 3])
def src4:DE:=(.f .take [.f (.get 3) [.v 3],.f .imin [.f .len [.f (.get 3) [.v 3]],.k (.int 32767)]])
def bod4:List DE:=[.f .ite [.v 7,.k (.bool true),.f .not [.f (.ext 304) [.f .mkrow [.f (.get 6) [.v 0],.f (.get 1) [.v 0],.f (.get 2) [.v 0],.k (.int (-1)),.k (.int (-1)),.f (.get 5) [.v 0],.f (.get 6) [.v 0],.f (.get 7) [.v 0]],.v 1,.v 2,.v 6,.f .at [.f (.get 3) [.v 4],.v 5]]]]]
def neq4:DE:=(.f .ite [.f (.get 2) [.v 4],.f .not [nu4],nu4])
theorem wF_one{f:Fl}(hk:f.kind=11)(ho:f.of≠11):wF (one f)<wF f:=by
 cases f with
 | mk k a b c d e o s =>
  simp only[Fl.kind,Fl.of] at hk ho;subst hk;simp only[one,Fl.of,Fl.frm,Fl.to,Fl.dflt,Fl.sub,wF,if_neg ho,if_true];omega
theorem yAF(p:Prop)[Decidable p](a b:Bool):(if p then D.bool a else D.bool b)=D.bool (if p then a else b):=by split <;> rfl
theorem ev304(f:Fl)(v:Int)(x:Bool)(t g:T)(n:Nat)(h:Pre3 (n+1) 304 [f.d,.int v,.bool x,t.d,g.d]):zCA X (Pre3 n) ob304 [f.d,.int v,.bool x,t.d,g.d]/\de304.eval X [f.d,.int v,.bool x,t.d,g.d]=X 304 [f.d,.int v,.bool x,t.d,g.d]:=by
 obtain⟨hm,hs⟩:=h;have hm:=hm rfl;rw[qHG,xXA] at hm;rw[qWG,xXA] at hs;have hsrc:src4.eval X [f.d,.int v,.bool x,t.d,g.d]=encT (qBD t.l):=by
  simp only[src4,ev_f,zAA,zBA,ev_v,ev_k,List.getD_cons_zero,List.getD_cons_succ,zQA,yGA,zTA,xOA,xTA,yVB,takeT]
 have qJD:Folds X [f.d,.int v,.bool x,t.d,g.d] 5 src4 [.k (.bool false)] bod4 T.d (fun s:Bool=>[.bool s]) (fun i y s=>if s then true else !zFH (one f) v x y (g.L.getD i T.zero)) (t.L.take Most) false:=by
  refine⟨rfl,?_,rfl,fun i y a hx _=>?_⟩
  ·rw[hsrc,yLD,zCE];rfl
  ·simp only[bod4,ev_f,zAA,zBA,ev_v,ev_k,List.cons_append,List.nil_append,List.getD_cons_zero,List.getD_cons_succ,zQA,yGA,yFA,zAB,<- zBL,zUF,zGA,X_304,xBA,xXA,zKA,zSA,yEC,zVA,Int.toNat_natCast,yWJ];cases a <;> rfl
 have hnu:nu4.eval X [f.d,.int v,.bool x,t.d,g.d] = .bool (Mx.null f v t):=by
  simp only[nu4,ev_f,zAA,zBA,ev_v,List.getD_cons_zero,List.getD_cons_succ,zGA,X_56,xBA,xXA,zKA]
 have hneq:neq4.eval X [f.d,.int v,.bool x,t.d,g.d] = .bool (!(g.null==Mx.null f v t)):=by
  simp only[neq4,ev_f .ite,ev_f .not,ev_f (.get _),zAA,zBA,hnu,ev_v,List.getD_cons_zero,List.getD_cons_succ,zQA,yGA,yEC,zVA];rw[<- beq_bool];cases g.null <;> rfl
 have hk:(DE.f (.get 0) [.v 0]).eval X [f.d,.int v,.bool x,t.d,g.d] = .int f.kind:=by
  simp only[ev_f,zAA,zBA,ev_v,List.getD_cons_zero,zQA,yFA]
 have hnl:(DE.f (.get 3) [.v 0]).eval X [f.d,.int v,.bool x,t.d,g.d] = .int f.null:=by
  simp only[ev_f,zAA,zBA,ev_v,List.getD_cons_zero,List.getD_cons_succ,zQA,yFA]
 have hgl:(DE.f (.get 3) [.v 4]).eval X [f.d,.int v,.bool x,t.d,g.d]=encT g.l:=by
  simp only[ev_f,zAA,zBA,ev_v,List.getD_cons_zero,List.getD_cons_succ,zQA,yGA]
 have hne:(DE.f .neI [.f .len [.f (.get 3) [.v 4]],.f .len [src4]]).eval X [f.d,.int v,.bool x,t.d,g.d] = .bool (!(g.L.length==(t.L.take Most).length)):=by
  simp only[ev_f .neI,ev_f .len,zAA,zBA,hgl,hsrc,zTA,xOA,zRD,yWH,zCE];show D.bool (!decide (((g.L.length:Nat):Int)=(((t.L.take Most).length:Nat):Int)))=_;generalize (t.L.take Most).length=m;generalize g.L.length=k
  congr 2
  by_cases h:k=m
  ·rw[h];simp
  ·have h2:¬((k:Int)=(m:Int)):=by omega
   rw[decide_eq_false_iff_not.2 h2,beq_eq_false_iff_ne.2 h]
 constructor
 ·refine⟨fun _=>⟨fun _=>⟨fun _=>⟨⟨fun e=>by simp[xMA] at e,trivial⟩,?_,trivial⟩,fun _=>⟨fun _=>⟨⟨fun e=>by simp[xMA] at e,trivial⟩,cap16,trivial⟩,fun _=>⟨fun c10=>⟨⟨fun _=>?_,?_⟩,trivial⟩,fun _=>⟨fun c11=>⟨fun hlen=>⟨qJD.all fun k y hx=>⟨fun _=>⟨⟨fun _=>?_,?_⟩,?_,trivial⟩,trivial⟩,trivial⟩,?_,trivial⟩,fun _=>⟨⟨fun e=>by simp[xMA] at e,trivial⟩,trivial⟩,trivial⟩,trivial⟩,trivial⟩,trivial⟩,trivial⟩,⟨fun e=>by simp[xMA] at e,trivial⟩,trivial⟩
  ·simp only[Ob.holds,ev_f,zAA,zBA,ev_v,ev_k,List.getD_cons_zero,List.getD_cons_succ,zQA,yGA,zTA,yHA,xTA,zKA,Bool.false_eq_true,if_false];omega
  ·simp only[ev_f,zAA,zBA,ev_v,List.getD_cons_zero,List.getD_cons_succ,zQA,yFA];rw[zRJ,zPA]
   have:=yZG f
   omega
  ·simp only[ev_f,zAA,zBA,ev_v,List.getD_cons_zero,List.getD_cons_succ,zQA,yFA];rw[yOJ,zPA];exact xRE hs
  ·rw[ev_f,zAA,zAA,zBA,hk,ev_k,qZA] at c11;have c11:f.kind=11:=by simpa[D.asBool] using c11
   simp only[ev_f,zAA,zBA,ev_v,ev_k,List.cons_append,List.nil_append,List.getD_cons_zero,List.getD_cons_succ,zQA,yFA,zAB,<- zBL];rw[qHG,xXA]
   have:=wF_one c11 (qTH hs c11)
   omega
  ·rw[ev_f,zAA,zAA,zBA,hk,ev_k,qZA] at c11;have c11:f.kind=11:=by simpa[D.asBool] using c11
   simp only[ev_f,zAA,zBA,ev_v,ev_k,List.cons_append,List.nil_append,List.getD_cons_zero,List.getD_cons_succ,zQA,yFA,zAB,<- zBL];rw[qWG,xXA];exact xQL hs c11
  ·have hl:=hlen;simp only[src4] at hne;rw[hne] at hl;have hl:g.L.length=(t.L.take Most).length:=by simpa[D.asBool] using hl
   have hlt:k<(t.L.take Most).length:=(List.getElem?_eq_some_iff.1 hx).1;simp only[Ob.holds,ev_f,zAA,zBA,ev_v,List.cons_append,List.nil_append,List.getD_cons_zero,List.getD_cons_succ,zQA,yGA,xOA,zKA,if_true]
   have:(g.l.getD []).length=g.L.length:=rfl
   omega
  ·simp only[Ob.holds,ev_f,zAA,zBA,ev_v,ev_k,List.getD_cons_zero,List.getD_cons_succ,zQA,yGA,zTA,xOA,xTA,zKA,Bool.false_eq_true,if_false];omega
 ·rw[X_304,xXA,xBA,xBA,zKA,zSA,yYJ];have e56:DE.f (.ext 56) [.v 0,.v 1,.v 3]=nu4:=rfl;have e4:DE.f .ite [.f (.get 2) [.v 4],.f .not [nu4],nu4]=neq4:=rfl;have es:DE.f .take [.f (.get 3) [.v 3],.f .imin [.f .len [.f (.get 3) [.v 3]],.k (.int 32767)]]=src4:=rfl;have ef:=qJD.fold 0;have eb:[(DE.f .ite [.v 7,.k (.bool true),.f .not [.f (.ext 304) [.f .mkrow [.f (.get 6) [.v 0],.f (.get 1) [.v 0],.f (.get 2) [.v 0],.k (.int (-1)),.k (.int (-1)),.f (.get 5) [.v 0],.f (.get 6) [.v 0],.f (.get 7) [.v 0]],.v 1,.v 2,.v 6,.f .at [.f (.get 3) [.v 4],.v 5]]]])]=bod4:=rfl;rw[de304,e56,e4,es,eb];simp only[ev_f .ite,ev_f .eqI,ev_f .leI,zAA,zBA,hk,hnl,hnu,hneq,hne,ef,ev_k,qZA,qJB,zVA,List.getD_cons_zero];simp only[ev_f,ev_v,zAA,zBA,ev_k,List.getD_cons_zero,List.getD_cons_succ,zQA,yGA,yFA,qZA,qJB,zTA,xTA,yVB,zEH,yHA,zCJ,xQK,zGA,X_52,X_303,X_306,zPA,xBA,zKA,zSA,yTA,yQB,xIB];have h16:Int.toNat 16=16:=rfl;rw[h16,copy16];simp only[yAF,zVA]
  congr 1
  by_cases c8:f.kind=8
  ·have h11:f.kind≠11:=by omega
   rw[if_neg h11];unfold qVF;simp only[c8,decide_true,if_true,true_or,true_and];cases hq:(g.null==Mx.null f v t) <;> cases hw:Mx.null f v t <;> simp[T.S]
  ·by_cases c10:f.kind=10
   ·have h11:f.kind≠11:=by omega
    rw[if_neg h11];unfold qVF;simp only[c10,decide_true,if_true];cases hq:(g.null==Mx.null f v t) <;> cases hw:Mx.null f v t <;> simp
   ·have hm8:(decide (0<=f.null)&&decide (f.null<=v))=(if decide (0<=f.null)=true then decide (f.null<=v) else false):=by
     by_cases h0:0<=f.null <;> simp[h0]
    rw[hm8];generalize (if decide (0<=f.null)=true then decide (f.null<=v) else false)=may;by_cases c11:f.kind=11
    ·rw[if_pos c11];have hfold:=zDF T.zero (fun y z=>qVF f.of false false y z (qKE f.sub v x y z)) (t.L.take Most) g.L [] false;have hone:=fun y z=>xCL f (qTH hs c11) v x y z
     simp only[hone];simp only[List.nil_append,List.length_nil,Bool.false_or] at hfold;simp only[c11];cases hlen:(g.L.length==(t.L.take Most).length) with
     | false=>cases may <;> cases hq:(g.null==Mx.null f v t) <;> cases hw:Mx.null f v t <;> simp
     | true =>
      rw[hfold (beq_iff_eq.1 hlen).symm];cases ha:all2 (fun y z=>qVF f.of false false y z (qKE f.sub v x y z)) (t.L.take Most) g.L <;>
      cases may <;> cases hq:(g.null==Mx.null f v t) <;> cases hw:Mx.null f v t <;> simp
    ·rw[if_neg c11];unfold qVF;simp only[c8,c10,c11,decide_false,Bool.false_eq_true,if_false,false_or];by_cases c9:f.kind=9
     ·cases may <;> cases hq:(g.null==Mx.null f v t) <;> cases hw:Mx.null f v t <;> simp[c9,T.S]
     ·by_cases c7:f.kind=7
      ·cases may <;> cases hq:(g.null==Mx.null f v t) <;> cases hw:Mx.null f v t <;> simp[c7,T.S]
      ·cases may <;> cases hq:(g.null==Mx.null f v t) <;> cases hw:Mx.null f v t <;> simp[c7,c9]
end Go.Mx
namespace Go.Mx
open Go Go.Dx
def wasF(v:Int)(x:Bool)(t g:T)(i:Int)(f:Fl):Bool :=
 if (decide (f.tag<0)&&has f v || decide (0<=f.tag)&&(x && !qYA f (at' t i)))=true then zFH f v x (at' t i) (g.L.getD i.toNat T.zero) else usF f (g.L.getD i.toNat T.zero)
theorem xKD(v:Int)(x:Bool)(t g:T):∀(l:List Fl) (i:Nat) (p:Bool×Bool),xKA (fun i f (p:Bool×Bool)=>(p.1,if p.2 then true else !wasF v x t g i f)) i l p=(p.1,p.2 || !qUF l i v x t g)
 | [],i,p=>by simp[xKA,qUF]
 | f::r,i,p=>by
  rw[xKA,xKD v x t g r,qUF];have e:(if (decide (f.tag<0)&&has f v || decide (0<=f.tag)&&(x && !qYA f (at' t i)))=true then zFH f v x (at' t i) (g.L.getD i T.zero) else usF f (g.L.getD i T.zero))=wasF v x t g i f:=rfl;rw[e];cases p.2 <;> cases wasF v x t g i f <;> simp
theorem toldS_eq(fs:Option (List Fl))(v:Int)(x:Bool)(t g:T):qKE fs v x t g=(g.L.length==(fs.getD []).length&&(qUF (fs.getD []) 0 v x t g&&toldU (fs.getD []) x t g)):=by
 cases fs with
 | none=>simp[qKE,qUF]
 | some l=>rw[qKE];rfl
theorem toT_part(y:D):toT (.row [.int 0,.nil,.bool false,.list [y],.nil]) = .mk 0 none false (some [toT y]) none:=by
 rw[toT,decT,toTl,toTl];rfl
theorem qTI(f:Fl):decF (.list [f.d])=some [f]:=zPA (some [f])
theorem usS_one(f:Fl)(y:T):usS (some [f]) (.mk 0 none false (some [y]) none)=usF f y:=by
 rw[usS,usL,usL,Bool.and_true]
 have:at' (.mk 0 none false (some [y]) none) ((0:Nat):Int)=y:=rfl
 rw[this];rfl
theorem xBL(l:Option (List Tg))(i:Nat)(h:i<(l.getD []).length):(encU l).rows.getD i .nil=((l.getD []).getD i ⟨0,none⟩).d:=by
 rw[xKC,List.getD_eq_getElem?_getD,List.getElem?_map,List.getD_eq_getElem?_getD,List.getElem?_eq_getElem h];rfl
theorem qKK(a:Int):decide (a<0) = !decide (0<=a):=by
 by_cases h:0<=a
 ·have:¬a<0:=by omega
  simp[h,this]
 ·have:a<0:=by omega
  simp[h,this]
def lu3(fs:Option (List Fl))(x:Bool)(t:T):List Tg:=if x then zWA (fs.getD []) t.u else []
def bod3:List DE:=[.f .ite [.v 7,.k (.bool true),.f .ite [.f .neI [.f (.get 0) [.f .at [.f (.get 4) [.v 4],.v 5]],.f (.get 0) [.v 6]],.k (.bool true),.f .not [.f (.ext 52) [.f (.get 1) [.f .at [.f (.get 4) [.v 4],.v 5]],.f .take [.f (.get 1) [.v 6],.f .imin [.f .len [.f (.get 1) [.v 6]],.k (.int 32767)]]]]]]]
theorem len_encF(a:Option (List Fl)):(encF a).len=(a.getD []).length:=by cases a <;> simp[encF,D.len,xPG]
theorem zHG(a:D):Fn.eval X .mklist [a] = .list [a]:=rfl
theorem nz_len{A:Type}(l:List A):((nz l).getD []).length=l.length:=by rw[xDA]
theorem ne_len(a b:Nat):((a:Int) != (b:Int)) = !(a==b):=by
 rw[yWH]
 congr 1
 by_cases h:a=b
 ·subst h;simp
 ·have h2:¬((a:Int)=(b:Int)):=by omega
  rw[decide_eq_false_iff_not.2 h2,beq_eq_false_iff_ne.2 h]
theorem ev303(fs:Option (List Fl))(v:Int)(x:Bool)(t g:T)(n:Nat)(h:Pre3 (n+1) 303 [encF fs,.int v,.bool x,t.d,g.d]):zCA X (Pre3 n) ob303 [encF fs,.int v,.bool x,t.d,g.d]/\de303.eval X [encF fs,.int v,.bool x,t.d,g.d]=X 303 [encF fs,.int v,.bool x,t.d,g.d]:=by
 obtain⟨hm,hs⟩:=h;have hm:=hm rfl;rw[zRJ,zPA] at hm;rw[yOJ,zPA] at hs;obtain⟨s1,s2⟩:=xAG hs;have e40:∀(i:Nat) (r:List D),(DE.f (.ext 40) [.v 3,.v 5]).eval X (encF fs :: .int v :: .bool x::t.d::g.d :: .int i::r)=(at' t i).d:=fun i r=>by
  simp only[ev_f,zAA,zBA,ev_v,List.getD_cons_zero,List.getD_cons_succ,zGA,X_40,xBA,zKA]
 have e57:∀(i:Nat) (f:Fl) (r:List D),(DE.f (.ext 57) [.v 6,.v 1]).eval X (encF fs :: .int v :: .bool x::t.d::g.d :: .int i::f.d::r) = .bool (has f v):=fun i f r=>by
  simp only[ev_f,zAA,zBA,ev_v,List.getD_cons_zero,List.getD_cons_succ,zGA,X_57,xXA,zKA]
 have e50:∀(i:Nat) (f:Fl) (r:List D),(DE.f (.ext 50) [.v 6,.f (.ext 40) [.v 3,.v 5]]).eval X (encF fs :: .int v :: .bool x::t.d::g.d :: .int i::f.d::r) = .bool (qYA f (at' t i)):=fun i f r=>by
  rw[ev_f,zAA,zAA,zBA,e40];simp only[ev_v,List.getD_cons_zero,List.getD_cons_succ,zGA,X_50,xXA,xBA]
 have etag:∀(i:Nat) (f:Fl) (r:List D),(DE.f (.get 4) [.v 6]).eval X (encF fs :: .int v :: .bool x::t.d::g.d :: .int i::f.d::r) = .int f.tag:=fun i f r=>by
  simp only[ev_f,zAA,zBA,ev_v,List.getD_cons_zero,List.getD_cons_succ,zQA,yFA]
 have ev7:∀(i:Nat) (f:Fl) (r:List D),(DE.v 7).eval X (encF fs :: .int v :: .bool x::t.d::g.d :: .int i::f.d :: .bool x::r) = .bool x:=fun i f r=>rfl
 have egi:∀(i:Nat) (r:List D),(DE.f .at [.f (.get 3) [.v 4],.v 5]).eval X (encF fs :: .int v :: .bool x::t.d::g.d :: .int i::r)=(encT g.l).rows.getD i .nil:=fun i r=>by
  simp only[ev_f,zAA,zBA,ev_v,List.getD_cons_zero,List.getD_cons_succ,zQA,yGA,zUF,Int.toNat_natCast]
 have ep:∀(i:Nat) (f:Fl) (r:List D),p303.eval X (encF fs :: .int v :: .bool x::t.d::g.d :: .int i::f.d :: .bool x::r) = .bool x:=fun i f r=>by
  simp only[p303,ev_f .ite,ev_f .ltI,ev_f .leI,zAA,zBA,e57,etag,ev7,ev_k,qLA,qJB,zVA,yAF]
  congr 1
  rw[qKK];cases decide (0<=f.tag) <;> cases has f v <;> cases x <;> rfl
 have ec:∀(i:Nat) (f:Fl) (r:List D),c303.eval X (encF fs :: .int v :: .bool x::t.d::g.d :: .int i::f.d :: .bool x::r) = .bool (decide (f.tag<0)&&has f v || decide (0<=f.tag)&&(x && !qYA f (at' t i))):=fun i f r=>by
  simp only[c303,ev_f .ite,ev_f .ltI,ev_f .leI,ev_f .not,zAA,zBA,e57,e50,etag,ev7,ev_k,qLA,qJB,zVA,yEC,yAF]
  congr 1
  rw[qKK];cases decide (0<=f.tag) <;> cases has f v <;> cases x <;> cases qYA f (at' t i) <;> rfl
 have hfst:∀(l:List Fl) (i:Nat) (p:Bool×Bool),(xKA (fun i f (p:Bool×Bool)=>(p.1,if p.2 then true else !wasF v x t g i f)) i l p).1=p.1:=fun l i p=>by rw[xKD]
 have qJD:Folds X [encF fs,.int v,.bool x,t.d,g.d] 5 (.v 0) i303 b303 Fl.d (fun p:Bool×Bool=>[.bool p.1,.bool p.2]) (fun i f (p:Bool×Bool)=>(p.1,if p.2 then true else !wasF v x t g i f)) (fs.getD []) (x,false):=by
  refine⟨rfl,?_,rfl,fun i f p hx hp=>?_⟩
  ·simp only[ev_v,List.getD_cons_zero,zSC]
  ·obtain⟨a,s⟩:=p;have ha:a=x:=by
    have:=congrArg Prod.fst hp
    rw[hfst] at this;exact this
   subst ha;simp only[b303,List.cons_append,List.nil_append,zAA,zBA,ep]
   congr 2
   rw[ev_f,zAA,zAA,zAA,zBA,ev_f,zAA,zAA,zAA,zBA,ec,ev_f,zAA,zBA,ev_f,zAA,zAA,zAA,zAA,zAA,zBA,ep,e40,egi,ev_f .not,zAA,zBA];rw[ev_f (.ext 305)];simp only[zAA,zBA,ev_f .mklist,ev_f .mkrow,egi,ev_v,ev_k,List.getD_cons_zero,List.getD_cons_succ,zHG,zAB,zGA,X_304,X_305,xXA,xBA,zKA,zSA,toT_part,qTI,usS_one,yWJ,yEC,zVA,yAF]
   congr 1
   cases s
   ·simp only[Bool.false_eq_true,if_false];unfold wasF;split <;> rfl
   ·rfl
 have hx0:(f303 0).eval X [encF fs,.int v,.bool x,t.d,g.d] = .bool x:=by
  unfold f303;rw[qJD.fold 0,xKD];rfl
 have hx1:(f303 1).eval X [encF fs,.int v,.bool x,t.d,g.d] = .bool (!qUF (fs.getD []) 0 v x t g):=by
  unfold f303;rw[qJD.fold 1,xKD]
  show D.bool (false || !qUF (fs.getD []) 0 v x t g)=_;rw[Bool.false_or]
 have hl:l303.eval X [encF fs,.int v,.bool x,t.d,g.d]=encU (nz (lu3 fs x t)):=by
  rw[l303,ev_f,zAA,zAA,zAA,zBA,ev_f,zAA,zBA,hx0];simp only[ev_f,zAA,zBA,ev_v,ev_k,List.getD_cons_zero,List.getD_cons_succ,zQA,yGA,zGA,X_41,zPA,decU_enc,yEC,zVA,lu3];cases x <;> rfl
 have hgu:(DE.f .len [.f (.get 4) [.v 4]]).eval X [encF fs,.int v,.bool x,t.d,g.d] = .int (g.U.length:Nat):=by
  simp only[ev_f,zAA,zBA,ev_v,List.getD_cons_zero,List.getD_cons_succ,zQA,yGA,zTA,xPA];rfl
 have hgl:(DE.f .len [.f (.get 3) [.v 4]]).eval X [encF fs,.int v,.bool x,t.d,g.d] = .int (g.L.length:Nat):=by
  simp only[ev_f,zAA,zBA,ev_v,List.getD_cons_zero,List.getD_cons_succ,zQA,yGA,zTA,xOA];rfl
 have hn1:(DE.f .neI [.f .len [.f (.get 3) [.v 4]],.f .len [.v 0]]).eval X [encF fs,.int v,.bool x,t.d,g.d] = .bool (!(g.L.length==(fs.getD []).length)):=by
  rw[ev_f,zAA,zAA,zBA,hgl];simp only[ev_f,zAA,zBA,ev_v,List.getD_cons_zero,zTA,len_encF,zRD,ne_len]
 have hnU:(DE.f .neI [.f .len [.f (.get 4) [.v 4]],.f .len [l303]]).eval X [encF fs,.int v,.bool x,t.d,g.d] = .bool (!(g.U.length==(lu3 fs x t).length)):=by
  rw[ev_f,zAA,zAA,zBA,hgu,ev_f,zAA,zBA,hl];simp only[zTA,xPA,zRD,ne_len,nz_len]
 have xWK:g.U.length=(lu3 fs x t).length->Folds X [encF fs,.int v,.bool x,t.d,g.d] 5 l303 [.k (.bool false)] bod3 Tg.d (fun s:Bool=>[.bool s]) (fun i (a:Tg) s=>if s then true else !(decide ((g.U.getD i ⟨0,none⟩).key=a.key)&&((g.U.getD i ⟨0,none⟩).val.getD []==(a.val.getD []).take Most))) (lu3 fs x t) false:=fun hlen=>by
  refine⟨rfl,?_,rfl,fun i a s hx _=>?_⟩
  ·rw[hl,xKC,xDA]
  ·have hi:i<(lu3 fs x t).length:=(List.getElem?_eq_some_iff.1 hx).1;have hat:(DE.f .at [.f (.get 4) [.v 4],.v 5]).eval X [encF fs,.int v,.bool x,t.d,g.d,.int i,a.d,.bool s]=(g.U.getD i ⟨0,none⟩).d:=by
    simp only[ev_f,zAA,zBA,ev_v,List.getD_cons_zero,List.getD_cons_succ,zQA,yGA,zUF,Int.toNat_natCast];exact xBL g.u i (by show i<g.U.length;omega)
   simp only[bod3,List.cons_append,List.nil_append];simp only[ev_f .ite,ev_f .neI,ev_f .not,ev_f (.get _),ev_f (.ext _),ev_f .take,ev_f .imin,ev_f .len,zAA,zBA,hat,ev_v,ev_k,List.getD_cons_zero,List.getD_cons_succ,zQA,xUB,zRD,zTA,yHA,xTA,yVB,zEH,zGA,X_52,yTA,yQB,yEC,zVA,yWH,yAF]
   congr 2
   cases s <;> cases decide ((g.U.getD i ⟨0,none⟩).key=a.key) <;> rfl
 constructor
 ·refine⟨fun hL=>⟨fun _=>⟨fun hU=>⟨(xWK ?_).all fun k a hx=>⟨fun _=>⟨fun _=>⟨⟨fun e=>by simp[xMA] at e,trivial⟩,?_,?_,trivial⟩,?_,trivial⟩,trivial⟩,trivial⟩,⟨fun e=>by simp[xMA] at e,?_⟩,trivial⟩,qJD.all fun k f hx=>⟨fun _=>⟨fun _=>⟨⟨fun _=>?_,?_⟩,trivial⟩,fun _=>⟨⟨fun _=>?_,trivial⟩,trivial⟩,?_,fun _=>⟨fun _=>⟨fun _=>⟨fun _=>⟨⟨fun e=>by simp[xMA] at e,?_⟩,trivial⟩,trivial⟩,trivial⟩,⟨fun e=>by simp[xMA] at e,trivial⟩,trivial⟩,fun _=>⟨fun _=>⟨fun _=>⟨⟨fun e=>by simp[xMA] at e,?_⟩,trivial⟩,trivial⟩,trivial⟩,⟨fun e=>by simp[xMA] at e,?_⟩,trivial⟩,trivial⟩,trivial⟩,trivial⟩
  ·rw[hnU] at hU;simpa[D.asBool] using hU
  ·simp only[Ob.holds,ev_f,zAA,zBA,ev_v,ev_k,List.cons_append,List.nil_append,List.getD_cons_zero,List.getD_cons_succ,zQA,xUB,zTA,yHA,xTA,zKA,Bool.false_eq_true,if_false];omega
  ·rw[hnU] at hU;have hU':g.U.length=(lu3 fs x t).length:=by simpa[D.asBool] using hU
   have hk:=(List.getElem?_eq_some_iff.1 hx).1;simp only[Ob.holds,ev_f,zAA,zBA,ev_v,List.cons_append,List.nil_append,List.getD_cons_zero,List.getD_cons_succ,zQA,yGA,xPA,zKA,if_true]
   have:(g.u.getD []).length=g.U.length:=rfl
   omega
  ·rw[hnU] at hU;have hU':g.U.length=(lu3 fs x t).length:=by simpa[D.asBool] using hU
   have hk:=(List.getElem?_eq_some_iff.1 hx).1;simp only[Ob.holds,ev_f,zAA,zBA,ev_v,List.cons_append,List.nil_append,List.getD_cons_zero,List.getD_cons_succ,zQA,yGA,xPA,zKA,if_true]
   have:(g.u.getD []).length=g.U.length:=rfl
   omega
  ·simp only[zAA,zBA,ev_v,List.getD_cons_zero];rw[qXG,zPA];exact hs
  ·have hxm:f∈fs.getD []:=List.mem_of_getElem? hx;simp only[zAA,zBA,ev_v,List.cons_append,List.nil_append,List.getD_cons_zero,List.getD_cons_succ];rw[qHG,xXA]
   have:=zEE hxm
   omega
  ·have hxm:f∈fs.getD []:=List.mem_of_getElem? hx;simp only[zAA,zBA,ev_v,List.cons_append,List.nil_append,List.getD_cons_zero,List.getD_cons_succ];rw[qWG,xXA];exact s2 f hxm
  ·have hxm:f∈fs.getD []:=List.mem_of_getElem? hx;simp only[zAA,zBA,ev_f .mklist,ev_v,List.cons_append,List.nil_append,List.getD_cons_zero,List.getD_cons_succ,zHG];rw[qVE,qTI]
   have:=zEE hxm
   simp only[wFs,wFl];omega
  ·have hLe:g.L.length=(fs.getD []).length:=by
    rw[hn1] at hL;simpa[D.asBool] using hL
   have hk:=(List.getElem?_eq_some_iff.1 hx).1;simp only[Ob.holds,ev_f,zAA,zBA,ev_v,List.cons_append,List.nil_append,List.getD_cons_zero,List.getD_cons_succ,zQA,yGA,xOA,zKA,if_true]
   have:(g.l.getD []).length=g.L.length:=rfl
   omega
  ·have hxm:f∈fs.getD []:=List.mem_of_getElem? hx;simp only[zAA,zBA,ev_v,List.cons_append,List.nil_append,List.getD_cons_zero,List.getD_cons_succ];rw[xUF,xXA];exact s2 f hxm
  ·have hxm:f∈fs.getD []:=List.mem_of_getElem? hx;simp only[zAA,zBA,ev_v,List.cons_append,List.nil_append,List.getD_cons_zero,List.getD_cons_succ];rw[xUF,xXA];exact s2 f hxm
  ·simp only[zAA,zBA,ev_v,List.getD_cons_zero,List.getD_cons_succ,List.cons_append,List.nil_append];rw[xSF,zKA];omega
 ·rw[X_303,xBA,xBA,zPA,zKA,zSA,toldS_eq];have eb:[(DE.f .ite [.v 7,.k (.bool true),.f .ite [.f .neI [.f (.get 0) [.f .at [.f (.get 4) [.v 4],.v 5]],.f (.get 0) [.v 6]],.k (.bool true),.f .not [.f (.ext 52) [.f (.get 1) [.f .at [.f (.get 4) [.v 4],.v 5]],.f .take [.f (.get 1) [.v 6],.f .imin [.f .len [.f (.get 1) [.v 6]],.k (.int 32767)]]]]]])]=bod3:=rfl;rw[de303,eb];simp only[ev_f .ite,zAA,zBA,hn1,hx1,hnU,ev_k,zVA];cases hL:g.L.length==(fs.getD []).length with
  | false=>rfl
  | true =>
   cases hT:qUF (fs.getD []) 0 v x t g with
   | false=>rfl
   | true =>
    have e3:toldU (fs.getD []) x t g=(g.U.length==(lu3 fs x t).length&&all2 (fun(a b:Tg)=>decide (b.key=a.key)&&(b.val.getD []==(a.val.getD []).take Most)) (lu3 fs x t) g.U):=rfl;rw[e3];cases hU:g.U.length==(lu3 fs x t).length with
    | false=>rfl
    | true =>
     have hU':=beq_iff_eq.1 hU;rw[(xWK hU').fold 0];have hf:=zDF (⟨0,none⟩:Tg) (fun(a b:Tg)=>decide (b.key=a.key)&&(b.val.getD []==(a.val.getD []).take Most)) (lu3 fs x t) g.U [] false hU'.symm;simp only[List.nil_append,List.length_nil,Bool.false_or] at hf;rw[hf];cases all2 (fun(a b:Tg)=>decide (b.key=a.key)&&(b.val.getD []==(a.val.getD []).take Most)) (lu3 fs x t) g.U <;> rfl
end Go.Mx
namespace Go.Mx
open Go Go.Dx
def fbS:DE:=.f .app [.f .app [.f (.ext 45) [.v 0,.k (.int 2)],.f (.ext 45) [.v 1,.k (.int 2)]],.f (.ext 45) [.f (.wrap .i64) [.v 2],.k (.int 4)]]
def fbT:DE:=.f .app [fbS,.f (.ext 45) [.f .len [.v 4],.k (.int 2)]]
def fbI:DE:=.f .app [fbT,.v 4]
def fbN:DE:=.f .app [fbS,.f (.ext 45) [.k (.int (-1)),.k (.int 2)]]
def fbA:DE:=.f .ite [.v 3,fbI,fbN]
def fbZ:DE:=.f .app [fbA,.f .mkbytes [.k (.int 0)]]
def fbB:DE:=.f .ite [.v 5,fbZ,fbA]
def fbC:DE:=.f .app [fbB,.v 6]
def xFK:DE:=.f .app [.f (.ext 45) [.f .len [fbC],.k (.int 4)],fbC]
def ob309:List Ob :=
 [.room xFK 1,.pre 45 [.f .len [fbC],.k (.int 4)],.room fbC 1,.when (.v 5) true [.room fbZ 1],
  .when (.v 3) true [.room fbI 1,.room fbT 1,.pre 45 [.f .len [.v 4],.k (.int 2)]],.when (.v 3) false [.room fbN 1,.pre 45 [.k (.int (-1)),.k (.int 2)]],
  .room fbS 1,.pre 45 [.f (.wrap .i64) [.v 2],.k (.int 4)],.room (.f .app [.f (.ext 45) [.v 0,.k (.int 2)],.f (.ext 45) [.v 1,.k (.int 2)]]) 1,.pre 45 [.v 1,.k (.int 2)],.pre 45 [.v 0,.k (.int 2)]]
theorem yAI(n:Int):zJA (IntKind.i64.wrap n) 4=zJA n 4:=zGC _ _ _ fun i hi=>by
 rw[IntKind.wrap_i64]
 match i,hi with
 | 0,_=>simp only[Nat.mul_zero,Int.pow_zero,Int.ediv_one];omega
 | 1,_=>simp only[Nat.mul_one,(by decide:(2:Int) ^ 8=256)];omega
 | 2,_=>simp only[(by decide:(2:Int) ^ (8*2)=65536)];omega
 | 3,_=>simp only[(by decide:(2:Int) ^ (8*3)=16777216)];omega
theorem xIK(i:Option (List UInt8)):encB i = .nil ∨ ∃s,encB i = .bytes s∨encB i = .str s:=by
 cases i with
 | none=>exact .inl rfl
 | some s=>exact .inr ⟨s,.inl rfl⟩
theorem zQF(s:List UInt8):encN s = .nil ∨ ∃r,encN s = .bytes r∨encN s = .str r:=by
 cases s with
 | nil=>exact .inl rfl
 | cons a l=>exact .inr ⟨_,.inl rfl⟩
theorem qDB{s:List UInt8}{d:DE}{J:List D}(e:d.eval X J=encN s)(h:s.length<=lim):(Ob.room d 1).holds X side J:=by
 show (d.eval X J).len*1<=_/\(d.eval X J).len<=_;rw[e,xFA];exact xBB h
theorem encB_len(i:Option (List UInt8)):(encB i).len=(i.getD []).length:=by cases i <;> rfl
theorem yXD(i:Option (List UInt8)):(encB i).asStr=i.getD []:=by cases i <;> rfl
theorem encN_nz{s:List UInt8}(h:s≠[]):encN s = .bytes s:=by
 cases s with
 | nil=>exact absurd rfl h
 | cons a l=>rfl
theorem ev309(k v n:Int)(h:Bool)(i:Option (List UInt8))(x:Bool)(b:Option (List UInt8))(hs:side 309 [.int k,.int v,.int n,.bool h,encB i,.bool x,encB b]) :
  zCA X side ob309 [.int k,.int v,.int n,.bool h,encB i,.bool x,encB b]/\xFK.eval X [.int k,.int v,.int n,.bool h,encB i,.bool x,encB b]=X 309 [.int k,.int v,.int n,.bool h,encB i,.bool x,encB b]:=by
 have hs:(encB i).asStr.length+(encB b).asStr.length+100<=lim:=hs;rw[yXD,yXD] at hs;generalize hδ:[D.int k,.int v,.int n,.bool h,encB i,.bool x,encB b]=J;have v0:(DE.v 0).eval X J = .int k:=by rw[<- hδ];rfl
 have v1:(DE.v 1).eval X J = .int v:=by rw[<- hδ];rfl
 have v2:(DE.v 2).eval X J = .int n:=by rw[<- hδ];rfl
 have v3:(DE.v 3).eval X J = .bool h:=by rw[<- hδ];rfl
 have v4:(DE.v 4).eval X J=encB i:=by rw[<- hδ];rfl
 have v5:(DE.v 5).eval X J = .bool x:=by rw[<- hδ];rfl
 have v6:(DE.v 6).eval X J=encB b:=by rw[<- hδ];rfl
 have eF:∀(d:DE) (m:Int) (s:Int),d.eval X J = .int m->(DE.f (.ext 45) [d,.k (.int s)]).eval X J=encN (zJA m s.toNat):=fun d m s hd=>by
  rw[ev_f,zAA,zAA,zBA,hd,ev_k,zGA,X_45,zKA,zKA]
 have eApp:∀(p q:DE) (s:List UInt8) (d:D),p.eval X J=encN s->q.eval X J=d->(d = .nil ∨ ∃r,d = .bytes r∨d = .str r)->(DE.f .app [p,q]).eval X J=encN (s++d.asStr):=fun p q s d hp hq hd=>by
  rw[ev_f,zAA,zAA,zBA,hp,hq,yUA,yRB _ _ hd]
 have eL4:(DE.f .len [.v 4]).eval X J = .int ((i.getD []).length:Nat):=by
  rw[ev_f,zAA,zBA,v4,zTA,encB_len]
 have e2:(DE.f (.wrap .i64) [.v 2]).eval X J = .int (IntKind.i64.wrap n):=by
  rw[ev_f,zAA,zBA,v2,zOA]
 have eS0:(DE.f .app [.f (.ext 45) [.v 0,.k (.int 2)],.f (.ext 45) [.v 1,.k (.int 2)]]).eval X J=encN (zJA k 2++zJA v 2):=by
  rw[eApp _ _ _ _ (eF _ _ _ v0) (eF _ _ _ v1) (zQF _),xYA];rfl
 have eS:fbS.eval X J=encN (zJA k 2++zJA v 2++zJA n 4):=by
  unfold fbS;rw[eApp _ _ _ _ eS0 (eF _ _ _ e2) (zQF _),xYA,show (4:Int).toNat=4 from rfl,yAI]
 generalize hS:zJA k 2++zJA v 2++zJA n 4=S at eS;have lS:S.length=8:=by rw[<- hS];simp[zRA]
 have eT:fbT.eval X J=encN (S++zJA ((i.getD []).length:Nat) 2):=by
  unfold fbT;rw[eApp _ _ _ _ eS (eF _ _ _ eL4) (zQF _),xYA];rfl
 have eI:fbI.eval X J=encN (S++zJA ((i.getD []).length:Nat) 2++i.getD []):=by
  unfold fbI;rw[eApp _ _ _ _ eT v4 (xIK i),yXD]
 have eN:fbN.eval X J=encN (S++zJA (-1) 2):=by
  unfold fbN;rw[eApp _ _ _ _ eS (eF _ _ _ (ev_k _ _)) (zQF _),xYA];rfl
 have eA:fbA.eval X J=encN (S++(if h then zJA ((i.getD []).length:Nat) 2++i.getD [] else zJA (-1) 2)):=by
  unfold fbA;rw[ev_f,zAA,zAA,zAA,zBA,v3,eI,eN,zVA];cases h <;> simp
 generalize hA:(if h then zJA ((i.getD []).length:Nat) 2++i.getD [] else zJA (-1) 2)=A at eA;have lA:A.length<=2+(i.getD []).length:=by
  rw[<- hA];split
  ·rw[List.length_append,zRA];omega
  ·rw[zRA];omega
 have eZ:fbZ.eval X J=encN (S++A++[0]):=by
  unfold fbZ;rw[eApp _ _ _ (.bytes [0]) eA (by rw[ev_f,zAA,zBA,ev_k];rfl) (.inr ⟨_,.inl rfl⟩)];rfl
 have eB:fbB.eval X J=encN (S++A++(if x then ([0]:List UInt8) else [])):=by
  unfold fbB;rw[ev_f,zAA,zAA,zAA,zBA,v5,eZ,eA,zVA];cases x <;> simp
 generalize hZ:(if x then ([0]:List UInt8) else [])=Z at eB;have lZ:Z.length<=1:=by rw[<- hZ];split <;> simp
 have eC:fbC.eval X J=encN (S++A++Z++b.getD []):=by
  unfold fbC;rw[eApp _ _ _ _ eB v6 (xIK b),yXD]
 have eLC:(DE.f .len [fbC]).eval X J = .int ((S++A++Z++b.getD []).length:Nat):=by
  rw[ev_f,zAA,zBA,eC,zTA,xFA]
 have lC:(S++A++Z++b.getD []).length<=11+(i.getD []).length+(b.getD []).length:=by
  simp only[List.length_append,lS];omega
 have eD:xFK.eval X J=encN (zJA ((S++A++Z++b.getD []).length:Nat) 4++(S++A++Z++b.getD [])):=by
  unfold xFK;rw[eApp _ _ _ _ (eF _ _ _ eLC) eC (zQF _),xYA];rfl
 have hh:hdrB k v n h (i.getD []) x++b.getD []=S++A++Z++b.getD []:=by
  rw[hdrB,<- hS,<- hA,<- hZ];simp only[List.append_assoc]
 constructor
 ·have s45:∀(d:DE) (s:Int),0<=s->s<=8->(Ob.pre 45 [d,.k (.int s)]).holds X side J:=fun d s h0 h1=>by
   simp only[Ob.holds,zAA,zBA,ev_k];rw[qMC];exact⟨h0,h1⟩
  refine⟨qDB eD ?_,s45 _ _ (by decide) (by decide),qDB eC ?_,fun hx=>⟨qDB eZ ?_,trivial⟩,fun hh=>⟨qDB eI ?_,qDB eT ?_,s45 _ _ (by decide) (by decide),trivial⟩,fun hh=>⟨qDB eN ?_,s45 _ _ (by decide) (by decide),trivial⟩,
   qDB eS ?_,s45 _ _ (by decide) (by decide),qDB eS0 ?_,s45 _ _ (by decide) (by decide),s45 _ _ (by decide) (by decide),trivial⟩
  ·rw[List.length_append,zRA];omega
  ·omega
  ·simp only[List.length_append,lS,List.length_singleton];omega
  ·simp only[List.length_append,lS,zRA];omega
  ·simp only[List.length_append,lS,zRA];omega
  ·simp only[List.length_append,lS,zRA];omega
  ·omega
  ·simp only[List.length_append,zRA];simp only[lim];omega
 ·rw[eD,<- hδ,X_309,zKA,zKA,zKA,zSA,zSA,yXD,yXD,xXK,hh,encN_nz];rw[Fixed4];simp
def de16:DE:=.f .app [.f (.ext 10) [.v 0,.f (.add .u32) [.k (.int 1),.f (.wrap .u32) [.f .len [.v 1]]]],.v 1]
def ob16:List Ob:=[.room de16 1,.pre 10 [.v 0,.f (.add .u32) [.k (.int 1),.f (.wrap .u32) [.f .len [.v 1]]]]]
def de18:DE:=.f .ite [.f .isNil [.v 1],.f (.ext 10) [.v 0,.k (.int 0)],.f (.ext 16) [.v 0,.v 1]]
def ob18:List Ob:=[.when (.f .isNil [.v 1]) true [.pre 10 [.v 0,.k (.int 0)]],.when (.f .isNil [.v 1]) false [.pre 16 [.v 0,.v 1]]]
theorem ev16(o s:Option (List UInt8))(h:side 16 [encB o,encB s]):zCA X side ob16 [encB o,encB s]/\de16.eval X [encB o,encB s]=X 16 [encB o,encB s]:=by
 rw[xWI,yHA,yTA] at h;obtain⟨h1,h2⟩:=h;have ew:IntKind.u32.wrap (1+IntKind.u32.wrap ((s.getD []).length:Nat))=(((s.getD []).length+1:Nat):Int):=by
  rw[xEB (x:=((s.getD []).length:Nat)) (by omega) (by omega),xEB (by omega) (by omega)];omega
 have e:de16.eval X [encB o,encB s]=X 16 [encB o,encB s]:=by
  simp only[de16,X_16,X_10,ev_f,zAA,zBA,ev_v,ev_k,List.getD_cons_zero,List.getD_cons_succ,zTA,yHA,zOA,yDC,ew,zGA,zKA,Int.toNat_natCast,yUA,app_b,yTA]
 have hu:(zDA ((s.getD []).length+1)).length<=5:=by
  rw[xEJ]
  have:=yYG 5 ((s.getD []).length+1) (Nat.lt_of_lt_of_le (by omega) (by decide:4294967296<=128 ^ 5))
  omega
 refine⟨⟨?_,?_,trivial⟩,e⟩
 ·show (de16.eval X [encB o,encB s]).len*1<=_/\(de16.eval X [encB o,encB s]).len<=_;rw[e,X_16,xUA,List.length_append,yHA,yTA,yTA];exact xBB (by omega)
 ·simp only[Ob.holds,ev_f,zAA,zBA,ev_v,ev_k,List.getD_cons_zero,List.getD_cons_succ,zTA,yHA,zOA,yDC,ew];show (X 10 _).len<=lim;rw[X_10,xUA,zKA,Int.toNat_natCast,yTA];omega
theorem ev18(o s:Option (List UInt8))(h:side 18 [encB o,encB s]):zCA X side ob18 [encB o,encB s]/\de18.eval X [encB o,encB s]=X 18 [encB o,encB s]:=by
 have h0:=h;rw[yGL,yHA] at h;obtain⟨h1,h2⟩:=h;constructor
 ·refine⟨fun hc=>⟨?_,trivial⟩,fun hc=>⟨?_,trivial⟩,trivial⟩
  ·simp only[Ob.holds,zAA,zBA,ev_v,ev_k,List.getD_cons_zero];show (X 10 _).len<=lim;rw[X_10,xUA]
   have:(zDA (D.asInt (.int 0)).toNat).length=1:=by rw[zKA];simp[zDA]
   rw[this];omega
  ·simp only[Ob.holds,zAA,zBA,ev_v,List.getD_cons_zero,List.getD_cons_succ];rw[xWI,yHA];exact⟨h1,h2⟩
 ·simp only[de18,X_18,X_16,X_10,ev_f,zAA,zBA,ev_v,ev_k,List.getD_cons_zero,List.getD_cons_succ,qOB,xBD,zGA,zKA,zVA];cases s <;> rfl
end Go.Mx
namespace Go.Mx
open Go Go.Dx
def ob301:List Ob :=
 [.all (.v 0) [] [] [.when (.f .ite [.f .ltI [.k (.int 0),.v 1],.f .ltI [.f (.get 0) [.v 2],.f (.get 0) [.f .at [.v 0,.f (.sub .i64) [.v 1,.k (.int 1)]]]],.k (.bool false)]) true [.nz (.k (.int 0))],
  .when (.f .ltI [.k (.int 0),.v 1]) true [.idx (.f (.sub .i64) [.v 1,.k (.int 1)]) (.v 0) true]]]
theorem ev301(u:Option (List Tg))(h:side 301 [encU u]):zCA X side ob301 [encU u]:=by
 obtain⟨hp,hl⟩:=h;generalize hd:encU u=d at hp hl;have hlen:d.len=d.rows.length:=by
  rw[<- hd];cases u with
  | none=>rfl
  | some l=>rfl
 refine⟨?_,trivial⟩;simp only[Ob.holds];have e0:(DE.v 0).eval X [d]=d:=rfl;rw[e0];intro k hk;have hst:∀n r,yLA (fun i r acc=>zEA X [] ([d]++(.int i::r::acc))) n r (zEA X [] [d])=[]:=fun n r=>by
  rw[zBA]
  have:∀(r:List D) (n:Nat),yLA (fun i r acc=>zEA X [] ([d]++(.int i::r::acc))) n r []=[]:=fun r=>by
   induction r with
   | nil=>intro n;rfl
   | cons a r ih=>intro n;rw[yLA,zBA];exact ih _
  exact this r n
 rw[hst];generalize hr:d.rows.getD k .nil=r;have hrk:d.rows[k]? = some r:=by
  rw[List.getD_eq_getElem?_getD,List.getElem?_eq_getElem hk,Option.getD_some] at hr;rw[List.getElem?_eq_getElem hk,hr]
 have v0:(DE.v 0).eval X ([d]++[D.int (k:Nat),r])=d:=rfl;have v1:(DE.v 1).eval X ([d]++[D.int (k:Nat),r]) = .int (k:Nat):=rfl;have v2:(DE.v 2).eval X ([d]++[D.int (k:Nat),r])=r:=rfl;have elt:(DE.f .ltI [.k (.int 0),.v 1]).eval X ([d]++[D.int (k:Nat),r]) = .bool (decide ((0:Int)<(k:Nat))):=by
  rw[ev_f,zAA,zAA,zBA,v1,ev_k,qLA]
 have esub:k≠0->(DE.f (.sub .i64) [.v 1,.k (.int 1)]).eval X ([d]++[D.int (k:Nat),r]) = .int ((k-1:Nat):Nat):=fun h0=>by
  rw[ev_f,zAA,zAA,zBA,v1,ev_k];show D.int (IntKind.i64.wrap ((k:Int)-1))=_;rw[IntKind.wrap_i64]
  congr 1
  omega
 show zCA X side _ ([d]++[D.int (k:Nat),r]);refine⟨fun h=>?_,fun h=>?_,trivial⟩
 ·exfalso;rw[ev_f,zAA,zAA,zAA,zBA,elt,ev_k,zVA] at h;by_cases h0:k=0
  ·subst h0;simp[D.asBool] at h
  ·have hdd:decide ((0:Int)<(k:Nat))=true:=by simp;omega
   rw[hdd,if_pos rfl,ev_f,zAA,zAA,zBA,ev_f,zAA,zBA,v2,ev_f,zAA,zBA,ev_f,zAA,zAA,zBA,v0,esub h0] at h;have e3:Fn.eval X .at [d,.int ((k-1:Nat):Nat)]=d.rows.getD (k-1) .nil:=by
    show d.rows.getD (((k-1:Nat):Int)).toNat .nil=_;rw[Int.toNat_natCast]
   rw[e3] at h;have hk1:k-1<d.rows.length:=by omega
   have hlt:=List.pairwise_iff_getElem.1 hp (k-1) k (by rw[List.length_map];omega) (by rw[List.length_map];exact hk) (by omega);simp only[List.getElem_map] at hlt;have hrk2:d.rows[k]=r:=by
    rw[List.getElem?_eq_getElem hk] at hrk;exact Option.some.inj hrk
   rw[hrk2] at hlt;rw[List.getD_eq_getElem?_getD,List.getElem?_eq_getElem hk1,Option.getD_some] at h;have h:decide ((r.cells.getD 0 .nil).asInt<((d.rows[k-1]).cells.getD 0 .nil).asInt)=true:=h
   have:=of_decide_eq_true h
   omega
 ·refine⟨?_,trivial⟩;rw[elt] at h;have h:decide ((0:Int)<(k:Nat))=true:=h;have h0:k≠0:=by have:=of_decide_eq_true h;omega
  simp only[Ob.holds];rw[esub h0,v0,hlen];simp only[D.asInt,if_true];omega
end Go.Mx
namespace Go.Mx
open Go Go.Dx
def deK3:Nat->DE
 | 16=>de16
 | 18=>de18
 | 301=>.k .nil
 | 303=>de303
 | 304=>de304
 | 305=>de305
 | 306=>de306
 | 307=>de307
 | 309=>xFK
 | _=>.k .nil
def obK3:Nat->List Ob
 | 16=>ob16
 | 18=>ob18
 | 301=>ob301
 | 303=>ob303
 | 304=>ob304
 | 305=>ob305
 | 306=>ob306
 | 307=>ob307
 | 309=>ob309
 | _=>[]
def sig3:Nat->List K
 | 16=>[.byts,.byts]
 | 18=>[.byts,.byts]
 | 301=>[.tags]
 | 303=>[.fls,.int .i64,.bool,.tree,.tree]
 | 304=>[.fl,.int .i64,.bool,.tree,.tree]
 | 305=>[.fls,.tree]
 | 306=>[.int .i64,.int .i64]
 | 307=>[.fls,.tree]
 | 309=>[.int .i64,.int .i64,.int .i32,.bool,.byts,.bool,.byts]
 | _=>[]
def qPG:Nat->Nat
 | 18=>1
 | 303=>5
 | 304=>5
 | 305=>5
 | 307=>6
 | _=>0
def known3?:Nat->Bool
 | 16=>true
 | 18=>true
 | 301=>true
 | 303=>true
 | 304=>true
 | 305=>true
 | 306=>true
 | 307=>true
 | 309=>true
 | _=>false
theorem zIL{n k:Nat}{ds:List D}(h:Pre3 n k ds):side k ds:=h.2
theorem evC(k:Nat)(hk:known3? k=true)(hr:xMA k=false):∀(ds:List D),KsOk (sig3 k) ds->side k ds->zCA X side (obK3 k) ds/\(deK3 k).eval X ds=X k ds:=by
 unfold known3? at hk;split at hk
 ·intro ds hk h;obtain @⟨⟩ | @⟨_,d1,_,_,k1,hk⟩:=hk;obtain @⟨⟩ | @⟨_,d2,_,_,k2,hk⟩:=hk;cases hk;obtain⟨x1,rfl⟩:=k1;obtain⟨x2,rfl⟩:=k2;exact ev16 x1 x2 h
 ·intro ds hk h;obtain @⟨⟩ | @⟨_,d1,_,_,k1,hk⟩:=hk;obtain @⟨⟩ | @⟨_,d2,_,_,k2,hk⟩:=hk;cases hk;obtain⟨x1,rfl⟩:=k1;obtain⟨x2,rfl⟩:=k2;exact ev18 x1 x2 h
 ·intro ds hk h;obtain @⟨⟩ | @⟨_,d1,_,_,k1,hk⟩:=hk;cases hk;obtain⟨x1,rfl⟩:=k1;exact⟨ev301 x1 h,rfl⟩
 ·simp[xMA] at hr
 ·simp[xMA] at hr
 ·simp[xMA] at hr
 ·intro ds hk h;obtain @⟨⟩ | @⟨_,d1,_,_,k1,hk⟩:=hk;obtain @⟨⟩ | @⟨_,d2,_,_,k2,hk⟩:=hk;cases hk;obtain⟨x1,rfl,w1⟩:=k1;obtain⟨x2,rfl,w2⟩:=k2;exact⟨trivial,ev306 x1 x2⟩
 ·intro ds hk h;obtain @⟨⟩ | @⟨_,d1,_,_,k1,hk⟩:=hk;obtain @⟨⟩ | @⟨_,d2,_,_,k2,hk⟩:=hk;cases hk;obtain⟨x1,rfl⟩:=k1;obtain⟨x2,rfl⟩:=k2;have e:=ev307 x1 x2 0;exact⟨Obs.mono (fun _ _ h=>zIL h) _ _ e.1,e.2⟩
 ·intro ds hk h;obtain @⟨⟩ | @⟨_,d1,_,_,k1,hk⟩:=hk;obtain @⟨⟩ | @⟨_,d2,_,_,k2,hk⟩:=hk;obtain @⟨⟩ | @⟨_,d3,_,_,k3,hk⟩:=hk;obtain @⟨⟩ | @⟨_,d4,_,_,k4,hk⟩:=hk;obtain @⟨⟩ | @⟨_,d5,_,_,k5,hk⟩:=hk;obtain @⟨⟩ | @⟨_,d6,_,_,k6,hk⟩:=hk;obtain @⟨⟩ | @⟨_,d7,_,_,k7,hk⟩:=hk;cases hk;obtain⟨x1,rfl,_⟩:=k1;obtain⟨x2,rfl,_⟩:=k2;obtain⟨x3,rfl,_⟩:=k3;obtain⟨x4,rfl⟩:=k4;obtain⟨x5,rfl⟩:=k5;obtain⟨x6,rfl⟩:=k6;obtain⟨x7,rfl⟩:=k7;exact ev309 x1 x2 x3 x4 x5 x6 x7 h
 ·cases hk
theorem evCR(k:Nat)(hk:known3? k=true)(hr:xMA k=true)(n:Nat):∀(ds:List D),KsOk (sig3 k) ds->Pre3 (n+1) k ds->zCA X (Pre3 n) (obK3 k) ds/\(deK3 k).eval X ds=X k ds:=by
 unfold known3? at hk;split at hk
 ·simp[xMA] at hr
 ·simp[xMA] at hr
 ·simp[xMA] at hr
 ·intro ds hk h;obtain @⟨⟩ | @⟨_,d1,_,_,k1,hk⟩:=hk;obtain @⟨⟩ | @⟨_,d2,_,_,k2,hk⟩:=hk;obtain @⟨⟩ | @⟨_,d3,_,_,k3,hk⟩:=hk;obtain @⟨⟩ | @⟨_,d4,_,_,k4,hk⟩:=hk;obtain @⟨⟩ | @⟨_,d5,_,_,k5,hk⟩:=hk;cases hk;obtain⟨x1,rfl⟩:=k1;obtain⟨x2,rfl,w2⟩:=k2;obtain⟨x3,rfl⟩:=k3;obtain⟨x4,rfl⟩:=k4;obtain⟨x5,rfl⟩:=k5;exact ev303 x1 x2 x3 x4 x5 n h
 ·intro ds hk h;obtain @⟨⟩ | @⟨_,d1,_,_,k1,hk⟩:=hk;obtain @⟨⟩ | @⟨_,d2,_,_,k2,hk⟩:=hk;obtain @⟨⟩ | @⟨_,d3,_,_,k3,hk⟩:=hk;obtain @⟨⟩ | @⟨_,d4,_,_,k4,hk⟩:=hk;obtain @⟨⟩ | @⟨_,d5,_,_,k5,hk⟩:=hk;cases hk;obtain⟨x1,rfl⟩:=k1;obtain⟨x2,rfl,w2⟩:=k2;obtain⟨x3,rfl⟩:=k3;obtain⟨x4,rfl⟩:=k4;obtain⟨x5,rfl⟩:=k5;exact ev304 x1 x2 x3 x4 x5 n h
 ·intro ds hk h;obtain @⟨⟩ | @⟨_,d1,_,_,k1,hk⟩:=hk;obtain @⟨⟩ | @⟨_,d2,_,_,k2,hk⟩:=hk;cases hk;obtain⟨x1,rfl⟩:=k1;obtain⟨x2,rfl⟩:=k2;exact ev305 x1 x2 n h
 ·simp[xMA] at hr
 ·simp[xMA] at hr
 ·simp[xMA] at hr
 ·cases hk
def xBK(base tab:List (Nat×Ctr))(r:Nat)(f:FuncId):Option Ctr :=
 match lk f tab with
 | some c=>if qPG c.fn<r || (r==5&&xMA c.fn) then some c else none
 | none=>lk f base
def hn3(k:Nat):List (Nat×Nat×Nat×Hint):=if k==301 then [(0,999999,0,([],0)),(45,0,1,([],0))] else [(120,0,5,([(.slot 2,.bool)],1)),(120,2,5,([],1))]
def xRH(P:Program)(base tab:List (Nat×Ctr))(f:FuncId)(c:Ctr):Bool :=
 match P.funcs[f]? with
 | some fn =>
  match runF ⟨P,xBK base tab (qPG c.fn),lookH (hn3 c.fn)⟩ 100000 8 c fn with
  | some (d,os)=>noRd c.res&&(d.beq (deK3 c.fn)&&qUC os (obK3 c.fn))
  | none=>false
 | none=>false
def ctrOk3?(P:Program)(base tab:List (Nat×Ctr))(f:FuncId)(c:Ctr):Bool :=
 known3? c.fn&&areA P (sig3 c.fn) c.args&&c.pre&&xRH P base tab f c
theorem zLL{k:Nat}(hk:known3? k=true):qPG k=5↔xMA k=true:=by
 unfold known3? at hk;split at hk
 all_goals first|cases hk;done|decide
theorem yVE{base tab:List (Nat×Ctr)}{r:Nat}{f:FuncId}{c:Ctr}(h:xBK base tab r f=some c):(lk f tab=some c/\(qPG c.fn<r∨(r=5/\xMA c.fn=true)))∨(lk f tab=none/\lk f base=some c):=by
 unfold xBK at h;split at h
 ·rename_i c' hc;split at h
  ·rename_i hb;cases h;simp only[Bool.or_eq_true,decide_eq_true_eq,Bool.and_eq_true,beq_iff_eq] at hb;exact .inl ⟨hc,hb⟩
  ·cases h
 ·rename_i hn;exact .inr ⟨hn,h⟩
theorem yZI{P:Program}{A B:Nat->List D->Prop}{base tab:List (Nat×Ctr)}(hnm:xNA P)(hord:P.follows .mixedOrders=true){f:FuncId}{c:Ctr}(hrun:xRH P base tab f c=true)(hsig:areA P (sig3 c.fn) c.args=true)(hpre:c.pre=true)
  (hc:∀g d,xBK base tab (qPG c.fn) g=some d->zMB P X A g d) (hX:∀ds,KsOk (sig3 c.fn) ds->B c.fn ds->zCA X A (obK3 c.fn) ds/\(deK3 c.fn).eval X ds=X c.fn ds):zMB P X B f c:=by
 unfold xRH at hrun;split at hrun
 rotate_left
 ·cases hrun
 rename_i fn hf;split at hrun
 rotate_left
 ·cases hrun
 rename_i d os hr;simp only[Bool.and_eq_true] at hrun;have e1:=DE.beq_eq hrun.2.1;have e2:=qCB hrun.2.2;subst e1;subst e2
 exact zLD (C:=⟨P,xBK base tab (qPG c.fn),lookH (hn3 c.fn)⟩) hnm hord hc hf hr (fun ok w vs ds hA hp=>by
  obtain⟨q1,q2⟩:=hX ds (yRE hsig hA) (hp hpre);exact⟨q1,q2,zUE hrun.1 _⟩)
theorem all_ok3{P:Program}{base tab:List (Nat×Ctr)}(hnm:xNA P)(hord:P.follows .mixedOrders=true)(hb:∀f c,lk f base=some c->zMB P X side f c)
  (hchk:∀f c,lk f tab=some c->ctrOk3? P base tab f c=true):∀f c,lk f tab=some c->zMB P X side f c:=by
 have key:∀r f c,lk f tab=some c->qPG c.fn=r->zMB P X side f c:=by
  intro r
  induction r using Nat.strongRecOn with
  | ind r ih =>
   intro f c hl hr;have h:=hchk f c hl;unfold ctrOk3? at h;simp only[Bool.and_eq_true] at h;obtain⟨⟨⟨hk,hsig⟩,hpre⟩,hrun⟩:=h;cases hrec:xMA c.fn with
   | false =>
    refine yZI hnm hord hrun hsig hpre (A:=side) (fun g d hg=>?_) (evC c.fn hk hrec);rcases yVE hg with⟨h1,h2⟩|⟨_,h1⟩
    ·rcases h2 with h2|⟨h2,_⟩
     ·exact ih _ (by omega) g d h1 rfl
     ·have:=(zLL hk).1 h2
      rw[hrec] at this;cases this
    ·exact hb g d h1
   | true =>
    have h5:r=5:=by rw[<- hr];exact(zLL hk).2 hrec
    have main:∀n f c,lk f tab=some c->known3? c.fn=true->xMA c.fn=true->areA P (sig3 c.fn) c.args=true->c.pre=true->xRH P base tab f c=true->zMB P X (Pre3 n) f c:=by
     intro n
     induction n with
     | zero =>
      intro f c hl hk hrec hsig hpre hrun;refine yZI hnm hord hrun hsig hpre (A:=fun _ _=>False) (fun g d hg=>?_) (fun ds _ hB=>?_)
      ·rcases yVE hg with⟨h1,_⟩|⟨_,h1⟩
       ·have h:=hchk g d h1;unfold ctrOk3? at h;simp only[Bool.and_eq_true] at h;obtain⟨⟨⟨_,_⟩,hp⟩,hr⟩:=h;unfold xRH at hr;split at hr
        ·rename_i fn hf;split at hr
         ·rename_i d' os hr';unfold runF at hr';split at hr'
          ·rename_i body q hb' _;exact⟨⟨fn,body,hf,hb'⟩,fun ok w vs ds _ _ _ h4=>(h4 hp).elim⟩
          ·cases hr'
         ·cases hr
        ·cases hr
       ·exact yUD (fun _ h=>h.elim) (hb g d h1)
      ·exact absurd (hB.1 hrec) (by omega)
     | succ n ihn =>
      intro f c hl hk hrec hsig hpre hrun;refine yZI hnm hord hrun hsig hpre (A:=Pre3 n) (fun g d hg=>?_) (evCR c.fn hk hrec n);rcases yVE hg with⟨h1,h2⟩|⟨_,h1⟩
      ·have hr5:=(zLL hk).2 hrec;by_cases hd:qPG d.fn<5
       ·exact yUD (fun _ h=>h.2) (ih (qPG d.fn) (by omega) g d h1 rfl)
       ·have hdr:xMA d.fn=true:=by
         rcases h2 with h2|h2
         ·omega
         ·exact h2.2
        have h:=hchk g d h1;unfold ctrOk3? at h;simp only[Bool.and_eq_true] at h;obtain⟨⟨⟨q1,q2⟩,q3⟩,q4⟩:=h;exact ihn g d h1 q1 hdr q2 q3 q4
      ·exact yUD (fun _ h=>h.2) (hb g d h1)
    have hfin:=fun n=>main n f c hl hk hrec hsig hpre hrun
    refine⟨(hfin 0).1,fun ok w vs ds h1 h2 h3 h4=>?_⟩;exact(hfin (qMK c.fn ds+1)).2 ok w vs ds h1 h2 h3 (fun hp=>⟨fun _=>by omega,h4 hp⟩)
 exact fun f c h=>key _ f c h rfl
end Go.Mx
namespace Go.Mx
open Go Go.Dx
theorem zLJ(k:Int)(d:D):∀l:List (Int×D),(l.map (·.1)).Pairwise (· < ·)->((insM k d l).map (·.1)).Pairwise (· < ·) /\ ∀y∈insM k d l,y=(k,d)∨(y∈l/\y.1≠k)
 | [],_=>by simp[insM]
 | x::r,h=>by
  rw[List.map_cons] at h;obtain⟨h1,h2⟩:=List.pairwise_cons.1 h;have hx:∀y∈r,x.1<y.1:=fun y hy=>h1 _ (List.mem_map.2 ⟨y,hy,rfl⟩)
  obtain⟨i1,i2⟩:=zLJ k d r h2;rw[insM];split
  ·rename_i hlt;refine⟨?_,fun y hy=>?_⟩
   ·rw[List.map_cons];refine List.pairwise_cons.2 ⟨fun z hz=>?_,i1⟩;obtain⟨y,hy,rfl⟩:=List.mem_map.1 hz;rcases i2 y hy with rfl|⟨hy,_⟩
    ·exact hlt
    ·exact hx y hy
   ·rcases List.mem_cons.1 hy with rfl|hy
    ·exact .inr ⟨by simp,by omega⟩
    ·rcases i2 y hy with h|⟨h,hn⟩
     ·exact .inl h
     ·exact .inr ⟨by simp[h],hn⟩
  ·split
   ·rename_i heq;refine⟨?_,fun y hy=>?_⟩
    ·rw[List.map_cons];exact List.pairwise_cons.2 ⟨fun z hz=>by rw[<- heq];exact h1 z hz,h2⟩
    ·rcases List.mem_cons.1 hy with rfl|hy
     ·exact .inl rfl
     ·exact .inr ⟨by simp[hy],by have:=hx y hy;omega⟩
   ·refine⟨?_,fun y hy=>?_⟩
    ·rw[List.map_cons,List.map_cons];refine List.pairwise_cons.2 ⟨fun z hz=>?_,List.pairwise_cons.2 ⟨h1,h2⟩⟩;rcases List.mem_cons.1 hz with rfl|hz
     ·show k<x.1;omega
     ·have:=h1 z hz;show k<z;omega
    ·rcases List.mem_cons.1 hy with rfl|hy
     ·exact .inl rfl
     ·refine .inr ⟨hy,?_⟩;rcases List.mem_cons.1 hy with rfl|hy
      ·omega
      ·have:=hx y hy;omega
theorem zJJ(k:Int)(d:D):∀l:List (Int×D),(∀y∈l,y.1≠k)->((insM k d l).map (·.1)).Perm (k::l.map (·.1))
 | [],_=>by simp[insM]
 | x::r,h=>by
  rw[insM];split
  ·rw[List.map_cons,List.map_cons];exact((zJJ k d r (fun y hy=>h y (by simp[hy]))).cons x.1).trans (List.Perm.swap _ _ _)
  ·rw[if_neg (h x (by simp))];exact List.Perm.refl _
theorem zKJ(k:Int)(d:D):∀l:List (Int×D),(l.map (·.1)).Pairwise (· < ·)->(∃y∈l,y.1=k)->(insM k d l).map (·.1)=l.map (·.1)
 | [],_,h=>by obtain⟨y,hy,_⟩:=h;cases hy
 | x::r,h,hk=>by
  rw[List.map_cons] at h;obtain⟨h1,h2⟩:=List.pairwise_cons.1 h;obtain⟨y,hy,rfl⟩:=hk;rw[insM];rcases List.mem_cons.1 hy with rfl|hy
  ·rw[if_neg (by omega),if_pos rfl];rfl
  ·have hlt:x.1<y.1:=h1 _ (List.mem_map.2 ⟨y,hy,rfl⟩);rw[if_pos hlt,List.map_cons,List.map_cons,zKJ y.1 d r h2 ⟨y,hy,rfl⟩]
section
variable {P:Program} {ok:Nat->Prop} {w:World} {m k e r:Nat} {ds:List (Int×D)} {clock:Nat} {es:Array MapEntry}
theorem yGF(hk:P.underlying k=some (.int .u32))(hkeys:(es.toList.map (·.key)).Perm (ds.map fun d=>Value.int .u32 d.1))(hkw:∀d∈ds,(Lit.int .u32 d.1).wf=true):∀x∈es.toList,∃d∈ds,x.key = .int .u32 d.1/\keyOf P k x.key=some (.int .u32 d.1):=by
 intro x hx;have h1:x.key∈ds.map fun d=>Value.int .u32 d.1:=hkeys.subset (List.mem_map.2 ⟨x,hx,rfl⟩)
 obtain⟨d,hd,he⟩:=List.mem_map.1 h1;refine⟨d,hd,he.symm,?_⟩;rw[<- he];exact Maps.keyOf_int_mk hk (hkw d hd)
theorem yNJ{A:Type}{l:List A}{j:Nat}{a:A}(h:l[j]? = some a):l.set j a=l:=by
 apply List.ext_getElem (by simp);intro i h1 h2;rw[List.getElem_set];split
 ·rename_i e;subst e;exact(List.getElem?_eq_some_iff.1 h).2.symm
 ·rfl
theorem yVI{A:Type}(es:Array A)(j:Nat)(e0:A)(f:A->A)(h:es.toList[j]? = some e0):(es.modify j f).toList=es.toList.set j (f e0):=by
 rw[Array.toList_modify,ChangeMaps.modify_eq_set _ _ _ _ h]
theorem tags_update{n:Int}{v:Value}{dv:D}(h:TagsAt P ok w m (.map (some r)) (.map ds))(hm:P.underlying m=some (.map k e))(hn:(Lit.int .u32 n).wf=true)(hv:Rep P ok w e v dv) :
  ∃es' clock',(Instr.mapUpdate m (.map (some r)) (.int .u32 n) v).run P w = .ok () (ChangeMaps.setBlock w r (.map es' clock')) /\
   ∀(ok':Nat->Prop) (w':World),w'.heap[r]? = some (.map es' clock')->(∀b,ok b->ok' b/\w'.heap[b]? = w.heap[b]?)->TagsAt P ok' w' m (.map (some r)) (.map (insM n dv ds)):=by
 cases h with
 | map hu hk hh hkeys hkw hs hborn hclock hr =>
  rw[hm] at hu;cases hu
  rename_i clock es;have K:=Maps.int_keyed hk;have hkey:=Maps.keyOf_int_mk hk hn;have hkr:=yGF hk hkeys hkw;obtain⟨s1,s2⟩:=zLJ n dv ds hs;have hin:∀d'∈ds,d'.1≠n->True:=fun _ _ _=>trivial
  rcases K.find w hkey es.toList (fun x hx=>by obtain⟨d,_,_,h⟩:=hkr x hx;exact⟨_,h⟩) with⟨h1,h2⟩|⟨j,e0,h1,h2,h3⟩
  ·refine⟨es.push ⟨.int .u32 n,v,clock⟩,clock+1,?_,fun ok' w' hw' hok'=>?_⟩
   ·simp[Instr.mapUpdate,run_underlying hm,Go.MapKept.run_getObj_map hh,K.check w false hkey,h1,Go.MapKept.run_setObj_map _ hh,Result.andThen,ChangeMaps.setBlock]
   ·have hnew:∀y∈ds,y.1≠n:=fun y hy he=>by
     have:Value.int .u32 n∈es.toList.map (·.key):=hkeys.symm.subset (List.mem_map.2 ⟨y,hy,by rw[he]⟩)
     obtain⟨x,hx,hxe⟩:=List.mem_map.1 this;exact h2 x hx hxe
    refine .map hm hk hw' ?_ (fun d hd=>?_) s1 ?_ ?_ ?_
    ·have hp:=(zJJ n dv ds hnew).map (fun i=>Value.int .u32 i);rw[List.map_map] at hp;have e1:(ds.map fun d=>Value.int .u32 d.1)=(ds.map (·.1)).map (fun i=>Value.int .u32 i):=by rw[List.map_map];rfl
     simp only[Array.toList_push,List.map_append,List.map_cons,List.map_nil];refine List.Perm.trans ?_ hp.symm;rw[List.map_cons,<- e1];exact(hkeys.append_right _).trans (List.perm_append_singleton _ _)
    ·rcases s2 d hd with rfl|⟨hd,_⟩
     ·exact hn
     ·exact hkw d hd
    ·simp only[Array.toList_push,List.map_append,List.map_cons,List.map_nil];refine List.nodup_append.2 ⟨hborn,by simp,fun a ha b hb=>?_⟩;obtain⟨x,hx,rfl⟩:=List.mem_map.1 ha;rw[List.mem_singleton] at hb
     have:=hclock x hx
     omega
    ·intro x hx;simp only[Array.toList_push,List.mem_append,List.mem_singleton] at hx;rcases hx with hx|rfl
     ·have:=hclock x hx;omega
     ·show clock<clock+1;omega
    ·intro x hx n' d' hxn hd';simp only[Array.toList_push,List.mem_append,List.mem_singleton] at hx;rcases hx with hx|rfl
     ·have hne:n'≠n:=fun e1=>h2 x hx (by rw[hxn,e1])
      rcases s2 _ hd' with h4|⟨h4,_⟩
      ·cases h4;exact absurd rfl hne
      ·exact(hr x hx n' d' hxn h4).mono (fun b hb=>(hok' b hb).1) (fun b hb=>(hok' b hb).2)
     ·have hxn:Value.int .u32 n = .int .u32 n':=hxn;cases hxn;rcases s2 _ hd' with h4|⟨_,h4⟩
      ·cases h4;exact hv.mono (fun b hb=>(hok' b hb).1) (fun b hb=>(hok' b hb).2)
      ·exact absurd rfl h4
  ·have hj:es[j]? = some e0:=by simpa using h2
   have hlist:(es.modify j (fun e'=>{ e' with key:=.int .u32 n,val:=v })).toList=es.toList.set j { e0 with key:=.int .u32 n,val:=v }:=yVI es j e0 _ h2;have hjl:j<es.toList.length:=(List.getElem?_eq_some_iff.1 h2).1;have hkeyS:(es.toList.set j { e0 with key:=.int .u32 n,val:=v }).map (·.key)=es.toList.map (·.key):=by
    rw[List.map_set];exact yNJ (by rw[List.getElem?_map,h2];simp[h3])
   have hbornS:(es.toList.set j { e0 with key:=.int .u32 n,val:=v }).map (·.born)=es.toList.map (·.born):=by
    rw[List.map_set];exact yNJ (by rw[List.getElem?_map,h2];rfl)
   have hold:∃y∈ds,y.1=n:=by
    obtain⟨d,hd,he,_⟩:=hkr e0 (List.mem_of_getElem? h2);rw[h3] at he;cases he;exact⟨d,hd,rfl⟩
   refine⟨es.modify j (fun e'=>{ e' with key:=.int .u32 n,val:=v }),clock,?_,fun ok' w' hw' hok'=>?_⟩
   ·simp[Instr.mapUpdate,run_underlying hm,Go.MapKept.run_getObj_map hh,K.check w false hkey,h1,hj,h3,K.stays w hkey,Go.MapKept.run_setObj_map _ hh,Result.andThen,ChangeMaps.setBlock]
   ·refine .map hm hk hw' ?_ (fun d hd=>?_) s1 ?_ ?_ ?_
    ·rw[hlist,hkeyS];have e1:(ds.map fun d=>Value.int .u32 d.1)=(ds.map (·.1)).map (fun i=>Value.int .u32 i):=by rw[List.map_map];rfl
     have e2:((insM n dv ds).map fun d=>Value.int .u32 d.1)=((insM n dv ds).map (·.1)).map (fun i=>Value.int .u32 i):=by rw[List.map_map];rfl
     rw[e2,zKJ n dv ds hs hold,<- e1];exact hkeys
    ·rcases s2 d hd with rfl|⟨hd,_⟩
     ·exact hn
     ·exact hkw d hd
    ·rw[hlist,hbornS];exact hborn
    ·intro x hx
     have:x.born∈es.toList.map (·.born):=by
      rw[<- hbornS];rw[hlist] at hx;exact List.mem_map.2 ⟨x,hx,rfl⟩
     obtain⟨y,hy,hye⟩:=List.mem_map.1 this;rw[<- hye];exact hclock y hy
    ·intro x hx n' d' hxn hd';rw[hlist] at hx;obtain⟨i,hi,hxi⟩:=List.mem_iff_getElem.1 hx;rw[List.getElem_set] at hxi;split at hxi
     ·subst hxi;have hxn:Value.int .u32 n = .int .u32 n':=hxn;cases hxn;rcases s2 _ hd' with h4|⟨_,h4⟩
      ·cases h4;exact hv.mono (fun b hb=>(hok' b hb).1) (fun b hb=>(hok' b hb).2)
      ·exact absurd rfl h4
     ·rename_i hne;have hil:i<es.toList.length:=by rw[List.length_set] at hi;exact hi
      have hxm:x∈es.toList:=hxi▸List.getElem_mem hil;have hne2:n'≠n:=fun e1=>by
       have hnd:(es.toList.map (·.key)).Nodup:=by
        refine hkeys.nodup_iff.2 ?_
        have:(ds.map (·.1)).Nodup:=hs.imp (fun {a b} h=>by omega)
        have e1:(ds.map fun d=>Value.int .u32 d.1)=(ds.map (·.1)).map (fun i=>Value.int .u32 i):=by rw[List.map_map];rfl
        rw[e1];exact List.Pairwise.map _ (fun a b (hab:a≠b) hc=>hab (by cases hc;rfl)) this
       have hi2:i<(es.toList.map (·.key)).length:=by rw[List.length_map];exact hil
       have hj2:j<(es.toList.map (·.key)).length:=by rw[List.length_map];exact hjl
       have:(es.toList.map (·.key))[i]=(es.toList.map (·.key))[j]:=by
        rw[List.getElem_map,List.getElem_map,hxi,hxn,e1]
        have:=(List.getElem?_eq_some_iff.1 h2).2
        rw[this,h3]
       exact hne ((List.getElem_inj hnd).1 this).symm
      rcases s2 _ hd' with h4|⟨h4,_⟩
      ·cases h4;exact absurd rfl hne2
      ·exact(hr x hxm n' d' hxn h4).mono (fun b hb=>(hok' b hb).1) (fun b hb=>(hok' b hb).2)
end
end Go.Mx
namespace Go.Mx
open Go Go.Dx
def boxS(tb nt:Nat):St:={ env:=[(0,.i .u32 (.v 0)),(1,.x 1),(2,.oa 0 0)],vars:=[(1,⟨.set tb,.v 1⟩),(2,⟨.own tb,.v 2⟩)],objs:=[(0,[.x 2])],loops:=[],obl:=[],lvl:=3,nx:=3,nt:=nt }
noncomputable def boxOut(tb:Nat)(de:DE)(os:List Ob):List Out->Bool
 | [o]=>zEF [o]&&o.pc.isEmpty&&qUC o.st.obl os&&(match lk 0 o.st.objs with
  | some [.x m]=>(match lk m o.st.vars with
   | some ⟨.own t,d⟩=>decide (t=tb)&&d.beq de
   | _=>false)
  | _=>false)
 | _=>false
noncomputable def boxRun(C:Cfg)(tb f:Nat)(de:DE)(os:List Ob):Bool :=
 match C.P.funcs[f]? with
 | some fn=>match fn.body with
  | some body=>fn.results.isEmpty&&decide (3<=fn.ntmps)&&(match exec C 100000 8 [body] (boxS tb fn.ntmps) with
   | some outs=>boxOut tb de os outs
   | none=>false)
  | none=>false
 | none=>false
section
variable {C:Cfg} {ok:Nat->Prop} {w:World} {tb f B ty:Nat} {key:Int} {v vv:Value} {dv acc:D} {de:DE} {os:List Ob}
theorem box_mem{nt:Nat}(hnt:3<=nt)(hB:w.heap[B]? = some (.cells #[v] ty (0,0)))(hown:yVA C.P ok w tb v acc)(hval:Rep C.P ok w tb vv dv)(hkey:(Lit.int .u32 key).wf=true)(hone:v.oneCell'=true)
  (hok:∀b,ok b->b<w.heap.size/\b≠B/\v.ownBlock≠some b) (hvB:v.ownBlock≠some B) :
  Mem C.P X ⟨w,fun b=>b=B∨v.ownBlock=some b,fun b=>b<w.heap.size /\ ¬ok b /\ ¬(b=B∨v.ownBlock=some b)⟩ [.int key,dv,acc] (boxS tb nt) { rv:=fun i=>if i=1 then vv else v,rb:=fun _=>B,rh:=fun _=>(0,0),ex:=fun b=>b<w.heap.size /\ ¬ok b /\ ¬(b=B∨v.ownBlock=some b) } w /\
   Env X [.int key,dv,acc] (boxS tb nt) { rv:=fun i=>if i=1 then vv else v,rb:=fun _=>B,rh:=fun _=>(0,0),ex:=fun b=>b<w.heap.size /\ ¬ok b /\ ¬(b=B∨v.ownBlock=some b) } { tmps:=#[.int .u32 key,vv,.pointer (some ⟨B,0,none⟩)]++Array.replicate (nt-3) undef,defers:=[] }:=by
 have hvars:∀n vi,lk n (boxS tb nt).vars=some vi->(n=1/\vi=⟨.set tb,.v 1⟩)∨(n=2/\vi=⟨.own tb,.v 2⟩):=fun n vi hn=>by
  simp only[boxS,lk] at hn;split at hn
  ·rename_i h;rw[beq_iff_eq] at h;cases hn;exact .inl ⟨h,rfl⟩
  ·split at hn
   ·rename_i h;rw[beq_iff_eq] at h;cases hn;exact .inr ⟨h,rfl⟩
   ·cases hn
 have hobjs:∀o cs,lk o (boxS tb nt).objs=some cs->o=0/\cs=[.x 2]:=fun o cs ho=>by
  simp only[boxS,lk] at ho;split at ho
  ·rename_i h;rw[beq_iff_eq] at h;cases ho;exact⟨h,rfl⟩
  ·cases ho
 have hact:∀b,Actv (boxS tb nt) { rv:=fun i=>if i=1 then vv else v,rb:=fun _=>B,rh:=fun _=>(0,0),ex:=fun b=>b<w.heap.size /\ ¬ok b /\ ¬(b=B∨v.ownBlock=some b) } b->b=B∨v.ownBlock=some b:=by
  rintro b (⟨o,cs,h1,h2⟩|⟨n,vi,h1,h2⟩)
  ·exact .inl h2.symm
  ·rcases hvars n vi h1 with⟨rfl,rfl⟩|⟨rfl,rfl⟩
   ·simp[zIA] at h2
   ·exact .inr h2
 have hokS:∀b,ok b->okOf (boxS tb nt) { rv:=fun i=>if i=1 then vv else v,rb:=fun _=>B,rh:=fun _=>(0,0),ex:=fun b=>b<w.heap.size /\ ¬ok b /\ ¬(b=B∨v.ownBlock=some b) } w b:=fun b hb=>by
  obtain⟨h1,h2,h3⟩:=hok b hb;exact⟨h1,fun e=>by rcases hact b e with h|h;exact h2 h;exact h3 h,fun e=>e.2.1 hb⟩
 refine⟨⟨fun n vi hn=>?_,fun o cs ho=>?_,fun o o' c c' h1 h2 _=>by rw[(hobjs o c h1).1,(hobjs o' c' h2).1],fun n m vi vj b h1 h2 h3 h4=>?_,fun o n c vi h1 h2 h3=>?_,fun b hb=>.inr (hact b hb),fun l hl=>by simp[boxS] at hl,Fr.refl _ w,rfl,⟨fun b hb=>⟨hb.1,hb.2.2⟩,fun b hb=>hb⟩⟩,⟨fun s sv hs=>?_,rfl,by simp[boxS];omega⟩⟩
 ·rcases hvars n vi hn with⟨rfl,rfl⟩|⟨rfl,rfl⟩
  ·exact hval.mono hokS (fun _ _=>rfl)
  ·exact hown.mono hokS (fun _ _=>rfl) (fun _ _=>rfl)
 ·obtain⟨rfl,rfl⟩:=hobjs o cs ho;exact⟨⟨ty,hB⟩,fun u hu=>by simp[dens,SV.den] at hu;subst hu;exact hone,trivial,trivial⟩
 ·rcases hvars n vi h1 with⟨rfl,rfl⟩|⟨rfl,rfl⟩
  ·simp[zIA] at h3
  ·rcases hvars m vj h2 with⟨rfl,rfl⟩|⟨rfl,rfl⟩
   ·simp[zIA] at h4
   ·rfl
 ·rcases hvars n vi h2 with⟨rfl,rfl⟩|⟨rfl,rfl⟩
  ·simp[zIA] at h3
  ·exact hvB h3
 ·simp only[boxS,lk] at hs;split at hs
  ·rename_i h;rw[beq_iff_eq] at h;cases hs;subst h
   exact⟨(Array.getElem?_append_left (by simp)).trans rfl,key,rfl,hkey⟩
  ·split at hs
   ·rename_i h;rw[beq_iff_eq] at h;cases hs;subst h
    exact⟨(Array.getElem?_append_left (by simp)).trans rfl,trivial⟩
   ·split at hs
    ·rename_i h;rw[beq_iff_eq] at h;cases hs;subst h
     exact⟨(Array.getElem?_append_left (by simp)).trans rfl,trivial⟩
    ·cases hs
theorem box_calls(hnm:xNA C.P)(hord:C.P.follows .mixedOrders=true)(hctr:∀f c,C.ctr f=some c->zMB C.P X side f c)(hrun:boxRun C tb f de os=true)(h8:isBy C.P tb=true)
  (hB:w.heap[B]? = some (.cells #[v] ty (0,0))) (hown:yVA C.P ok w tb v acc) (hval:Rep C.P ok w tb vv dv) (hkey:(Lit.int .u32 key).wf=true)
  (hok:∀b,ok b->b<w.heap.size/\b≠B/\v.ownBlock≠some b) (hvB:v.ownBlock≠some B) (hob:zCA X side os [.int key,dv,acc]) :
  Calls C.P f #[.int .u32 key,vv,.pointer (some ⟨B,0,none⟩)] w fun e w'=>e = .returned (.tuple #[])/\Fr (fun b=>b=B∨v.ownBlock=some b) w w' /\
   ∃v' ty',w'.heap[B]? = some (.cells #[v'] ty' (0,0))/\v'.ownBlock≠some B/\(∀b,v'.ownBlock=some b->b<w'.heap.size/\(w.heap.size<=b∨v.ownBlock=some b)) /\ ∀ok',yVA C.P ok' w' tb v' (de.eval X [.int key,dv,acc]):=by
 unfold boxRun at hrun;split at hrun
 rotate_left
 ·cases hrun
 rename_i fn hf;split at hrun
 rotate_left
 ·cases hrun
 rename_i body hbody;simp only[Bool.and_eq_true,decide_eq_true_eq] at hrun;obtain⟨⟨hres,hnt⟩,hrun⟩:=hrun;split at hrun
 rotate_left
 ·cases hrun
 rename_i outs houts;unfold boxOut at hrun;split at hrun
 rotate_left
 ·cases hrun
 rename_i o;simp only[Bool.and_eq_true] at hrun;obtain⟨⟨⟨hret,hpc⟩,hobl⟩,hfin⟩:=hrun;have hpc:o.pc=[]:=by simpa using hpc
 have hobl:=qCB hobl;split at hfin
 rotate_left
 ·cases hfin
 rename_i m hobj;split at hfin
 rotate_left
 ·cases hfin
 rename_i t d hvar;simp only[Bool.and_eq_true,decide_eq_true_eq] at hfin;obtain⟨rfl,hd⟩:=hfin;have hd:=DE.beq_eq hd;subst hd;have hone:v.oneCell'=true:=by
  obtain⟨e,i,n,xs,hu,hi,⟨_,hr⟩,_⟩:=hown;rcases hr with⟨rfl,_⟩|⟨b,cap,cur,rfl,_⟩ <;> rfl
 obtain⟨hm,he⟩:=box_mem (C:=C) hnt hB hown hval hkey hone hok hvB;have hsound:=yYE hnm hord hctr 100000 8;refine calls_of_wp hf hbody (zYA ?_);refine hsound.sound _ _ [body] _ [o] _ w _ hm he houts (fun o' ho' _=>?_) _ (fun o' ho' _ g' w' a' k1 k2 k3=>?_)
 ·rw[List.mem_singleton] at ho';subst ho'
  rw[hobl];exact hob
 ·rw[List.mem_singleton] at ho';subst ho'
  have hfr:Fr (fun b=>b=B∨v.ownBlock=some b) w w':=k2.fr;have hobO:=k2.ob 0 _ hobj;obtain⟨⟨ty',hcell⟩,_,_⟩:=hobO;have hrb:g'.rb 0=B:=(k1.rb 0 _ rfl).2;rw[hrb] at hcell;have hownv:yVA C.P (okOf o'.st g' w') w' t (g'.rv m) (d.eval X [.int key,dv,acc]):=k2.va m _ hvar;obtain⟨e,hu,hue⟩:=yFI h8;have hou:∀ok',yVA C.P ok' w' t (g'.rv m) (d.eval X [.int key,dv,acc]):=fun ok'=>hownv.u8 hu (by simp[isU8,hue])
  have hres0:fn.results = #[]:=by simpa using hres
  have hrun:(results fn a'.tmps).run C.P w' = .ok (.tuple #[]) w':=by
   simp[results,hres0]
  have hpost:a'.defers=[] /\ ∃v1,(results fn a'.tmps).run C.P w' = .ok v1 w'/\(Ending.returned v1 = .returned (.tuple #[])/\Fr (fun b=>b=B∨v.ownBlock=some b) w w' /\
    ∃v' ty',w'.heap[B]? = some (.cells #[v'] ty' (0,0))/\v'.ownBlock≠some B/\(∀b,v'.ownBlock=some b->b<w'.heap.size/\(w.heap.size<=b∨v.ownBlock=some b)) /\ ∀ok',yVA C.P ok' w' t v' (d.eval X [.int key,dv,acc])):=by
   refine⟨k3.df,_,hrun,rfl,hfr,g'.rv m,ty',hcell,?_,fun b hb=>?_,hou⟩
   ·intro e1;exact k2.ov 0 m _ _ hobj hvar (by rw[hrb];exact e1)
   ·have hA:Actv o'.st g' b:=.inr ⟨m,_,hvar,hb⟩;refine⟨k2.act_lt hA,?_⟩;rcases k2.lo b hA with h|h
    ·exact .inl h
    ·rcases h with rfl|h
     ·exact absurd hb (fun e1=>k2.ov 0 m _ _ hobj hvar (by rw[hrb];exact e1))
     ·exact .inr h
  rcases zED hret o' (by simp) with hx|hx
  ·rw[hx];exact hpost
  ·rw[hx];exact hpost
end
end Go.Mx
namespace Go.Mx
open Go Go.Dx
def zIK(v:Value):Option (DataW Value×List MemPlace):=some (.held v,[])
section
variable {P:Program} {ok:Nat->Prop} {w:World} {m k e r:Nat} {ds:List (Int×D)}
theorem ySL:∀(l:List Int) (lo hi:Int),l.Pairwise (· < ·)->(∀x∈l,lo<=x/\x<hi)->lo<=hi->(l.length:Int)<=hi-lo
 | [],lo,hi,_,_,h=>by simp;omega
 | x::l,lo,hi,hp,hb,h=>by
  obtain⟨h1,h2⟩:=List.pairwise_cons.1 hp;have hx:=hb x (by simp)
  have:=ySL l (x+1) hi h2 (fun y hy=>⟨by have:=h1 y hy;omega,(hb y (by simp[hy])).2⟩) (by omega)
  simp only[List.length_cons];omega
theorem tags_few(hs:(ds.map (·.1)).Pairwise (· < ·))(hw:∀d∈ds,(Lit.int .u32 d.1).wf=true):ds.length<=4294967296:=by
 have:=ySL (ds.map (·.1)) 0 4294967296 hs (fun x hx=>by
  obtain⟨d,hd,rfl⟩:=List.mem_map.1 hx
  have:=hw d hd
  simp[Lit.wf,IntKind.min,IntKind.max,IntKind.signed,IntKind.bits] at this;omega) (by omega)
 rw[List.length_map] at this;omega
theorem zQK(h:TagsAt P ok w m (.map (some r)) (.map ds)):(ds.map (·.1)).Pairwise (· < ·)/\(∀d∈ds,(Lit.int .u32 d.1).wf=true)/\ds.length<=4294967296:=by
 cases h with
 | map hu hk hh hkeys hkw hs hborn hclock hr=>exact⟨hs,hkw,tags_few hs hkw⟩
theorem tags_owns(h:TagsAt P ok w m (.map (some r)) (.map ds))(hm:P.underlying m=some (.map k e)):∃D:DataW Value,w.ownsMap P k zIK r ds.length D/\Maps.size D=ds.length /\ ∀x,x∈ds.map (·.1)↔Maps.has D (.int .u32 x)=true:=by
 obtain⟨_,_,hfew⟩:=zQK h;cases h with
 | map hu hk hh hkeys hkw hs hborn hclock hr =>
  rw[hm] at hu;cases hu
  rename_i clock es;have hsz:es.size=ds.length:=by
   have:=hkeys.length_eq
   simpa using this
  have hkr:=yGF hk hkeys hkw;have hnd:(es.toList.map (·.key)).Nodup:=by
   refine hkeys.nodup_iff.2 ?_
   have:(ds.map (·.1)).Nodup:=hs.imp (fun {a b} h=>by omega)
   have e1:(ds.map fun d=>Value.int .u32 d.1)=(ds.map (·.1)).map (fun i=>Value.int .u32 i):=by rw[List.map_map];rfl
   rw[e1];exact List.Pairwise.map _ (fun a b (hab:a≠b) hc=>hab (by cases hc;rfl)) this
  have hrd:∀x∈es.toList,∀d,x.key = .int .u32 d->(Lit.int .u32 d).wf=true->WideElems.rd P k zIK x=some (.int .u32 d,.held x.val):=fun x hx d hd hw=>by
   have:keyOf P k x.key=some (.int .u32 d):=by rw[hd];exact Maps.keyOf_int_mk hk hw
   simp[WideElems.rd,this,zIK]
  have F:WideElems.Fit P k zIK es clock:=by
   refine⟨by rw[hsz];unfold maxLen;omega,(MapKept.stamped_iff es clock).2 ⟨hclock,hborn,List.pairwise_map.1 hnd⟩,fun x hx=>?_⟩;obtain⟨d,hd,he,_⟩:=hkr x hx;exact⟨_,hrd x hx d.1 he (hkw d hd)⟩
  refine⟨_,⟨es,clock,hh,F,by rw[hsz];exact Nat.le_refl _,rfl⟩,by simp[Maps.size,length_sorted,hsz],fun x=>?_⟩;have hrg:∀y∈es.toList,∀d,y.key = .int .u32 d->(Lit.int .u32 d).wf=true->(WideElems.rg P k zIK y).1 = .int .u32 d:=fun y hy d hd hw=>by
   rw[WideElems.rg_of (hrd y hy d hd hw)]
  rw[Maps.has_eq,List.any_eq_true];constructor
  ·intro hx;obtain⟨d,hd,rfl⟩:=List.mem_map.1 hx
   have:Value.int .u32 d.1∈es.toList.map (·.key):=hkeys.symm.subset (List.mem_map.2 ⟨d,hd,rfl⟩)
   obtain⟨y,hy,hye⟩:=List.mem_map.1 this;refine⟨WideElems.rg P k zIK y,mem_sorted.2 (List.mem_map.2 ⟨y,hy,rfl⟩),?_⟩;rw[hrg y hy d.1 hye (hkw d hd)];exact WideAt.sameKey_self trivial
  ·rintro⟨p,hp,hpk⟩;obtain⟨y,hy,rfl⟩:=List.mem_map.1 (mem_sorted.1 hp);obtain⟨d,hd,he,_⟩:=hkr y hy;rw[hrg y hy d.1 he (hkw d hd)] at hpk
   have:=WideAt.sameKey_eq hpk
   cases this;exact List.mem_map.2 ⟨d,hd,rfl⟩
theorem tags_lookup{n:Int}{d:D}(h:TagsAt P ok w m (.map (some r)) (.map ds))(hm:P.underlying m=some (.map k e))(hn:(n,d)∈ds) :
  ∃v,Rep P ok w e v d /\ ∀w':World,w'.heap[r]? = w.heap[r]? -> (Instr.lookup m (.map (some r)) (.int .u32 n) false).run P w' = .ok v w':=by
 cases h with
 | map hu hk hh hkeys hkw hs hborn hclock hr =>
  rw[hm] at hu;cases hu
  rename_i clock es;have K:=Maps.int_keyed hk;have hkey:=Maps.keyOf_int_mk hk (hkw _ hn);have hkr:=yGF hk hkeys hkw;have hmem:Value.int .u32 n∈es.toList.map (·.key):=hkeys.symm.subset (List.mem_map.2 ⟨(n,d),hn,rfl⟩);obtain⟨y,hy,hye⟩:=List.mem_map.1 hmem;have hfind:=fun w'=>K.find w' hkey es.toList (fun x hx=>by obtain⟨d,_,_,h⟩:=hkr x hx;exact⟨_,h⟩)
  refine⟨y.val,hr y hy n d hye hn,fun w' hw'=>?_⟩;rcases hfind w' with⟨_,h2⟩|⟨j,e0,h1,h2,h3⟩
  ·exact absurd hye (h2 y hy)
  ·have hnd:(es.toList.map (·.key)).Nodup:=by
    refine hkeys.nodup_iff.2 ?_
    have:(ds.map (·.1)).Nodup:=hs.imp (fun {a b} h=>by omega)
    have e1:(ds.map fun d=>Value.int .u32 d.1)=(ds.map (·.1)).map (fun i=>Value.int .u32 i):=by rw[List.map_map];rfl
    rw[e1];exact List.Pairwise.map _ (fun a b (hab:a≠b) hc=>hab (by cases hc;rfl)) this
   have hje:y=e0:=by
    obtain⟨i,hi,hyi⟩:=List.mem_iff_getElem.1 hy;have hj:=(List.getElem?_eq_some_iff.1 h2).1;have hje0:=(List.getElem?_eq_some_iff.1 h2).2
    have:(es.toList.map (·.key))[i]'(by rw[List.length_map];exact hi)=(es.toList.map (·.key))[j]'(by rw[List.length_map];exact hj):=by
     rw[List.getElem_map,List.getElem_map,hyi,hje0,hye,h3]
    have hij:=(List.getElem_inj hnd).1 this;subst hij;rw[<- hyi,<- hje0]
   subst hje;simp[Instr.lookup,run_underlying hm,Go.MapKept.run_getObj_map (hw'.trans hh),K.check w' _ hkey,h1,Result.andThen]
end
def de84:DE:=.f .app [.f (.ext 10) [.f (.ext 10) [.v 2,.v 0],.f (.wrap .u32) [.f .len [.v 1]]],.v 1]
def os84:List Ob:=[.room de84 1,.pre 10 [.f (.ext 10) [.v 2,.v 0],.f (.wrap .u32) [.f .len [.v 1]]],.pre 10 [.v 2,.v 0]]
def tb(y:Int×D):List UInt8:=tagB y.1.toNat y.2.asStr
theorem ev84{key:Int}{val:Option (List UInt8)}{acc:D}(h0:0<=key)(hl:(val.getD []).length<4294967296)(hlen:acc.asStr.length+(tagB key.toNat (val.getD [])).length<=lim) :
  zCA X side os84 [.int key,encB val,acc]/\de84.eval X [.int key,encB val,acc]=appD acc (tb (key,encB val)):=by
 have e1:(DE.f (.ext 10) [.v 2,.v 0]).eval X [.int key,encB val,acc]=app acc (zDA key.toNat):=by
  simp only[ev_f,zAA,zBA,ev_v,List.getD_cons_zero,List.getD_cons_succ,zGA,X_10,zKA]
 have e2:(DE.f (.wrap .u32) [.f .len [.v 1]]).eval X [.int key,encB val,acc] = .int ((val.getD []).length:Nat):=by
  simp only[ev_f,zAA,zBA,ev_v,List.getD_cons_zero,List.getD_cons_succ,zTA,zOA,yHA];rw[xEB (by omega) (by omega)]
 have e3:(DE.f (.ext 10) [.f (.ext 10) [.v 2,.v 0],.f (.wrap .u32) [.f .len [.v 1]]]).eval X [.int key,encB val,acc]=app acc (zDA key.toNat++zDA (val.getD []).length):=by
  rw[ev_f,zAA,zAA,zBA,e1,e2,zGA,X_10,zKA,Int.toNat_natCast];simp[app,D.asStr]
 have e4:de84.eval X [.int key,encB val,acc]=appD acc (tb (key,encB val)):=by
  rw[de84,ev_f,zAA,zAA,zBA,e3,ev_v,List.getD_cons_succ,List.getD_cons_zero,yUA,app_b,tb,yTA,tagB];exact xEA (qAA (qAA qRC))
 have hpos:0<(tagB key.toNat (val.getD [])).length:=by rw[tagB];exact qAA (qAA qRC)
 have hd:(de84.eval X [.int key,encB val,acc]).len<=lim:=by
  rw[e4,tb,yTA,xDG _ hpos];exact hlen
 rw[tagB,List.length_append,List.length_append] at hlen;refine⟨⟨?_,?_,?_,trivial⟩,e4⟩
 ·exact xBB hd
 ·simp only[Ob.holds];rw[zAA,zAA,zBA,e1,e2,qYG,X_10,xEG,zKA,Int.toNat_natCast]
  have:(app acc (zDA key.toNat)).asStr=acc.asStr++zDA key.toNat:=rfl
  rw[this,List.length_append];omega
 ·simp only[Ob.holds,zAA,zBA,ev_v,List.getD_cons_zero,List.getD_cons_succ];rw[qYG,X_10,xEG,zKA];omega
theorem X_25'(m o:D):X 25 [m,o]=appD o ((mapL m).map tb).flatten:=by
 rw[X_25];cases hm:mapL m with
 | nil=>rfl
 | cons a l =>
  rw[if_neg (by simp)];refine xEA ?_;rw[List.map_cons,List.flatten_cons];refine qAA ?_;show 0<(tagB a.1.toNat a.2.asStr).length;rw[tagB];exact qAA (qAA qRC)
end Go.Mx
namespace Go.Mx
open Go Go.Dx
theorem rep_agg0{P:Program}{ok:Nat->Prop}{w:World}{t:TypeId}{v:Value}{d:D}(ha:agg P t=true)(ht:tys P t=[])(h:Rep P ok w t v d):v = .agg #[]:=by
 obtain⟨ds,rfl,_,_⟩:=xHF ha h;cases h with
 | row hu hd hlen hlen' h1 hr =>
  rename_i dd vs;rw[ht] at hlen
  have:vs=[]:=List.length_eq_zero_iff.1 hlen
  subst this;rfl
theorem hand87{P:Program}{ρ:Go.Shelf.Ren}(L:Go.Proofs.LaysBin.n39 P ρ){f:FuncId}{te tb t32 e:TypeId}(hf:ρ.f 39=f)(hb:xYG P f=true)(ha:agg P te=true)(ht:tys P te=[])(hub:P.underlying tb=some (.slice e))(he:P.underlying e=some (.int .u8))(h32:P.underlying t32=some (.int .u32)) :
  zMB P X side f ⟨[.val te,.val tb],.val t32,87,true⟩:=by
 refine⟨zOG hb,fun ok w vs ds hA hok hRd hp=>?_⟩;obtain @⟨⟩ | @⟨_,v1,d1,_,_,_,h1,hA⟩:=hA;obtain @⟨⟩ | @⟨_,v2,d2,_,_,_,h2,hA⟩:=hA;cases hA;cases h1 with
 | val h1 =>
 cases h2 with
 | val h2 =>
 obtain⟨b,hbd,hl⟩:∃b,d2 = .bytes b/\4<=b.length:=hp rfl;subst hbd;have hv1:=rep_agg0 ha ht h1;subst hv1;obtain⟨b0,b1,b2,b3,r,rfl⟩:=len4 hl;have hB:=h2.bytesAt hub he;cases hB with
 | some hsp hcl hcap hmax =>
  rename_i ad cap;have hs:ad.spot=none:=hsp (by simp only[List.length_cons] at hcap;omega);obtain⟨g,o,sp⟩:=ad;simp only at hs;subst hs;have hc:∀(j:Nat) (x:UInt8),(b0::b1::b2::b3::r)[j]? = some x->w.cell? ⟨g,o+j,none⟩=some (.int .u8 (x.toNat:Int)):=fun j x hx=>hcl j _ (by rw[List.getElem?_map,hx];rfl)
  subst hf;refine(Go.Proofs.Any.binary_BE_Uint32 L g o _ cap b0 b1 b2 b3 w (by simp only[List.length_cons];omega) (hc 0 _ rfl) (hc 1 _ rfl) (hc 2 _ rfl) (hc 3 _ rfl)).mono fun e' w' he'=>?_
  obtain⟨rfl,hbl⟩:=he';refine⟨_,rfl,⟨hbl.os,hbl.tape,hbl.output,hbl.size,fun k hk _=>hbl.block k hk⟩,fun ok' _ _=>?_⟩;have e1:Go.Lib.beNat [b0,b1,b2,b3]=beN [b0,b1,b2,b3]:=by
   simp[Go.Lib.beNat,Go.Lib.beFrom,beN]
  have hlt:beN [b0,b1,b2,b3]<256 ^ 4:=yQK _;show Rep P ok' w' t32 _ (X 87 [d1,.bytes (b0::b1::b2::b3::r)]);rw[X_87,yDA,e1];refine .int h32 (xHC ?_);simp[IntKind.min,IntKind.max,IntKind.signed,IntKind.bits];omega
end Go.Mx
