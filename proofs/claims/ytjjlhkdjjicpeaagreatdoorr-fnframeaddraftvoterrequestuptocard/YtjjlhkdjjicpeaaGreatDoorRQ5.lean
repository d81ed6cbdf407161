/- Part of a verified symbolic run of the program's code (no condition of its own). -/
import Derived.Test.YtjjlhkdjjicpeaaGreatDoorRQ4
import Derived.ChangeArms
import Derived.ChangeShapes
import Derived.Maps.RangeWalk
import Derived.Maps.OwnSet
import Derived.WalkKit
set_option linter.unusedVariables false
set_option linter.unusedSimpArgs false
namespace Go.Mx
open Go Go.Dx
section
variable {Y:Nat->List D->D}
theorem fe_shl(k:IntKind)(a b:Int):Fn.eval Y (.shl k) [.int a,.int b] = .int (shlI a b k):=rfl
theorem feR_bor(k:IntKind)(a b:Int):Fn.eval Y (.bor k) [.int a,.int b] = .int (k.wrap (BitVec.ofInt k.bits a ||| BitVec.ofInt k.bits b).toNat):=rfl
theorem xMC(a:D)(i:Int):Fn.eval Y .drop [a,.int i]=a.dropD i.toNat:=rfl
theorem qIE(a:D):Fn.eval Y .toStr [a] = .str a.asStr:=rfl
theorem qKI(a:D):Fn.eval Y .mkptr [a] = .ptr a:=rfl
end
def uns:IntKind->Bool
 | .u8 | .u16 | .u32 | .u64=>true
 | _=>false
theorem yGC{k:IntKind}(h:uns k=true){n:Nat}(hn:n<2 ^ k.bits):k.wrap (n:Int)=n:=by
 cases k <;> simp[uns] at h
 ·rw[IntKind.wrap_u8];simp[IntKind.bits] at hn;omega
 ·rw[IntKind.wrap_u16];simp[IntKind.bits] at hn;omega
 ·rw[IntKind.wrap_u32];simp[IntKind.bits] at hn;omega
 ·rw[IntKind.wrap_u64];simp[IntKind.bits] at hn;omega
theorem qIH{Y:Nat->List D->D}{k:IntKind}(hk:uns k=true)(a b i:Nat)(hb:b<2 ^ i)(h:a*2 ^ i+b<2 ^ k.bits):Fn.eval Y (.bor k) [.int (b:Nat),.int ((a*2 ^ i:Nat):Int)] = .int ((a*2 ^ i+b:Nat):Int):=by
 rw[feR_bor];have e:(BitVec.ofInt k.bits (b:Nat) ||| BitVec.ofInt k.bits ((a*2 ^ i:Nat):Int)).toNat=a*2 ^ i+b:=by
  rw[BitVec.toNat_or,BitVec.ofInt_natCast,BitVec.ofInt_natCast,BitVec.toNat_ofNat,BitVec.toNat_ofNat,Nat.mod_eq_of_lt (by omega),Nat.mod_eq_of_lt (by omega)]
  have:=Nat.shiftLeft_add_eq_or_of_lt hb a
  rw[Nat.shiftLeft_eq] at this;rw[this,Nat.or_comm]
 rw[e,yGC hk h]
theorem yVI{Y:Nat->List D->D}{k:IntKind}(hk:uns k=true)(a i:Nat)(hi:i<=k.bits)(h:a*2 ^ i<2 ^ k.bits):Fn.eval Y (.shl k) [.int (a:Nat),.int (i:Nat)] = .int ((a*2 ^ i:Nat):Int):=by
 rw[fe_shl];unfold shlI
 have:min (i:Int).toNat k.bits=i:=by simp;omega
 rw[this];have e:(a:Int)*2 ^ i=((a*2 ^ i:Nat):Int):=by push_cast;rfl
 rw[e,yGC hk h]
theorem beN_fold(s:List UInt8):∀n:Nat,s.foldl (fun a b=>a*256+b.toNat) n=n*256 ^ s.length+beN s:=by
 unfold beN
 induction s with
 | nil=>intro n;simp
 | cons b s ih =>
  intro n;rw[List.foldl,List.foldl,ih,ih (0*256+b.toNat),List.length_cons,Nat.pow_succ];simp only[Nat.add_mul,Nat.zero_mul,Nat.zero_add,Nat.mul_assoc,Nat.mul_comm 256];omega
theorem beN_app(a b:List UInt8):beN (a++b)=beN a*256 ^ b.length+beN b:=by
 have:beN (a++b)=b.foldl (fun a b=>a*256+b.toNat) (beN a):=by unfold beN;rw[List.foldl_append]
 rw[this,beN_fold]
theorem xUI(b:UInt8)(s:List UInt8):beN (b::s)=b.toNat*256 ^ s.length+beN s:=by
 have:=beN_app [b] s
 simpa[beN] using this
theorem xVI:∀s:List UInt8,beN s<256 ^ s.length
 | []=>by simp[beN]
 | b::s=>by
  have h1:=xVI s;have h2:=b.toNat_lt;rw[xUI,List.length_cons,Nat.pow_succ,Nat.mul_comm (256 ^ s.length) 256];have h3:(b.toNat+1)*256 ^ s.length<=256*256 ^ s.length:=Nat.mul_le_mul_right _ (by omega);rw[Nat.add_mul,Nat.one_mul] at h3;omega
theorem yPJ(n:Int)(k:Nat):zHA n (k+1)=xYA n k::zHA n k:=by
 unfold zHA;rw[List.range_succ,List.reverse_append];rfl
theorem mod_step(n p:Int)(hp:0<p):(n / p%256)*p+n%p=n%(p*256):=by
 have h8:n / (p*256)=n / p / 256:=by rw[Int.ediv_ediv,if_neg (by omega),Int.sub_zero]
 rw[Int.emod_def n (p*256),Int.emod_def n p,Int.emod_def (n / p) 256,h8,Int.sub_mul,Int.mul_assoc,Int.mul_comm (n / p) p]
 have:(256:Int)*(n / p / 256*p)=p*256*(n / p / 256):=by
  rw[Int.mul_comm (n / p / 256) p,<- Int.mul_assoc,Int.mul_comm 256 p]
 omega
theorem qSG(n:Int):∀k:Nat,(beN (zHA n k):Int)=n%2 ^ (8*k)
 | 0=>by
  show ((0:Nat):Int)=n%1;omega
 | k+1=>by
  have ih:=qSG n k;rw[yPJ,xUI,zQA,Int.natCast_add,Int.natCast_mul,ih];have hb:((xYA n k).toNat:Int)=(n.fdiv (2 ^ (8*k)))%256:=by
   unfold xYA;rw[IntKind.wrap_u8];have h0:0<=(n.fdiv (2 ^ (8*k)))%256:=Int.emod_nonneg _ (by decide);have h2:(n.fdiv (2 ^ (8*k)))%256<256:=Int.emod_lt_of_pos _ (by decide);rw[UInt8.toNat_ofNat'];omega
  have hp:(0:Int)<2 ^ (8*k):=Int.pow_pos (by decide);have e256:((256 ^ k:Nat):Int)=2 ^ (8*k):=by
   rw[Int.pow_mul,Int.natCast_pow];rfl
  have e4:(2:Int) ^ (8*(k+1))=2 ^ (8*k)*256:=by
   rw[show 8*(k+1)=8*k+8 by omega,Int.pow_add];rfl
  rw[hb,e256,e4,Int.fdiv_eq_ediv_of_nonneg _ (Int.le_of_lt hp)];exact mod_step n _ hp
end Go.Mx
namespace Go.Mx
open Go Go.Dx
theorem yAJ{A:Type}(a b:List A){n:Nat}(h:a.length=n):(a++b).take n=a:=by subst h;simp
theorem qDI{A:Type}(a b:List A){n:Nat}(h:a.length=n):(a++b).drop n=b:=by subst h;simp
theorem wrap_mod(k:IntKind)(z:Int):k.wrap (z%2 ^ k.bits)=k.wrap z:=by
 unfold IntKind.wrap;rw[Int.emod_emod]
theorem yCC(k:IntKind)(n:Nat)(hk:k.bits=8*n)(z:Int)(r:List UInt8):rI k n (zHA z n++r)=(k.wrap z,r):=by
 unfold rI;rw[yAJ _ _ (zQA z n),qDI _ _ (zQA z n),qSG,<- hk,wrap_mod]
theorem xJI(n:Nat)(r:List UInt8):uvD (zDA n++r)=(n,(zDA n).length):=by
 induction n using Nat.strongRecOn with
 | ind n ih =>
  rw[zDA];by_cases h:127<n
  ·rw[if_pos h];simp only[List.cons_append,uvD,List.length_cons];have e:(UInt8.ofNat (n%128+128)).toNat=n%128+128:=by rw[UInt8.toNat_ofNat'];omega
   rw[e,if_neg (by omega),ih (n / 128) (by omega)];simp only[Prod.mk.injEq,and_true];omega
  ·rw[if_neg h];have e:(UInt8.ofNat n).toNat=n:=by rw[UInt8.toNat_ofNat'];omega
   simp only[List.cons_append,uvD,e,List.length_cons,List.length_nil];rw[if_pos (by omega)]
theorem xUA(n:Nat)(r:List UInt8):rUv (zDA n++r)=(n,r):=by
 unfold rUv;rw[xJI]
 simp
theorem yRF(v r:List UInt8):rSp v.length (v++r)=(v,r):=by simp[rSp]
theorem wrap_i16(n:Int):IntKind.i16.wrap n=(n+32768)%65536-32768:=by
 simp[IntKind.wrap,IntKind.bits,IntKind.signed];split <;> omega
theorem qQB{n:Nat}(h:n<=Most):IntKind.i16.wrap (n:Int)=n:=by simp only[Most] at h;rw[wrap_i16];omega
theorem xLB{n:Nat}(h:n<=Most):IntKind.i32.wrap (n:Int)=n:=by simp only[Most] at h;rw[IntKind.wrap_i32];omega
theorem rI16(z:Int)(r:List UInt8):rI .i16 2 (zHA z 2++r)=(IntKind.i16.wrap z,r):=yCC _ _ (by decide) z r
theorem rI32(z:Int)(r:List UInt8):rI .i32 4 (zHA z 4++r)=(IntKind.i32.wrap z,r):=yCC _ _ (by decide) z r
theorem xSG{v:List UInt8}(r:List UInt8)(h:v.length<=Most):rStr (zHA (v.length:Nat) 2++(v++r))=(v,r):=by
 unfold rStr;rw[rI16,qQB h,Int.toNat_natCast,yRF]
theorem yDD(v r:List UInt8):xID (zDA (v.length+1)++(v++r))=(v,r):=by
 unfold xID;rw[xUA,Nat.add_sub_cancel,yRF]
theorem yHI{v:List UInt8}(r:List UInt8)(h:v.length<=Most):rB4 (zHA (v.length:Nat) 4++(v++r))=(v,r):=by
 unfold rB4;rw[rI32,xLB h,Int.toNat_natCast,yRF]
theorem zUG(r:List UInt8):qEE (zHA (-1) 2++r)=(none,r):=by
 unfold qEE;rw[rI16];rfl
theorem zVG{v:List UInt8}(r:List UInt8)(h:v.length<=Most):qEE (zHA (v.length:Nat) 2++(v++r))=(some v,r):=by
 unfold qEE;rw[xSG r h,rI16,qQB h,if_neg (by omega)]
theorem yMH(r:List UInt8):rNB4 (zHA (-1) 4++r)=(none,r):=by
 unfold rNB4;rw[rI32];rfl
theorem yNH{v:List UInt8}(r:List UInt8)(h:v.length<=Most):rNB4 (zHA (v.length:Nat) 4++(v++r))=(some v,r):=by
 unfold rNB4;rw[yHI r h,rI32,xLB h,if_neg (by omega)]
theorem xZC(r:List UInt8):qBB (zDA 0++r)=(none,r):=by
 unfold qBB;rw[xUA,if_pos rfl]
theorem qAC(v r:List UInt8):qBB (zDA (v.length+1)++(v++r))=(some v,r):=by
 unfold qBB;rw[yDD,xUA,if_neg (by omega)]
def yMC(u:List Tg)(m:D):D:=u.foldl (fun m x=>.map (insM x.key (.bytes (x.val.getD [])) (mapL m))) m
theorem zLJ:∀(u:List Tg) (r:List UInt8) (m:D),(∀x∈u,0<=x.key)->rTag u.length ((u.map fun x:Tg=>tagB x.key.toNat (x.val.getD [])).flatten++r) m=(yMC u m,r)
 | [],r,m,_=>rfl
 | x::u,r,m,h=>by
  simp only[List.map_cons,List.flatten_cons,List.length_cons,rTag,tagB,List.append_assoc];rw[xUA];simp only[];rw[xUA];simp only[];rw[yRF];simp only[];have hx:=h x (by simp);rw[show ((x.key.toNat:Nat):Int)=x.key by omega];have ih:=zLJ u r (.map (insM x.key (.bytes (x.val.getD [])) (mapL m))) (fun y hy=>h y (by simp[hy]));simp only[tagB,List.append_assoc] at ih;exact ih
theorem yOH(u:List Tg)(r:List UInt8)(h:∀x∈u,0<=x.key):qGJ (zDA u.length++((u.map fun x:Tg=>tagB x.key.toNat (x.val.getD [])).flatten++r))=(yMC u .nil,r):=by
 unfold qGJ;rw[xUA];exact zLJ u r .nil h
end Go.Mx
namespace Go.Mx
open Go Go.Dx
mutual
def wdF(tg:Bool):Fl->Nat
 | .mk k _ _ _ _ _ _ sub=>if k=7 then 16 else if k=10 then wdS tg sub else 1
def wdS(tg:Bool):Option (List Fl)->Nat
 | none=>if tg then 1 else 0
 | some l=>wdL tg l+(if tg then 1 else 0)
def wdL(tg:Bool):List Fl->Nat
 | []=>0
 | f::r=>wdF tg f+wdL tg r
end
def wdV(tg:Bool)(k:Int)(sub:Option (List Fl)):Nat:=if k=7 then 16 else if k=10 then wdS tg sub else 1
def yRE(r:DE)(n:Nat):List DE:=(List.range n).map fun j=>.f (.get j) [r]
def qQA(l:List DE):DE:=l.headD (.k .nil)
def qAH(x:Bool)(c o:DE):DE:=if x then .f (.ext 25) [c,.f (.ext 10) [o,.f (.add .u32) [.k (.int 0),.f (.wrap .u32) [.f (.ext 24) [c]]]]] else o
def wrV(x:Bool)(k nl v:Int)(cs:List DE)(o sub:DE):DE :=
 let c:=qQA cs
 if k=0 then .f (.ext 2) [o,c] else
 if k=1 then .f (.ext 3) [o,c] else
 if k=2 then .f (.ext 4) [o,c] else
 if k=3 then .f (.ext 6) [o,c] else
 if k=5 then .f (.ext 5) [o,c] else
 if k=7 then .f (.ext 9) [o,.f .mkrow cs] else
 if k=8 then (if 0<=nl/\nl<=v then .f (.ext (if x then 14 else 13)) [o,c] else .f (.ext (if x then 12 else 11)) [o,if nl<0 then c else .f .ite [.f .not [.f .isNil [c]],.f (.get 0) [.f .deref [c]],.k (.str [])]]) else
 if k=9 then (if 0<=nl/\nl<=v then .f (.ext (if x then 18 else 17)) [o,c] else .f (.ext (if x then 16 else 15)) [o,c]) else
 if k=10 then sub else .f (.ext 7) [o,c]
def qMG(x:Bool)(nl v:Int)(c o:DE):DE :=
 if 0<=nl/\nl<=v then .f (.ext (if x then 22 else 21)) [o,.f .len [c],.f .isNil [c]] else .f (.ext (if x then 20 else 19)) [o,.f .len [c]]
mutual
def wrF(tg:Bool)(v:Int)(x:Bool)(lv:Nat):Fl->List DE->DE->DE
 | .mk k _ _ nl _ _ of sub,cs,o =>
  if k=11 then .fold lv (qQA cs) [qMG x nl v (qQA cs) o] [wrV x of (-1) v (yRE (.v (lv+1)) (wdV tg of sub)) (.v (lv+2)) (wrS tg v x (lv+3) sub (yRE (.v (lv+1)) (wdV tg of sub)) (.v (lv+2)))] 0 else
  wrV x k nl v cs o (wrS tg v x lv sub cs o)
def wrS(tg:Bool)(v:Int)(x:Bool)(lv:Nat):Option (List Fl)->List DE->DE->DE
 | none,cs,o=>qAH x (qQA cs) o
 | some l,cs,o=>qAH x (qQA (cs.drop (wdL tg l))) (wrL tg v x lv l cs o)
def wrL(tg:Bool)(v:Int)(x:Bool)(lv:Nat):List Fl->List DE->DE->DE
 | [],_,o=>o
 | f::r,cs,o=>wrL tg v x lv r (cs.drop (wdF tg f)) (if f.tag<0/\has f v=true then wrF tg v x lv f (cs.take (wdF tg f)) o else o)
end
def qEH(n a:Nat):Nat:=(n+a-1) / a*a
mutual
def szF(tg:Bool):Fl->Nat×Nat
 | .mk k _ _ nl _ _ _ sub=>if k=11 then (24,8) else szV k nl (szS tg sub)
def szS(tg:Bool):Option (List Fl)->Nat×Nat
 | none=>if tg then (8,8) else (0,1)
 | some l=>let q:=szL tg l (0,1);let q:=if tg then (qEH q.1 8+8,8) else q;(qEH q.1 q.2,q.2)
def szL(tg:Bool):List Fl->Nat×Nat->Nat×Nat
 | [],q=>q
 | f::r,q=>let s:=szF tg f;szL tg r (qEH q.1 s.2+s.1,max q.2 s.2)
def szV(k nl:Int)(sub:Nat×Nat):Nat×Nat :=
 if k=0∨k=1 then (1,1) else if k=2∨k=5 then (2,2) else if k=3 then (4,4) else if k=7 then (16,1) else
 if k=8 then (if nl<0 then (16,8) else (8,8)) else if k=9 then (24,8) else if k=10 then sub else (8,8)
end
def zGJ(x:Bool)(c o:DE):List Ob:=if x then
 let o':DE:=.f (.ext 10) [o,.f (.add .u32) [.k (.int 0),.f (.wrap .u32) [.f (.ext 24) [c]]]]
 [.pre 25 [c,o'],.pre 10 [o,.f (.add .u32) [.k (.int 0),.f (.wrap .u32) [.f (.ext 24) [c]]]],.pre 24 [c]] else []
def obNil(k nl v:Int)(c:DE):List Ob:=if k=8/\0<=nl/\v<nl then [.when (.f .not [.f .isNil [c]]) true [.when (.f .isNil [c]) true [.nz (.k (.int 0))]]] else []
def qEJ:DE->List Ob
 | .f (.ext n) l=>[.pre n l]
 | _=>[]
mutual
def owF(tg:Bool)(v:Int)(x:Bool)(lv:Nat):Fl->List DE->DE->List Ob
 | .mk k _ _ nl _ _ of sub,cs,o =>
  if k=11 then
   let gs:=yRE (.v (lv+1)) (wdV tg of sub)
   let b:=wrV x of (-1) v gs (.v (lv+2)) (wrS tg v x (lv+3) sub gs (.v (lv+2)))
   [.all (qQA cs) [qMG x nl v (qQA cs) o] [b] (if of=10 then owS tg v x (lv+3) sub gs (.v (lv+2)) else qEJ b)]++qEJ (qMG x nl v (qQA cs) o)
  else if k=10 then owS tg v x lv sub cs o else qEJ (wrV x k nl v cs o (.k .nil))++obNil k nl v (qQA cs)
def owS(tg:Bool)(v:Int)(x:Bool)(lv:Nat):Option (List Fl)->List DE->DE->List Ob
 | none,cs,o=>zGJ x (qQA cs) o
 | some l,cs,o=>zGJ x (qQA (cs.drop (wdL tg l))) (wrL tg v x lv l cs o)++owL tg v x lv l cs o
def owL(tg:Bool)(v:Int)(x:Bool)(lv:Nat):List Fl->List DE->DE->List Ob
 | [],_,_=>[]
 | f::r,cs,o=>(if f.tag<0/\has f v=true then
   owL tg v x lv r (cs.drop (wdF tg f)) (wrF tg v x lv f (cs.take (wdF tg f)) o)++owF tg v x lv f (cs.take (wdF tg f)) o
  else owL tg v x lv r (cs.drop (wdF tg f)) o)
end
end Go.Mx
namespace Go.Mx
open Go Go.Dx
def u16D(s:List UInt8):List D:=(zLC s).map fun x=>.int x.toNat
def dV(k nl:Int)(t:T)(sub:List D):List D :=
 if k=0 then [.bool (decide (t.n%2=1))] else
 if k=1 then [.int (IntKind.i8.wrap t.n)] else
 if k=2 then [.int (IntKind.i16.wrap t.n)] else
 if k=3 then [.int (IntKind.i32.wrap t.n)] else
 if k=5 then [.int (IntKind.u16.wrap t.n)] else
 if k=7 then u16D t.S else
 if k=8 then (if nl<0 then [.str t.S] else [if t.null then .nil else .ptr (.str t.S)]) else
 if k=9 then [if t.null then .nil else .bytes t.S] else
 if k=10 then sub else [.int t.n]
def rowD(l:List D):D:=match l with|[a]=>a|l=>.row l
def elD(k:Int)(l:List D)(t:T):D:=if k=7 then .row (u16D t.S) else if k=10 then .row l else rowD l
def tagD(u:List Tg):D:=u.foldl (fun m x=>.map (insM x.key (encB x.val) (mapL m))) .nil
mutual
def dF(tg:Bool):Fl->T->List D
 | .mk k _ _ nl _ _ of sub,t=>if k=11 then [if t.null then .nil else .list (t.L.map fun y=>elD of (dV of (-1) y (dS tg sub y)) y)] else dV k nl t (dS tg sub t)
def dS(tg:Bool):Option (List Fl)->T->List D
 | none,t=>if tg then [tagD t.U] else []
 | some l,t=>dL tg l 0 t++(if tg then [tagD t.U] else [])
def dL(tg:Bool):List Fl->Nat->T->List D
 | [],_,_=>[]
 | f::r,i,t=>dF tg f (at' t i)++dL tg r (i+1) t
end
theorem zBE(a b:List DE)(J:List D):zEA X (a++b) J=zEA X a J++zEA X b J:=by
 induction a with
 | nil=>rfl
 | cons x a ih=>simp only[List.cons_append,zAA,ih]
theorem qUA{A:Type}(g:A->DE)(l:List A)(J:List D):zEA X (l.map g) J=l.map fun a=>(g a).eval X J:=by
 induction l with
 | nil=>rfl
 | cons x a ih=>simp only[List.map_cons,zAA,ih]
theorem qHE(l:List DE)(J:List D):zEA X l J=l.map fun a=>a.eval X J:=by
 have:=qUA (fun a=>a) l J
 simpa using this
theorem yQK{J:List D}{lv:Nat}(h:lv<=J.length)(i r a:D):(DE.v (lv+1)).eval X (J.take lv++[i,r,a])=r/\(DE.v (lv+2)).eval X (J.take lv++[i,r,a])=a/\lv+3<=(J.take lv++[i,r,a]).length:=by
 have hl:(J.take lv).length=lv:=by simp;omega
 refine⟨?_,?_,by simp;omega⟩
 ·rw[ev_v,List.getD_eq_getElem?_getD,List.getElem?_append_right (by omega),hl,show lv+1-lv=1 by omega];rfl
 ·rw[ev_v,List.getD_eq_getElem?_getD,List.getElem?_append_right (by omega),hl,show lv+2-lv=2 by omega];rfl
theorem xHI(s:List UInt8):(u16D s).length=16:=by rw[u16D,List.length_map,yAB]
theorem qHJ(l:List D):(List.range l.length).map (fun j=>l.getD j .nil)=l:=by
 apply List.ext_getElem (by simp);intro i h1 h2;simp[List.getD_eq_getElem?_getD,h2]
section
variable {J:List D} {z:DE} {t:T}
end
end Go.Mx
namespace Go.Mx
open Go Go.Dx
theorem yZA{o:D}{s:List UInt8}(h:0<s.length):app o s=appD o s:=by cases s with|nil=>simp at h|cons a s=>rfl
theorem yJG(o:D)(s:List UInt8):(appD o s).asStr=o.asStr++s:=by cases s with|nil=>simp[appD]|cons a s=>rfl
theorem ySC(o:D)(a b:List UInt8):appD (appD o a) b=appD o (a++b):=by
 cases a with
 | nil=>rfl
 | cons x a=>cases b with
  | nil=>simp[appD]
  | cons y b =>
   show app (app o (x::a)) (y::b)=app o ((x::a)++(y::b));simp[app,D.asStr]
theorem yRC:zDA 0=[0]:=by rw[zDA];rfl
mutual
def xSD:Fl->Bool
 | .mk k _ _ nl g _ of sub=>decide (g<0)&&(decide (k≠10) || decide (nl<0))&&(decide (k≠11) || decide (of≠11))&&zGC sub
def zGC:Option (List Fl)->Bool
 | none=>true
 | some l=>yDB l
def yDB:List Fl->Bool
 | []=>true
 | f::r=>xSD f&&yDB r
end
section
variable {J:List D} {o:DE} {od:D}
theorem zUC{cs:List DE}{l:List D}(h:zEA X cs J=l):(qQA cs).eval X J=l.headD .nil:=by
 subst h;cases cs with
 | nil=>rfl
 | cons a cs=>rfl
theorem ySH(s:List UInt8):xBD (.row (u16D s))=zLC s:=by
 unfold xBD u16D;simp only[D.cells,List.map_map]
 conv=>rhs;rw[<- List.map_id (zLC s)]
 apply List.map_congr_left;intro x _;simp[D.asInt]
theorem qLC{n:Nat}:0<(zDA n).length:=qTB n
theorem qRB(n:Int)(k:Nat)(h:0<k):0<(zHA n k).length:=by rw[zQA];exact h
theorem xBB(x b:Bool)(n k:Nat)(h:0<k):0<(counted x b n k).length:=by
 cases x <;> cases b <;> simp[counted,zQA,h]
 exact qTB _
theorem xSA{a b:List UInt8}(h:0<a.length):0<(a++b).length:=by rw[List.length_append];omega
theorem qII{v k nl:Int}(x:Bool){cs:List DE}{t:T}{sd:List D}{sub:DE}{p:List UInt8}{b:Bool}(hc:zEA X cs J=dV k nl t sd)(ho:o.eval X J=od)(hs:k=10->sub.eval X J=appD od p)
  (hok:okV v k nl t) (hb:(k=8∨k=9)->b=(t.null&&(decide (0<=nl)&&decide (nl<=v)))):(wrV x k nl v cs o sub).eval X J=appD od (zXA k b x t p):=by
 have hh:=zUC hc;unfold wrV zXA;unfold dV at hh hc;by_cases h0:k=0
 ·simp only[if_pos h0] at hh ⊢;rw[ev_f,zAA,zAA,zBA,ho,hh,zIA,X_2];rw[<- yZA (by simp)];show app od [if decide (t.n%2=1) then 1 else 0]=_;have h2:t.n%2=0∨t.n%2=1:=by omega
  rcases h2 with h|h <;> rw[h] <;> rfl
 simp only[if_neg h0] at hh hc ⊢;by_cases h1:k=1
 ·subst h1;simp only[if_true] at hh ⊢;rw[ev_f,zAA,zAA,zBA,ho,hh,zIA,X_3,show ((D.int (IntKind.i8.wrap t.n)::[]).headD .nil).asInt=IntKind.i8.wrap t.n from rfl,fixed_i8];exact yZA (qRB _ _ (by omega))
 simp only[if_neg h1] at hh hc ⊢;by_cases h2:k=2
 ·subst h2;simp only[if_true] at hh ⊢;rw[ev_f,zAA,zAA,zBA,ho,hh,zIA,X_4,show ((D.int (IntKind.i16.wrap t.n)::[]).headD .nil).asInt=IntKind.i16.wrap t.n from rfl,zHH];exact yZA (qRB _ _ (by omega))
 simp only[if_neg h2] at hh hc ⊢;by_cases h3:k=3
 ·subst h3;simp only[if_true] at hh ⊢;rw[ev_f,zAA,zAA,zBA,ho,hh,zIA,X_6,show ((D.int (IntKind.i32.wrap t.n)::[]).headD .nil).asInt=IntKind.i32.wrap t.n from rfl,zND];exact yZA (qRB _ _ (by omega))
 simp only[if_neg h3] at hh hc ⊢;by_cases h5:k=5
 ·subst h5;simp only[if_true] at hh ⊢;rw[ev_f,zAA,zAA,zBA,ho,hh,zIA,X_5,show ((D.int (IntKind.u16.wrap t.n)::[]).headD .nil).asInt=IntKind.u16.wrap t.n from rfl,zIH];exact yZA (qRB _ _ (by omega))
 simp only[if_neg h5] at hh hc ⊢;by_cases h7:k=7
 ·subst h7;simp only[if_true] at hh hc ⊢;rw[ev_f,zAA,zAA,zBA,ho,ev_f,hc,xNC,zIA,X_9,ySH];exact yZA (by rw[yAB];omega)
 simp only[if_neg h7] at hh hc ⊢;by_cases h8:k=8
 ·subst h8;obtain⟨k1,k2⟩:=hok (.inl rfl);have hb:=hb (.inl rfl);simp only[if_true] at hh hc ⊢;have ht:t.S.take Most=t.S:=List.take_of_length_le k1;rw[ht];by_cases hn:0<=nl/\nl<=v
  ·rw[if_pos hn];have hb:b=t.null:=by rw[hb];simp[hn.1,hn.2]
   rw[if_neg (by omega)] at hh;rw[hb];cases x with
   | true =>
    rw[if_pos rfl,ev_f,zAA,zAA,zBA,ho,hh,zIA,X_14];cases t.null with
    | true =>
     show app od (zDA 0)=appD od (counted true true 0 2++[]);rw[yRC];rfl
    | false =>
     show app od (zDA (t.S.length+1)++t.S)=appD od (counted true false t.S.length 2++t.S);exact yZA (xSA qLC)
   | false =>
    rw[if_neg (by decide),ev_f,zAA,zAA,zBA,ho,hh,zIA,X_13];cases t.null with
    | true =>
     show app od (zHA (-1) 2)=appD od (counted false true 0 2++[]);rw[List.append_nil];exact yZA (qRB _ _ (by omega))
    | false =>
     show app od (zHA t.S.length 2++t.S)=appD od (counted false false t.S.length 2++t.S);exact yZA (xSA (qRB _ _ (by omega)))
  ·rw[if_neg hn];have hnl:t.null=false:=by
    cases ht:t.null with
    | false=>rfl
    | true=>exact absurd (k2 ht) hn
   have hb:b=false:=by rw[hb,hnl];rfl
   have ev:(if nl<0 then qQA cs else DE.f .ite [.f .not [.f .isNil [qQA cs]],.f (.get 0) [.f .deref [qQA cs]],.k (.str [])]).eval X J = .str t.S:=by
    by_cases hn0:nl<0
    ·rw[if_pos hn0] at hh ⊢;rw[hh];rfl
    ·rw[if_neg hn0] at hh ⊢;simp only[ev_f,zAA,zBA,ev_k];rw[hh,hnl];rfl
   rw[hb];simp only[Bool.false_eq_true,if_false];cases x with
   | true =>
    rw[if_pos rfl,ev_f,zAA,zAA,zBA,ho,ev,zIA,X_12];exact yZA (xSA qLC)
   | false =>
    rw[if_neg (by decide),ev_f,zAA,zAA,zBA,ho,ev,zIA,X_11];exact yZA (xSA (qRB _ _ (by omega)))
 simp only[if_neg h8] at hh hc ⊢;by_cases h9:k=9
 ·subst h9;obtain⟨k1,k2⟩:=hok (.inr rfl);have hb:=hb (.inr rfl);simp only[if_true] at hh hc ⊢;have ht:t.S.take Most=t.S:=List.take_of_length_le k1;rw[ht];by_cases hn:0<=nl/\nl<=v
  ·rw[if_pos hn];have hb:b=t.null:=by rw[hb];simp[hn.1,hn.2]
   rw[hb];cases x with
   | true =>
    rw[if_pos rfl,ev_f,zAA,zAA,zBA,ho,hh,zIA,X_18];cases t.null with
    | true =>
     show app od (zDA 0)=appD od (counted true true 0 4++[]);rw[yRC];rfl
    | false =>
     show app od (zDA (t.S.length+1)++t.S)=appD od (counted true false t.S.length 4++t.S);exact yZA (xSA qLC)
   | false =>
    rw[if_neg (by decide),ev_f,zAA,zAA,zBA,ho,hh,zIA,X_17];cases t.null with
    | true =>
     show app od (zHA (-1) 4)=appD od (counted false true 0 4++[]);rw[List.append_nil];exact yZA (qRB _ _ (by omega))
    | false =>
     show app od (zHA t.S.length 4++t.S)=appD od (counted false false t.S.length 4++t.S);exact yZA (xSA (qRB _ _ (by omega)))
  ·rw[if_neg hn];have hnl:t.null=false:=by
    cases ht:t.null with
    | false=>rfl
    | true=>exact absurd (k2 ht) hn
   have hb:b=false:=by rw[hb,hnl];rfl
   rw[hnl] at hh;rw[hb];simp only[Bool.false_eq_true,if_false];cases x with
   | true =>
    rw[if_pos rfl,ev_f,zAA,zAA,zBA,ho,hh,zIA,X_16];exact yZA (xSA qLC)
   | false =>
    rw[if_neg (by decide),ev_f,zAA,zAA,zBA,ho,hh,zIA,X_15];exact yZA (xSA (qRB _ _ (by omega)))
 simp only[if_neg h9] at hh hc ⊢;by_cases h10:k=10
 ·simp only[if_pos h10];exact hs h10
 simp only[if_neg h10] at hh ⊢;have hw:(qVC k).toNat=8:=by unfold qVC;rw[if_neg h1,if_neg (by omega),if_neg h3];rfl
 rw[ev_f,zAA,zAA,zBA,ho,hh,zIA,X_7,hw];exact yZA (qRB _ _ (by omega))
theorem yUG{v nl:Int}(x:Bool){c:DE}{t:T}{g:T->D}(hc:c.eval X J=if t.null then .nil else .list (t.L.map g))(ho:o.eval X J=od)
  (hn:t.null=true->(0<=nl/\nl<=v)∨t.L=[]) {b:Bool} (hb:b=(t.null&&(decide (0<=nl)&&decide (nl<=v)))):(qMG x nl v c o).eval X J=appD od (counted x b (if b then 0 else t.L.length) 4):=by
 unfold qMG;by_cases h:0<=nl/\nl<=v
 ·have hb:b=t.null:=by rw[hb];simp[h.1,h.2]
  rw[hb,if_pos h,ev_f,zAA,zAA,zAA,zBA,ev_f,ev_f,zAA,zBA,ho,hc,yCA,qEB,zIA];cases x with
  | true =>
   rw[if_pos rfl,X_22];cases t.null with
   | true =>
    show app od (zDA 0)=appD od (counted true true _ 4);rw[yRC];rfl
   | false =>
    show app od (zDA ((t.L.map g).length+1))=appD od (zDA (t.L.length+1));rw[List.length_map];exact yZA qLC
  | false =>
   rw[if_neg (by decide),X_21];cases t.null with
   | true =>
    show app od (zHA (-1) 4)=appD od (zHA (-1) 4);exact yZA (qRB _ _ (by omega))
   | false =>
    show app od (zHA ((t.L.map g).length:Nat) 4)=appD od (zHA t.L.length 4);rw[List.length_map];exact yZA (qRB _ _ (by omega))
 ·have hb:b=false:=by
   rw[hb]
   have:(decide (0<=nl)&&decide (nl<=v))=false:=by
    simp only[Bool.and_eq_false_iff,decide_eq_false_iff_not];omega
   rw[this,Bool.and_false]
  have hlen:(c.eval X J).len=t.L.length:=by
   rw[hc];cases ht:t.null with
   | false=>show (t.L.map g).length=_;rw[List.length_map]
   | true =>
    rcases hn ht with h2|h2
    ·exact absurd h2 h
    ·rw[h2];rfl
  rw[hb,if_neg h,ev_f,zAA,zAA,zBA,ev_f,zAA,zBA,ho,yCA,hlen,zIA];cases x with
  | true =>
   rw[if_pos rfl,X_20];show app od (zDA (t.L.length+1))=appD od (zDA (t.L.length+1));exact yZA qLC
  | false =>
   rw[if_neg (by decide),X_19];show app od (zHA (t.L.length:Nat) 4)=appD od (zHA t.L.length 4);exact yZA (qRB _ _ (by omega))
theorem zOH(k:Int)(d:D):∀(l:List (Int×D)),(∀y∈l,y.1<k)->insM k d l=l++[(k,d)]
 | [],_=>rfl
 | x::r,h=>by
  rw[insM,if_pos (h x (by simp)),zOH k d r (fun y hy=>h y (by simp[hy]))];rfl
theorem xNH:∀(u:List Tg) (a:D),SrtT u->(∀x∈mapL a,∀y∈u,x.1<y.key)->mapL (u.foldl (fun m x=>.map (insM x.key (encB x.val) (mapL m))) a)=mapL a++u.map fun x=>(x.key,encB x.val)
 | [],a,_,_=>by simp
 | x::r,a,h,hk=>by
  obtain⟨h1,h2⟩:=List.pairwise_cons.1 h;have e:insM x.key (encB x.val) (mapL a)=mapL a++[(x.key,encB x.val)]:=zOH _ _ _ (fun y hy=>hk y hy x (by simp));rw[List.foldl,xNH r _ h2 (fun y hy z hz=>by
   have hy:y∈insM x.key (encB x.val) (mapL a):=hy;rw[e] at hy;rcases List.mem_append.1 hy with hy|hy
   ·exact hk y hy z (by simp[hz])
   ·rw[List.mem_singleton] at hy;subst hy;exact h1 z hz)]
  show insM x.key (encB x.val) (mapL a)++_=_;rw[e];simp
theorem zUL{u:List Tg}(h:SrtT u):mapL (tagD u)=u.map fun x=>(x.key,encB x.val):=by
 have:=xNH u .nil h (fun x hx=>by cases hx)
 rw[tagD,this];rfl
def qKB(u:List Tg):List UInt8:=zDA u.length++(u.map unkB).flatten
theorem zIF(x:Bool){c:DE}{u:List Tg}{p:List UInt8}(hc:x=true->c.eval X J=tagD u)(ho:o.eval X J=appD od p)(hu:qYA u):(qAH x c o).eval X J=appD od (if x then p++qKB u else p):=by
 cases x with
 | false=>exact ho
 | true =>
  have hc:=hc rfl;obtain⟨h1,h2,h3⟩:=hu;have hL:=zUL h1;have hlen:(mapL (tagD u)).length=u.length:=by rw[hL,List.length_map]
  unfold qAH;rw[if_pos rfl,if_pos rfl];have e10:(DE.f (.ext 10) [o,.f (.add .u32) [.k (.int 0),.f (.wrap .u32) [.f (.ext 24) [c]]]]).eval X J=appD od (p++zDA u.length):=by
   simp only[ev_f,zAA,zBA,ev_k];rw[hc,ho,zIA,zIA,X_24,hlen,zLA,zWC,X_10,zOA];have e:IntKind.u32.wrap (0+IntKind.u32.wrap (u.length:Int))=u.length:=by
    rw[yXB (x:=(u.length:Int)) (by omega) (by simp[Most] at h2;omega),Int.zero_add,yXB (by omega) (by simp[Most] at h2;omega)]
   rw[e,Int.toNat_natCast,yZA qLC,ySC]
  rw[ev_f,zAA,zAA,zBA,e10,hc,zIA,X_25,hL];cases u with
  | nil=>show appD od (p++zDA 0)=appD od (p++(zDA 0++[]));rw[List.append_nil]
  | cons a u =>
   rw[if_neg (by simp)];have ef:(((a::u).map fun x=>(x.key,encB x.val)).map fun x=>tagB x.1.toNat x.2.asStr).flatten=((a::u).map unkB).flatten:=by
    rw[List.map_map]
    congr 1
    apply List.map_congr_left;intro y hy;obtain⟨q1,q2,q3⟩:=h3 y hy;show tagB y.key.toNat (encB y.val).asStr=tagB (IntKind.u64.wrap y.key).toNat ((y.val.getD []).take Most);rw[xDA,List.take_of_length_le q3,IntKind.wrap_u64,Int.emod_eq_of_lt q1 (by omega)]
   rw[ef];have hpos:0<(((a::u).map unkB).flatten).length:=by
    rw[List.map_cons,List.flatten_cons];exact xSA (by rw[unkB,tagB];exact xSA (xSA qLC))
   rw[yZA hpos,ySC,qKB,List.append_assoc]
theorem fold1L{lv:Nat}{s i0 b:DE}{A:Type}{L:List A}{e:A->D}{h:A->D->D}(hs:(s.eval X J).rows=L.map e)(hb:∀(i a:D) y,y∈L->b.eval X (J.take lv++[i,e y,a])=h y a) :
  (DE.fold lv s [i0] [b] 0).eval X J=L.foldl (fun a y=>h y a) (i0.eval X J):=by
 rw[DE.eval];have key:∀(l:List A) (i:Nat) (a:D),(∀y∈l,y∈L)->yNA (fun i r acc=>zEA X [b] (J.take lv++(.int i::r::acc))) i (l.map e) [a]=[l.foldl (fun a y=>h y a) a]:=by
  intro l
  induction l with
  | nil=>intro i a _;rfl
  | cons y l ih =>
   intro i a hl;simp only[List.map_cons,yNA,List.foldl];have h1:=hb (.int i) a y (hl y (by simp));have e1:zEA X [b] (J.take lv++(.int i::e y::[a]))=[h y a]:=by rw[zAA,zBA,h1]
   rw[e1];exact ih (i+1) _ (fun r hr=>hl r (by simp[hr]))
 have e9:=key L 0 (i0.eval X J) (fun _ h=>h);rw[hs];show (yNA (fun i r acc=>zEA X [b] (J.take lv++(.int i::r::acc))) 0 (L.map e) [i0.eval X J]).getD 0 .nil=_;rw[e9];rfl
end
theorem yQE{A:Type}(w:A->List UInt8):∀(l:List A) (o:D),l.foldl (fun a y=>appD a (w y)) o=appD o ((l.map w).flatten)
 | [],o=>rfl
 | y::l,o=>by
  rw[List.foldl,yQE w l,ySC];rfl
theorem qQF(l:List DE)(n:Nat)(J:List D):zEA X (l.take n) J=(zEA X l J).take n:=by rw[qHE,qHE,List.map_take]
theorem ySD(l:List DE)(n:Nat)(J:List D):zEA X (l.drop n) J=(zEA X l J).drop n:=by rw[qHE,qHE,List.map_drop]
theorem qBI(k nl:Int)(t:T)(sd:List D)(tg:Bool)(sub:Option (List Fl))(h:sd.length=wdS tg sub):(dV k nl t sd).length=wdV tg k sub:=by
 unfold dV wdV;by_cases h7:k=7
 ·subst h7;simp only[show ¬((7:Int)=0) by decide,show ¬((7:Int)=1) by decide,show ¬((7:Int)=2) by decide,show ¬((7:Int)=3) by decide,show ¬((7:Int)=5) by decide,if_true,if_false];exact xHI _
 by_cases h10:k=10
 ·subst h10;simp only[show ¬((10:Int)=0) by decide,show ¬((10:Int)=1) by decide,show ¬((10:Int)=2) by decide,show ¬((10:Int)=3) by decide,show ¬((10:Int)=5) by decide,show ¬((10:Int)=7) by decide,show ¬((10:Int)=8) by decide,show ¬((10:Int)=9) by decide,if_true,if_false];exact h
 rw[if_neg h7,if_neg h7,if_neg h10,if_neg h10]
 repeat (first|rfl|split)
mutual
theorem xOE(tg:Bool):∀(f:Fl) (t:T),(dF tg f t).length=wdF tg f
 | .mk k a b nl c d of sub,t=>by
  rw[dF,wdF];by_cases h:k=11
  ·subst h;rfl
  ·rw[if_neg h,qBI k nl t _ tg sub (yKK tg sub t)];rfl
theorem yKK(tg:Bool):∀(fs:Option (List Fl)) (t:T),(dS tg fs t).length=wdS tg fs
 | none,t=>by rw[dS,wdS];cases tg <;> rfl
 | some l,t=>by rw[dS,wdS,List.length_append,qAI tg l 0 t];cases tg <;> rfl
theorem qAI(tg:Bool):∀(l:List Fl) (i:Nat) (t:T),(dL tg l i t).length=wdL tg l
 | [],_,_=>by rw[dL,wdL];rfl
 | f::r,i,t=>by rw[dL,wdL,List.length_append,xOE tg f,qAI tg r]
end
end Go.Mx
namespace Go.Mx
open Go Go.Dx
theorem qKE{J:List D}{r:DE}{l:List D}(hr:(r.eval X J).cells=l):zEA X (yRE r l.length) J=l:=by
 rw[yRE,qUA]
 conv=>rhs;rw[<- qHJ l]
 apply List.map_congr_left;intro j _;rw[ev_f,zAA,zBA,yIA,hr]
theorem qTG(k:Int)(t:T)(sd:List D):(elD k (dV k (-1) t sd) t).cells=dV k (-1) t sd:=by
 unfold elD;by_cases h7:k=7
 ·subst h7;rw[if_pos rfl];rfl
 rw[if_neg h7];by_cases h10:k=10
 ·rw[if_pos h10];rfl
 rw[if_neg h10];unfold dV;rw[if_neg h7,if_neg h10];by_cases h8:k=8
 ·subst h8;rfl
 by_cases h9:k=9
 ·subst h9;simp only[show ¬((9:Int)=0) by decide,show ¬((9:Int)=1) by decide,show ¬((9:Int)=2) by decide,show ¬((9:Int)=3) by decide,show ¬((9:Int)=5) by decide,show ¬((9:Int)=8) by decide,if_true,if_false];cases t.null <;> rfl
 rw[if_neg h8,if_neg h9]
 repeat (first|rfl|split)
theorem zFC{k a b nl g d of:Int}{sub:Option (List Fl)}(h:xSD (.mk k a b nl g d of sub)=true):g<0/\(k=10->nl<0)/\(k=11->of≠11)/\zGC sub=true:=by
 simp only[xSD,Bool.and_eq_true,Bool.or_eq_true,decide_eq_true_eq] at h;obtain⟨⟨⟨h1,h2⟩,h3⟩,h4⟩:=h;exact⟨h1,fun e=>by omega,fun e=>by omega,h4⟩
theorem qIK{f:Fl}(h:xSD f=true):f.tag<0:=by cases f;exact(zFC h).1
theorem qFD{l:List Fl}(h:yDB l=true):qBA l=0:=by
 unfold qBA
 have:∀(l:List Fl) (n:Nat),yDB l=true->l.foldl (fun n f=>if 0<=f.tag then max n (f.tag.toNat+1) else n) n=n:=by
  intro l
  induction l with
  | nil=>intro n _;rfl
  | cons f r ih =>
   intro n h;simp only[yDB,Bool.and_eq_true] at h
   have:=qIK h.1
   rw[List.foldl,if_neg (by omega)];exact ih n h.2
 exact this l 0 h
theorem unk_self(fs:List Fl)(u:Option (List Tg))(h:SrtT (u.getD []))(hk:∀y∈u.getD [],(qBA fs:Int)<=y.key)(hl:(u.getD []).length<=Most):zUA fs u=u.getD []:=by
 unfold zUA;rw[List.take_of_length_le hl]
 have:=xOF (qBA fs) (u.getD []) [] (by simpa using h) hk
 simpa using this
theorem yDL{fs:Option (List Fl)}{t:T}(hp:zGC fs=true)(h:qYA t.U):zUA (fs.getD []) t.u=t.U:=by
 obtain⟨h1,h2,h3⟩:=h;have hk:qBA (fs.getD [])=0:=by
  cases fs with
  | none=>rfl
  | some l=>exact qFD hp
 exact unk_self _ t.u h1 (fun y hy=>by rw[hk];exact(h3 y hy).1) h2
theorem xIA{fs:Option (List Fl)}{t:T}(hp:zGC fs=true)(h:qYA t.U)(v:Int)(x:Bool):zYA fs v x t=if x then outP (fs.getD []) v x t++qKB t.U else outP (fs.getD []) v x t:=by
 have hk:qBA (fs.getD [])=0:=by
  cases fs with
  | none=>rfl
  | some l=>exact qFD hp
 cases x with
 | false=>rw[xYC];rfl
 | true =>
  rw[xFB,if_pos rfl];have e1:qSD (fs.getD []) v true t=[]:=by rw[qSD,hk];rfl
  rw[xJD,e1,List.nil_append,qUJ,yDL hp h,List.length_map,List.append_assoc];rfl
theorem yYD{al:Bool}{v:Int}{fs:Option (List Fl)}{t:T}(h:okS al v fs t):qYA t.U:=by
 cases fs with
 | none=>exact h
 | some l=>exact h.1
mutual
theorem ev_wrF{al tg x:Bool}{v:Int}(hx:x=true->tg=true):∀(f:Fl) (lv:Nat) (J:List D) (cs:List DE) (o:DE) (t:T) (od:D),xSD f=true->lv<=J.length->zEA X cs J=dF tg f t->o.eval X J=od->okF al v f t->(wrF tg v x lv f cs o).eval X J=appD od (field f v x t)
 | .mk k a b nl g df of sub,lv,J,cs,o,t,od,hp,hlv,hc,ho,hok=>by
  obtain⟨_,hp10,hp11,hps⟩:=zFC hp;rw[zEB];simp only[Fl.kind,Fl.null,Fl.of,Fl.sub];rw[wrF];unfold yZB;by_cases h:k=11
  ·have hof:=hp11 h;subst h;rw[if_pos rfl,if_pos rfl];rw[dF,if_pos rfl] at hc;rw[okF,if_pos rfl] at hok;obtain⟨q1,q2,q3⟩:=hok;have hh:=zUC hc;have hh:(qQA cs).eval X J=if t.null then .nil else .list (t.L.map fun y=>elD of (dV of (-1) y (dS tg sub y)) y):=hh
   have hlen:=yUG x hh ho (fun h=>(q2 h).imp id (fun h=>h.2)) (b:=Mx.null (.mk 11 a b nl g df of sub) v t) rfl;have hbody:∀(i aa:D) (y:T),y∈t.L->(wrV x of (-1) v (yRE (.v (lv+1)) (wdV tg of sub)) (.v (lv+2)) (wrS tg v x (lv+3) sub (yRE (.v (lv+1)) (wdV tg of sub)) (.v (lv+2)))).eval X (J.take lv++[i,elD of (dV of (-1) y (dS tg sub y)) y,aa])=appD aa (zXA of false x y (zYA sub v x y)):=by
    intro i aa y hy;obtain⟨e1,e2,e3⟩:=yQK hlv i (elD of (dV of (-1) y (dS tg sub y)) y) aa;have hcells:=qTG of y (dS tg sub y);have hgets:zEA X (yRE (.v (lv+1)) (wdV tg of sub)) (J.take lv++[i,elD of (dV of (-1) y (dS tg sub y)) y,aa])=dV of (-1) y (dS tg sub y):=by
     have:=qKE (r:=.v (lv+1)) (J:=J.take lv++[i,elD of (dV of (-1) y (dS tg sub y)) y,aa]) (l:=dV of (-1) y (dS tg sub y)) (by rw[e1];exact hcells)
     rwa [qBI of (-1) y _ tg sub (yKK tg sub y)] at this
    obtain⟨o1,o2⟩:=q3 y hy;refine qII x hgets e2 (fun h10=>?_) o1 (fun _=>by simp);have hsd:dV of (-1) y (dS tg sub y)=dS tg sub y:=by subst h10;rfl
    rw[hsd] at hgets;exact qHI hx sub (lv+3) _ _ _ y _ hps e3 (by rw[hsd];exact hgets) e2 (o2 h10)
   cases hn:t.null with
   | true =>
    rw[hn] at hh;rw[fold1L (L:=([]:List T)) (e:=fun y=>elD of (dV of (-1) y (dS tg sub y)) y) (h:=fun y a=>a) (by rw[hh];rfl) (fun _ _ y hy=>by cases hy)];show (qMG x nl v (qQA cs) o).eval X J=_;by_cases hnv:0<=nl/\nl<=v
    ·obtain⟨n1,n2⟩:=hnv;have hb:Mx.null (.mk 11 a b nl g df of sub) v t=true:=by rw[zEC,hn];simp[Fl.null,n1,n2]
     rw[hb] at hlen ⊢;rw[hlen]
     simp
    ·have hb:Mx.null (.mk 11 a b nl g df of sub) v t=false:=by
      rw[zEC]
      have:(decide (0<=nl)&&decide (nl<=v))=false:=by
       simp only[Bool.and_eq_false_iff,decide_eq_false_iff_not];omega
      show (t.null&&(decide (0<=nl)&&decide (nl<=v)))=false;rw[this,Bool.and_false]
     have hL:t.L=[]:=by
      rcases q2 hn with h2|h2
      ·exact absurd h2 hnv
      ·exact h2.2
     rw[hb] at hlen ⊢;rw[hlen,hL]
     simp
   | false =>
    have hb:Mx.null (.mk 11 a b nl g df of sub) v t=false:=by rw[zEC,hn];rfl
    rw[hb] at hlen ⊢;rw[hn] at hh;rw[fold1L (L:=t.L) (e:=fun y=>elD of (dV of (-1) y (dS tg sub y)) y) (h:=fun y a=>appD a (zXA of false x y (zYA sub v x y))) (by rw[hh];rfl) hbody];rw[yQE,hlen,ySC];simp only[Bool.false_eq_true,if_false];rw[List.take_of_length_le q1]
  ·rw[if_neg h,if_neg h];rw[dF,if_neg h] at hc;rw[okF,if_neg h] at hok;obtain⟨o1,o2⟩:=hok;rw[if_neg (fun e=>by have:=hp10 e.1;omega)];refine qII x hc ho (fun h10=>?_) o1 (fun _=>rfl);have hsd:dV k nl t (dS tg sub t)=dS tg sub t:=by subst h10;rfl
   rw[hsd] at hc;exact qHI hx sub lv J cs o t od hps hlv hc ho (o2 h10)
theorem qHI{al tg x:Bool}{v:Int}(hx:x=true->tg=true):∀(fs:Option (List Fl)) (lv:Nat) (J:List D) (cs:List DE) (o:DE) (t:T) (od:D),zGC fs=true->lv<=J.length->zEA X cs J=dS tg fs t->o.eval X J=od->okS al v fs t->(wrS tg v x lv fs cs o).eval X J=appD od (zYA fs v x t)
 | none,lv,J,cs,o,t,od,hp,hlv,hc,ho,hok=>by
  rw[xIA hp hok,wrS];refine zIF x (fun hxt=>?_) ho hok;rw[dS,hx hxt,if_pos rfl] at hc;exact zUC hc
 | some l,lv,J,cs,o,t,od,hp,hlv,hc,ho,hok=>by
  rw[xIA hp (yYD hok),wrS];rw[dS] at hc;have h1:=yXK hx l lv 0 J cs o t od _ hp hlv hc ho hok.2;refine zIF x (fun hxt=>?_) h1 (yYD hok);have hd:zEA X (cs.drop (wdL tg l)) J=[tagD t.U]:=by
   rw[ySD,hc,hx hxt,if_pos rfl,<- qAI true l 0 t,List.drop_left]
  exact zUC hd
theorem yXK{al tg x:Bool}{v:Int}(hx:x=true->tg=true):∀(l:List Fl) (lv i:Nat) (J:List D) (cs:List DE) (o:DE) (t:T) (od:D) (rest:List D),yDB l=true->lv<=J.length->zEA X cs J=dL tg l i t++rest->o.eval X J=od->okL al v l i t->(wrL tg v x lv l cs o).eval X J=appD od ((mapI (fun i f=>yHC v (rowP v x t i f)) i l).flatten)
 | [],lv,i,J,cs,o,t,od,rest,hp,hlv,hc,ho,hok=>by rw[wrL,ho];rfl
 | f::r,lv,i,J,cs,o,t,od,rest,hp,hlv,hc,ho,hok=>by
  simp only[yDB,Bool.and_eq_true] at hp;rw[okL] at hok;rw[wrL];rw[dL,List.append_assoc] at hc;have ht:zEA X (cs.take (wdF tg f)) J=dF tg f (at' t i):=by rw[qQF,hc,<- xOE tg f (at' t i),List.take_left]
  have hd:zEA X (cs.drop (wdF tg f)) J=dL tg r (i+1) t++rest:=by rw[ySD,hc,<- xOE tg f (at' t i),List.drop_left]
  have h1:(if f.tag<0/\has f v=true then wrF tg v x lv f (cs.take (wdF tg f)) o else o).eval X J=appD od (yHC v (rowP v x t i f)):=by
   unfold yHC rowP;by_cases h:f.tag<0/\has f v=true
   ·rw[if_pos h,if_pos h];exact ev_wrF hx f lv J _ o (at' t i) od hp.1 hlv ht ho (hok.1 (.inr h))
   ·rw[if_neg h,if_neg h,ho];rfl
  rw[yXK hx r lv (i+1) J _ _ t _ rest hp.2 hlv hd h1 hok.2,ySC];rfl
end
end Go.Mx
namespace Go.Mx
open Go Go.Dx
mutual
def zPL(tg:Bool):Fl->Bool
 | .mk _ _ _ _ _ _ of sub=>decide ((szV of (-1) (szS tg sub)).1<=100000)&&zWJ tg sub
def zWJ(tg:Bool):Option (List Fl)->Bool
 | none=>true
 | some l=>xHF tg l
def xHF(tg:Bool):List Fl->Bool
 | []=>true
 | f::r=>zPL tg f&&xHF tg r
end
section
variable {J:List D} {P:Nat->List D->Prop}
theorem zYB{o:Ob}(h:o.holds X P J):zCA X P [o] J:=⟨h,trivial⟩
theorem zSE{o:Ob}{l:List Ob}(h:o.holds X P J)(h2:zCA X P l J):zCA X P (o::l) J:=⟨h,h2⟩
theorem ySB{a b:List Ob}(h:zCA X P a J)(h2:zCA X P b J):zCA X P (a++b) J:=zTA.2 ⟨h,h2⟩
theorem foldI_c{A S:Type}(f:A->S->S)(l:List A)(s:S):qLA (fun _ a s=>f a s) 0 l s=l.foldl (fun s a=>f a s) s:=qDD f l 0 s
theorem all1L{s i0 b:DE}{A:Type}{L:List A}{e:A->D}{h:A->D->D}{os:List Ob}(hs:(s.eval X J).rows=L.map e)(hb:∀(i a:D) y,y∈L->b.eval X (J++[i,e y,a])=h y a)
  (ho:∀(k:Nat) (y:A),L[k]? = some y->zCA X P os (J++[.int k,e y,(L.take k).foldl (fun a y=>h y a) (i0.eval X J)])):(Ob.all s [i0] [b] os).holds X P J:=by
 have hF:Folds X J J.length s [i0] [b] e (fun a=>[a]) (fun _ y a=>h y a) L (i0.eval X J):=⟨List.take_length,hs,rfl,fun i a st hi _=>by
  rw[zAA,zBA,hb _ _ _ (List.mem_of_getElem? hi)]⟩
 refine hF.all (fun k y hk=>?_);rw[foldI_c];exact ho k y hk
end
section
variable {J:List D}
theorem xHG(k:Int)(d:D):∀l:List (Int×D),(insM k d l).length<=l.length+1
 | []=>by simp[insM]
 | x::r=>by
  have:=xHG k d r
  rw[insM];split
  ·simp;omega
  ·split <;> simp
end
end Go.Mx
namespace Go.Mx
open Go Go.Dx
theorem yKG(o:D)(s:List UInt8):(app o s).len=o.asStr.length+s.length:=by simp[app,D.len]
theorem yIG(o:D){s:List UInt8}(h:0<s.length):(appD o s).len=o.asStr.length+s.length:=by
 rw[<- yZA h,yKG]
section
variable {J:List D} {o:DE} {od:D}
theorem yHF{n:Nat}{l:List DE}(h:side n (zEA X l J)):zCA X side [.pre n l] J:=zYB h
theorem yRK(n:Nat)(l:List DE):X n (zEA X l J)=(DE.f (.ext n) l).eval X J:=by rw[ev_f,zIA]
theorem qAG(a b:D):side 10 [a,b]=((X 10 [a,b]).len<=lim):=rfl
theorem side_d25(a b:D):side 25 [a,b]=((X 25 [a,b]).len<=lim /\ ∀x∈mapL a,x.2.len<4294967296):=rfl
theorem xED(k:Int)(b x:Bool)(t:T)(p:List UInt8)(h:k≠10):0<(zXA k b x t p).length:=by
 unfold zXA;by_cases h0:k=0
 ·rw[if_pos h0];simp
 rw[if_neg h0];by_cases h7:k=7
 ·rw[if_pos h7,yAB];omega
 rw[if_neg h7];by_cases h8:k=8
 ·rw[if_pos h8];exact xSA (xBB _ _ _ _ (by omega))
 rw[if_neg h8];by_cases h9:k=9
 ·rw[if_pos h9];exact xSA (xBB _ _ _ _ (by omega))
 rw[if_neg h9,if_neg h];refine qRB _ _ ?_;unfold qVC
 repeat (first|decide|split)
theorem S_le(b x:Bool)(t:T)(k:Int)(p:List UInt8)(h:k=8∨k=9)(hS:t.S.length<=Most)(hb:b=false):t.S.length<=(zXA k b x t p).length:=by
 subst hb;rcases h with rfl|rfl
 ·simp only[zXA,show ¬((8:Int)=0) by decide,show ¬((8:Int)=7) by decide,if_true,if_false,Bool.false_eq_true];rw[List.take_of_length_le hS,List.length_append];omega
 ·simp only[zXA,show ¬((9:Int)=0) by decide,show ¬((9:Int)=7) by decide,show ¬((9:Int)=8) by decide,if_true,if_false,Bool.false_eq_true];rw[List.take_of_length_le hS,List.length_append];omega
theorem qAK{v k nl:Int}(x:Bool){cs:List DE}{t:T}{sd:List D}{sub:DE}{p:List UInt8}{b:Bool}(hk:k≠10)(hc:zEA X cs J=dV k nl t sd)(ho:o.eval X J=od)
  (hok:okV v k nl t) (hb:(k=8∨k=9)->b=(t.null&&(decide (0<=nl)&&decide (nl<=v)))) (hlen:od.asStr.length+(zXA k b x t p).length+16<=lim):zCA X side (qEJ (wrV x k nl v cs o sub)) J:=by
 have hev:=qII x (p:=p) (sub:=sub) hc ho (fun h=>absurd h hk) hok hb;have hd:=yIG od (xED k b x t p hk);have hle:((wrV x k nl v cs o sub).eval X J).len<=lim:=by rw[hev,hd];omega
 have two:∀(n:Nat) (a c:DE),wrV x k nl v cs o sub = .f (.ext n) [a,c]->(∀d e,(X n [d,e]).len<=lim->side n [d,e])->zCA X side (qEJ (wrV x k nl v cs o sub)) J:=fun n a c e h=>by
  rw[e] at hle ⊢;refine yHF ?_;rw[zAA,zAA,zBA];refine h _ _ ?_;rw[<- yRK,zAA,zAA,zBA] at hle;exact hle
 have hh:=zUC hc;by_cases h0:k=0
 ·exact two 2 o (qQA cs) (by unfold wrV;rw[if_pos h0]) (fun d e h=>h)
 by_cases h1:k=1
 ·exact two 3 o (qQA cs) (by unfold wrV;rw[if_neg h0,if_pos h1]) (fun d e h=>h)
 by_cases h2:k=2
 ·exact two 4 o (qQA cs) (by unfold wrV;rw[if_neg h0,if_neg h1,if_pos h2]) (fun d e h=>h)
 by_cases h3:k=3
 ·exact two 6 o (qQA cs) (by unfold wrV;rw[if_neg h0,if_neg h1,if_neg h2,if_pos h3]) (fun d e h=>h)
 by_cases h5:k=5
 ·exact two 5 o (qQA cs) (by unfold wrV;rw[if_neg h0,if_neg h1,if_neg h2,if_neg h3,if_pos h5]) (fun d e h=>h)
 by_cases h7:k=7
 ·exact two 9 o (.f .mkrow cs) (by unfold wrV;rw[if_neg h0,if_neg h1,if_neg h2,if_neg h3,if_neg h5,if_pos h7]) (fun d e h=>h)
 by_cases h8:k=8
 ·obtain⟨k1,k2⟩:=hok (.inl h8);have hbe:=hb (.inl h8);have hm:t.S.length<=32767:=k1;have hS:b=false->t.S.length<=(zXA k b x t p).length:=S_le b x t k p (.inl h8) k1;subst h8;by_cases hn:0<=nl/\nl<=v
  ·have e:wrV x 8 nl v cs o sub = .f (.ext (if x then 14 else 13)) [o,qQA cs]:=by unfold wrV;rw[if_neg h0,if_neg h1,if_neg h2,if_neg h3,if_neg h5,if_neg h7,if_pos rfl,if_pos hn]
   cases x with
   | false=>exact two 13 o (qQA cs) e (fun d e h=>h)
   | true =>
    have hbn:b=t.null:=by rw[hbe];simp[hn.1,hn.2]
    rw[e,if_pos rfl];refine yHF ?_;rw[zAA,zAA,zBA,ho,hh,zEL];have hcell:dV 8 nl t sd=[if t.null then .nil else .ptr (.str t.S)]:=by
     show (if nl<0 then _ else _)=_;rw[if_neg (by omega)]
    rw[hcell];cases htn:t.null with
    | true =>
     show (0:Nat)<2147483648/\od.asStr.length+0+5<=lim;exact⟨by omega,by omega⟩
    | false =>
     show t.S.length<2147483648/\od.asStr.length+t.S.length+5<=lim
     have:=hS (by rw[hbn,htn])
     exact⟨by omega,by omega⟩
  ·have hnl:t.null=false:=by
    cases ht:t.null with
    | false=>rfl
    | true=>exact absurd (k2 ht) hn
   have e:wrV x 8 nl v cs o sub = .f (.ext (if x then 12 else 11)) [o,if nl<0 then qQA cs else .f .ite [.f .not [.f .isNil [qQA cs]],.f (.get 0) [.f .deref [qQA cs]],.k (.str [])]]:=by unfold wrV;rw[if_neg h0,if_neg h1,if_neg h2,if_neg h3,if_neg h5,if_neg h7,if_pos rfl,if_neg hn]
   cases x with
   | false=>exact two 11 o _ e (fun d e h=>h)
   | true =>
    have ev:(if nl<0 then qQA cs else DE.f .ite [.f .not [.f .isNil [qQA cs]],.f (.get 0) [.f .deref [qQA cs]],.k (.str [])]).eval X J = .str t.S:=by
     have hcell:dV 8 nl t sd=if nl<0 then [.str t.S] else [if t.null then .nil else .ptr (.str t.S)]:=rfl
     rw[hcell] at hh;by_cases hn0:nl<0
     ·rw[if_pos hn0] at hh ⊢;rw[hh];rfl
     ·rw[if_neg hn0] at hh ⊢;simp only[ev_f,zAA,zBA,ev_k];rw[hh,hnl];rfl
    rw[e,if_pos rfl];refine yHF ?_;rw[zAA,zAA,zBA,ho,ev,yYI];show t.S.length<2147483648/\od.asStr.length+t.S.length+5<=lim
    have:=hS (by rw[hbe,hnl];rfl)
    exact⟨by omega,by omega⟩
 by_cases h9:k=9
 ·obtain⟨k1,k2⟩:=hok (.inr h9);have hbe:=hb (.inr h9);have hm:t.S.length<=32767:=k1;have hS:b=false->t.S.length<=(zXA k b x t p).length:=S_le b x t k p (.inr h9) k1;subst h9;have hcell:dV 9 nl t sd=[if t.null then .nil else .bytes t.S]:=rfl;rw[hcell] at hh;by_cases hn:0<=nl/\nl<=v
  ·have hbn:b=t.null:=by rw[hbe];simp[hn.1,hn.2]
   have e:wrV x 9 nl v cs o sub = .f (.ext (if x then 18 else 17)) [o,qQA cs]:=by unfold wrV;rw[if_neg h0,if_neg h1,if_neg h2,if_neg h3,if_neg h5,if_neg h7,if_neg h8,if_pos rfl,if_pos hn]
   cases x with
   | false=>exact two 17 o (qQA cs) e (fun d e h=>h)
   | true =>
    rw[e,if_pos rfl];refine yHF ?_;rw[zAA,zAA,zBA,ho,hh,zFL];cases htn:t.null with
    | true =>
     show (0:Nat)<2147483648/\od.asStr.length+0+5<=lim;exact⟨by omega,by omega⟩
    | false =>
     show t.S.length<2147483648/\od.asStr.length+t.S.length+5<=lim
     have:=hS (by rw[hbn,htn])
     exact⟨by omega,by omega⟩
  ·have hnl:t.null=false:=by
    cases ht:t.null with
    | false=>rfl
    | true=>exact absurd (k2 ht) hn
   have e:wrV x 9 nl v cs o sub = .f (.ext (if x then 16 else 15)) [o,qQA cs]:=by unfold wrV;rw[if_neg h0,if_neg h1,if_neg h2,if_neg h3,if_neg h5,if_neg h7,if_neg h8,if_pos rfl,if_neg hn]
   cases x with
   | false=>exact two 15 o (qQA cs) e (fun d e h=>h)
   | true =>
    rw[e,if_pos rfl];refine yHF ?_;rw[zAA,zAA,zBA,ho,hh,yZI,hnl];show t.S.length<2147483648/\od.asStr.length+t.S.length+5<=lim
    have:=hS (by rw[hbe,hnl];rfl)
    exact⟨by omega,by omega⟩
 exact two 7 o (qQA cs) (by unfold wrV;rw[if_neg h0,if_neg h1,if_neg h2,if_neg h3,if_neg h5,if_neg h7,if_neg h8,if_neg h9,if_neg hk]) (fun d e h=>h)
theorem xZK{v nl:Int}(x:Bool){c:DE}{t:T}{g:T->D}(hc:c.eval X J=if t.null then .nil else .list (t.L.map g))(ho:o.eval X J=od)(hL:t.L.length<=Most)
  (hn:t.null=true->(0<=nl/\nl<=v)∨t.L=[]) {b:Bool} (hb:b=(t.null&&(decide (0<=nl)&&decide (nl<=v)))) (hlen:od.asStr.length+(counted x b (if b then 0 else t.L.length) 4).length+16<=lim):zCA X side (qEJ (qMG x nl v c o)) J:=by
 have hev:=yUG x hc ho hn hb;have hd:=yIG od (xBB x b (if b then 0 else t.L.length) 4 (by omega));have hle:((qMG x nl v c o).eval X J).len<=lim:=by rw[hev,hd];omega
 have hl:(if t.null then D.nil else D.list (t.L.map g)).len<=32767:=by
  cases t.null
  ·show (t.L.map g).length<=_;rw[List.length_map];exact hL
  ·exact Nat.zero_le _
 unfold qMG at hle ⊢;by_cases h:0<=nl/\nl<=v
 ·rw[if_pos h] at hle ⊢;refine yHF ?_;rw[<- yRK] at hle;rw[zAA,zAA,zAA,zBA,ev_f,ev_f,zAA,zBA,yCA,qEB,ho,hc] at hle ⊢;cases x with
  | false=>exact hle
  | true =>
   show 0<=(_:Int)/\(_:Int)<2147483648/\od.asStr.length+5<=lim;simp only[zOA];exact⟨Int.natCast_nonneg _,by omega,by omega⟩
 ·rw[if_neg h] at hle ⊢;refine yHF ?_;rw[<- yRK] at hle;rw[zAA,zAA,zBA,ev_f,zAA,zBA,yCA,ho,hc] at hle ⊢;cases x with
  | false=>exact hle
  | true =>
   show 0<=(_:Int)/\(_:Int)<2147483648/\od.asStr.length+5<=lim;simp only[zOA];exact⟨Int.natCast_nonneg _,by omega,by omega⟩
theorem zJG(x:Bool){c:DE}{u:List Tg}{p:List UInt8}(hc:x=true->c.eval X J=tagD u)(ho:o.eval X J=appD od p)(hu:qYA u)(hlen:x=true->od.asStr.length+(p++qKB u).length+16<=lim):zCA X side (zGJ x c o) J:=by
 cases x with
 | false=>trivial
 | true =>
  have hev:=zIF true hc ho hu;have hlen:=hlen rfl;have hc:=hc rfl;have hpos:0<(p++qKB u).length:=by rw[List.length_append,qKB,List.length_append];have:=qLC (n:=u.length);omega
  have hd:=yIG od hpos;unfold qAH at hev;rw[if_pos rfl,if_pos rfl] at hev;unfold zGJ;rw[if_pos rfl];have e24:(DE.f (.add .u32) [.k (.int 0),.f (.wrap .u32) [.f (.ext 24) [c]]]).eval X J = .int u.length:=by
   simp only[ev_f,zAA,zBA,ev_k];have hL:=zUL hu.1;have h2:=hu.2.1;rw[hc,zIA,X_24,hL,List.length_map,zLA,zWC];rw[yXB (x:=(u.length:Int)) (by omega) (by simp[Most] at h2;omega),Int.zero_add,yXB (by omega) (by simp[Most] at h2;omega)]
  refine zSE ?_ (zSE ?_ (zYB ?_))
  ·simp only[Ob.holds];rw[zAA,zAA,zBA,side_d25];rw[ev_f,zAA,zAA,zBA,zIA] at hev;refine⟨by rw[hev,hd];omega,fun x hx=>?_⟩;rw[hc,zUL hu.1] at hx;obtain⟨y,hy,rfl⟩:=List.mem_map.1 hx
   have:=(hu.2.2 y hy).2.2
   simp only[Most] at this;show (encB y.val).len<_;rw[yRA];omega
  ·simp only[Ob.holds];rw[zAA,zAA,zBA,qAG,e24,ho,X_10,yKG,zOA,Int.toNat_natCast,yJG,List.length_append];rw[List.length_append,qKB,List.length_append] at hlen;omega
  ·exact trivial
theorem xYK(k nl v:Int)(c:DE):zCA X side (obNil k nl v c) J:=by
 unfold obNil;split
 ·refine zYB ?_;simp only[Ob.holds];intro h;refine zYB ?_;simp only[Ob.holds];intro h2;have e:(DE.f .not [.f .isNil [c]]).eval X J = .bool (!(c.eval X J).isNil):=by
   rw[ev_f,zAA,zBA,ev_f,zAA,zBA,qEB,zJF]
  have e2:(DE.f .isNil [c]).eval X J = .bool (c.eval X J).isNil:=by
   rw[ev_f,zAA,zBA,qEB]
  rw[e,zVA] at h;rw[e2,zVA] at h2;rw[h2] at h;cases h
 ·trivial
end
end Go.Mx
namespace Go.Mx
open Go Go.Dx
mutual
theorem obs_owF{al tg x:Bool}{v:Int}(hx:x=true->tg=true):∀(f:Fl) (lv:Nat) (J:List D) (cs:List DE) (o:DE) (t:T) (od:D),xSD f=true->lv=J.length->zEA X cs J=dF tg f t->o.eval X J=od->okF al v f t->od.asStr.length+(field f v x t).length+16<=lim->zCA X side (owF tg v x lv f cs o) J
 | .mk k a b nl g df of sub,lv,J,cs,o,t,od,hp,hlv,hc,ho,hok,hlen=>by
  obtain⟨_,hp10,hp11,hps⟩:=zFC hp;rw[zEB] at hlen;simp only[Fl.kind,Fl.null,Fl.of,Fl.sub] at hlen;rw[owF];unfold yZB at hlen;by_cases h:k=11
  ·have hof:=hp11 h;subst h;subst hlv;simp only[if_true] at hlen ⊢;rw[dF,if_pos rfl] at hc;rw[okF,if_pos rfl] at hok;obtain⟨q1,q2,q3⟩:=hok;have hh:(qQA cs).eval X J=if t.null then .nil else .list (t.L.map fun y=>elD of (dV of (-1) y (dS tg sub y)) y):=zUC hc
   have q2':t.null=true->(0<=nl/\nl<=v)∨t.L=[]:=fun h=>(q2 h).imp id (fun h=>h.2)
   have hlenD:=yUG x hh ho q2' (b:=Mx.null (.mk 11 a b nl g df of sub) v t) rfl;have hlv:J.length<=J.length:=Nat.le_refl _;have env:∀(i r a:D),(DE.v (J.length+1)).eval X (J++[i,r,a])=r/\(DE.v (J.length+2)).eval X (J++[i,r,a])=a/\J.length+3=(J++[i,r,a]).length:=fun i r a=>by
    have:=yQK (J:=J) (Nat.le_refl _) i r a
    rw[List.take_length] at this;exact⟨this.1,this.2.1,by simp⟩
   have hgets:∀(i aa:D) (y:T),zEA X (yRE (.v (J.length+1)) (wdV tg of sub)) (J++[i,elD of (dV of (-1) y (dS tg sub y)) y,aa])=dV of (-1) y (dS tg sub y):=by
    intro i aa y;obtain⟨e1,e2,e3⟩:=env i (elD of (dV of (-1) y (dS tg sub y)) y) aa;have hcells:=qTG of y (dS tg sub y)
    have:=qKE (r:=.v (J.length+1)) (J:=J++[i,elD of (dV of (-1) y (dS tg sub y)) y,aa]) (l:=dV of (-1) y (dS tg sub y)) (by rw[e1];exact hcells)
    rwa [qBI of (-1) y _ tg sub (yKK tg sub y)] at this
   have hsd:of=10 -> ∀y,dV of (-1) y (dS tg sub y)=dS tg sub y:=fun h10 y=>by subst h10;rfl
   have hbody:∀(i aa:D) (y:T),y∈t.L->(wrV x of (-1) v (yRE (.v (J.length+1)) (wdV tg of sub)) (.v (J.length+2)) (wrS tg v x (J.length+3) sub (yRE (.v (J.length+1)) (wdV tg of sub)) (.v (J.length+2)))).eval X (J++[i,elD of (dV of (-1) y (dS tg sub y)) y,aa])=appD aa (zXA of false x y (zYA sub v x y)):=by
    intro i aa y hy;obtain⟨e1,e2,e3⟩:=env i (elD of (dV of (-1) y (dS tg sub y)) y) aa;obtain⟨o1,o2⟩:=q3 y hy;refine qII x (hgets i aa y) e2 (fun h10=>?_) o1 (fun _=>by simp);exact qHI hx sub (J.length+3) _ _ _ y _ hps (Nat.le_of_eq e3) ((hgets i aa y).trans (hsd h10 y)) e2 (o2 h10)
   refine ySB (zYB ?_) ?_
   ·cases hn:t.null with
    | true =>
     rw[hn] at hh;exact all1L (L:=([]:List T)) (e:=fun y=>elD of (dV of (-1) y (dS tg sub y)) y) (h:=fun y a=>a) (by rw[hh];rfl) (fun _ _ y hy=>by cases hy) (fun k y hk=>by simp at hk)
    | false =>
     have hb:Mx.null (.mk 11 a b nl g df of sub) v t=false:=by rw[zEC,hn];rfl
     rw[hb] at hlenD hlen;rw[hn] at hh;simp only[Bool.false_eq_true,if_false] at hlen hlenD;rw[List.take_of_length_le q1] at hlen;refine all1L (L:=t.L) (e:=fun y=>elD of (dV of (-1) y (dS tg sub y)) y) (h:=fun y a=>appD a (zXA of false x y (zYA sub v x y))) (by rw[hh];rfl) hbody (fun kk y hk=>?_);have hy:=List.mem_of_getElem? hk;obtain⟨o1,o2⟩:=q3 y hy;rw[yQE,hlenD,ySC];have hw:(t.L.map fun y=>zXA of false x y (zYA sub v x y))[kk]? = some (zXA of false x y (zYA sub v x y)):=by rw[List.getElem?_map,hk];rfl
     obtain⟨r,hr⟩:=xAG hw;rw[hr,<- List.map_take] at hlen;generalize hacc:appD od (counted x false t.L.length 4++((t.L.take kk).map fun y=>zXA of false x y (zYA sub v x y)).flatten)=acc;have hal:acc.asStr.length+(zXA of false x y (zYA sub v x y)).length+16<=lim:=by
      rw[<- hacc,yJG];simp only[List.length_append] at hlen ⊢;omega
     obtain⟨e1,e2,e3⟩:=env (.int kk) (elD of (dV of (-1) y (dS tg sub y)) y) acc;have hg:=hgets (.int kk) acc y;by_cases h10:of=10
     ·rw[if_pos h10];have hv:zXA of false x y (zYA sub v x y)=zYA sub v x y:=by subst h10;rfl
      rw[hv] at hal;exact yAI hx sub (J.length+3) _ _ _ y acc hps e3 (hg.trans (hsd h10 y)) e2 (o2 h10) hal
     ·rw[if_neg h10];exact qAK x h10 hg e2 o1 (fun _=>by simp) hal
   ·refine xZK x hh ho q1 q2' (b:=Mx.null (.mk 11 a b nl g df of sub) v t) rfl ?_;have hle:(counted x (Mx.null (.mk 11 a b nl g df of sub) v t) (if Mx.null (.mk 11 a b nl g df of sub) v t then 0 else t.L.length) 4).length=(counted x (Mx.null (.mk 11 a b nl g df of sub) v t) (if Mx.null (.mk 11 a b nl g df of sub) v t then ([]:List T) else t.L.take Most).length 4).length:=by
     rw[List.take_of_length_le q1];cases Mx.null (.mk 11 a b nl g df of sub) v t <;> rfl
    rw[hle];simp only[List.length_append] at hlen;omega
  ·rw[if_neg h];rw[if_neg h] at hlen;rw[dF,if_neg h] at hc;rw[okF,if_neg h] at hok;obtain⟨o1,o2⟩:=hok;rw[if_neg (fun e=>by have:=hp10 e.1;omega)] at hlen;by_cases h10:k=10
   ·rw[if_pos h10];have hsd:dV k nl t (dS tg sub t)=dS tg sub t:=by subst h10;rfl
    rw[hsd] at hc;have hv:∀b',zXA k b' x t (zYA sub v x t)=zYA sub v x t:=fun b'=>by subst h10;rfl
    rw[hv] at hlen;exact yAI hx sub lv J cs o t od hps hlv hc ho (o2 h10) hlen
   ·rw[if_neg h10];exact ySB (qAK x h10 hc ho o1 (fun _=>rfl) hlen) (xYK _ _ _ _)
theorem yAI{al tg x:Bool}{v:Int}(hx:x=true->tg=true):∀(fs:Option (List Fl)) (lv:Nat) (J:List D) (cs:List DE) (o:DE) (t:T) (od:D),zGC fs=true->lv=J.length->zEA X cs J=dS tg fs t->o.eval X J=od->okS al v fs t->od.asStr.length+(zYA fs v x t).length+16<=lim->zCA X side (owS tg v x lv fs cs o) J
 | none,lv,J,cs,o,t,od,hp,hlv,hc,ho,hok,hlen=>by
  rw[xIA hp hok] at hlen;rw[owS];refine zJG (od:=od) (p:=[]) x (fun hxt=>?_) ho hok (fun hxt=>?_)
  ·rw[dS,hx hxt,if_pos rfl] at hc;exact zUC hc
  ·rw[hxt,if_pos rfl] at hlen;exact hlen
 | some l,lv,J,cs,o,t,od,hp,hlv,hc,ho,hok,hlen=>by
  rw[xIA hp (yYD hok)] at hlen;rw[owS];rw[dS] at hc;have h1:=yXK hx l lv 0 J cs o t od _ hp (Nat.le_of_eq hlv) hc ho hok.2;refine ySB (zJG x (fun hxt=>?_) h1 (yYD hok) (fun hxt=>?_)) (zZI hx l lv 0 J cs o t od _ hp hlv hc ho hok.2 ?_)
  ·have hd:zEA X (cs.drop (wdL tg l)) J=[tagD t.U]:=by
    rw[ySD,hc,hx hxt,if_pos rfl,<- qAI true l 0 t,List.drop_left]
   exact zUC hd
  ·rw[hxt,if_pos rfl] at hlen;rw[hxt];exact hlen
  ·cases x with
   | true =>
    rw[if_pos rfl,List.length_append] at hlen
    have:(outP ((some l).getD []) v true t).length=((mapI (fun i f=>yHC v (rowP v true t i f)) 0 l).flatten).length:=rfl
    omega
   | false=>exact hlen
theorem zZI{al tg x:Bool}{v:Int}(hx:x=true->tg=true):∀(l:List Fl) (lv i:Nat) (J:List D) (cs:List DE) (o:DE) (t:T) (od:D) (rest:List D),yDB l=true->lv=J.length->zEA X cs J=dL tg l i t++rest->o.eval X J=od->okL al v l i t->od.asStr.length+((mapI (fun i f=>yHC v (rowP v x t i f)) i l).flatten).length+16<=lim->zCA X side (owL tg v x lv l cs o) J
 | [],lv,i,J,cs,o,t,od,rest,hp,hlv,hc,ho,hok,hlen=>by rw[owL];trivial
 | f::r,lv,i,J,cs,o,t,od,rest,hp,hlv,hc,ho,hok,hlen=>by
  simp only[yDB,Bool.and_eq_true] at hp;rw[okL] at hok;rw[owL];rw[dL,List.append_assoc] at hc;have ht:zEA X (cs.take (wdF tg f)) J=dF tg f (at' t i):=by rw[qQF,hc,<- xOE tg f (at' t i),List.take_left]
  have hd:zEA X (cs.drop (wdF tg f)) J=dL tg r (i+1) t++rest:=by rw[ySD,hc,<- xOE tg f (at' t i),List.drop_left]
  rw[mapI,List.flatten_cons,List.length_append] at hlen;by_cases h:f.tag<0/\has f v=true
  ·rw[if_pos h];have hce:yHC v (rowP v x t i f)=field f v x (at' t i):=by unfold yHC rowP;rw[if_pos h]
   rw[hce] at hlen;have hokf:=hok.1 (.inr h);have h1:=ev_wrF hx f lv J _ o (at' t i) od hp.1 (Nat.le_of_eq hlv) ht ho hokf;refine ySB (zZI hx r lv (i+1) J _ _ t _ rest hp.2 hlv hd h1 hok.2 ?_) (obs_owF hx f lv J _ o (at' t i) od hp.1 hlv ht ho hokf (by omega));rw[yJG,List.length_append];omega
  ·rw[if_neg h];exact zZI hx r lv (i+1) J _ _ t od rest hp.2 hlv hd ho hok.2 (by omega)
end
def yBI(m:Msg):Bool:=zGC m.fs&&zWJ m.tg m.fs&&(m.tg || decide (m.fx<0))
theorem msgX{m:Msg}(h:yBI m=true)(v:Int):zPA m.fx v=true->m.tg=true:=by
 simp only[yBI,Bool.and_eq_true,Bool.or_eq_true,decide_eq_true_eq] at h;intro hx;rcases h.2 with h|h
 ·exact h
 ·simp only[zPA,Bool.and_eq_true,decide_eq_true_eq] at hx;omega
end Go.Mx
namespace Go.Mx
open Go Go.Dx
def deR61:DE:=(.f .ite [.f .ltI [.f .len [.v 0],.k (.int 1)],.f .mkrow [.k (.bool false),.k .nil,.k (.bool true)],.f .mkrow [.f .neI [.f (.get 0) [.f .at [.v 0,.k (.int 0)]],.k (.int 0)],.f .drop [.v 0,.k (.int 1)],.k (.bool false)]])
def obR61:List Ob:=[.when (.f .ltI [.f .len [.v 0],.k (.int 1)]) false [.idx (.k (.int 1)) (.v 0) false,.idx (.k (.int 0)) (.v 0) true]]
def deR62:DE:=(.f .ite [.f .ltI [.f .len [.v 0],.k (.int 1)],.f .mkrow [.k (.int 0),.k .nil,.k (.bool true)],.f .mkrow [.f (.wrap .i8) [.f (.get 0) [.f .at [.v 0,.k (.int 0)]]],.f .drop [.v 0,.k (.int 1)],.k (.bool false)]])
def obR62:List Ob:=[.when (.f .ltI [.f .len [.v 0],.k (.int 1)]) false [.idx (.k (.int 1)) (.v 0) false,.idx (.k (.int 0)) (.v 0) true]]
def deR63:DE:=(.f .ite [.f .ltI [.f .len [.v 0],.k (.int 2)],.f .mkrow [.k (.int 0),.k .nil,.k (.bool true)],.f .mkrow [.f (.wrap .i16) [.f (.bor .u16) [.f (.wrap .u16) [.f (.get 0) [.f .at [.v 0,.k (.int 1)]]],.f (.shl .u16) [.f (.wrap .u16) [.f (.get 0) [.f .at [.v 0,.k (.int 0)]]],.k (.int 8)]]],.f .drop [.v 0,.k (.int 2)],.k (.bool false)]])
def obR63:List Ob:=[.when (.f .ltI [.f .len [.v 0],.k (.int 2)]) false [.idx (.k (.int 2)) (.v 0) false,.idx (.k (.int 0)) (.v 0) true,.idx (.k (.int 1)) (.v 0) true,.idx (.k (.int 1)) (.v 0) true]]
def deR64:DE:=(.f .ite [.f .ltI [.f .len [.v 0],.k (.int 2)],.f .mkrow [.k (.int 0),.k .nil,.k (.bool true)],.f .mkrow [.f (.bor .u16) [.f (.wrap .u16) [.f (.get 0) [.f .at [.v 0,.k (.int 1)]]],.f (.shl .u16) [.f (.wrap .u16) [.f (.get 0) [.f .at [.v 0,.k (.int 0)]]],.k (.int 8)]],.f .drop [.v 0,.k (.int 2)],.k (.bool false)]])
def obR64:List Ob:=[.when (.f .ltI [.f .len [.v 0],.k (.int 2)]) false [.idx (.k (.int 2)) (.v 0) false,.idx (.k (.int 0)) (.v 0) true,.idx (.k (.int 1)) (.v 0) true,.idx (.k (.int 1)) (.v 0) true]]
def deR65:DE:=(.f .ite [.f .ltI [.f .len [.v 0],.k (.int 4)],.f .mkrow [.k (.int 0),.k .nil,.k (.bool true)],.f .mkrow [.f (.wrap .i32) [.f (.ext 87) [.f .mkrow [],.v 0]],.f .drop [.v 0,.k (.int 4)],.k (.bool false)]])
def obR65:List Ob:=[.when (.f .ltI [.f .len [.v 0],.k (.int 4)]) false [.idx (.k (.int 4)) (.v 0) false,.pre 87 [.f .mkrow [],.v 0]]]
theorem ks1{ds:List D}(hk:KsOk [.byts] ds):∃s,ds=[s]:=by
 obtain @⟨⟩ | @⟨_,d,_,_,_,hk⟩:=hk;cases hk;exact⟨d,rfl⟩
theorem rows_by(s:List UInt8):(D.bytes s).rows=s.map fun x=>.int x.toNat:=rfl
theorem zTC(n:Nat)(s:List UInt8):(D.bytes s).dropD n = .bytes (s.drop n):=rfl
theorem takeD_by(n:Nat)(s:List UInt8):(D.bytes s).takeD n = .bytes (s.take n):=rfl
theorem zZA(s:List UInt8):(D.bytes s).asStr=s:=rfl
theorem zBC(s:List UInt8):(D.bytes s).len=s.length:=rfl
theorem getB(s:List UInt8)(i:Int)(b:UInt8)(h:s[i.toNat]? = some b):Fn.eval X (.get 0) [Fn.eval X .at [.bytes s,.int i]] = .int b.toNat:=by
 rw[zCH,rows_by,List.getD_eq_getElem?_getD,List.getElem?_map,h];rfl
theorem len1{b:List UInt8}(h:1<=b.length):∃x r,b=x::r:=by
 match b,h with
 | x::r,_=>exact⟨x,r,rfl⟩
theorem len2{b:List UInt8}(h:2<=b.length):∃x y r,b=x::y::r:=by
 match b,h with
 | x::y::r,_=>exact⟨x,y,r,rfl⟩
theorem len4{b:List UInt8}(h:4<=b.length):∃x y z u r,b=x::y::z::u::r:=by
 match b,h with
 | x::y::z::u::r,_=>exact⟨x,y,z,u,r,rfl⟩
theorem yTA(v:D)(s:List UInt8):Fn.eval X .mkrow [v,.bytes s,.bool false]=rowR v s:=by rw[xNC];rfl
theorem xXC{n:Nat}{m:Int}(h:m<=n):Fn.eval X .ltI [.int (n:Nat),.int m] = .bool false:=by
 rw[zOB];congr 1;simp;omega
theorem zSD(a b:D):Fn.eval X .ite [.bool false,a,b]=b:=rfl
theorem zKI(a b:D):Fn.eval X .ite [.bool true,a,b]=a:=rfl
section
variable {J:List D}
theorem xYH{c:DE}{o:List Ob}(h:zCA X side o J):zCA X side [.when c false o] J:=zYB (by simp only[Ob.holds];exact fun _=>h)
theorem idxF{s:List UInt8}{n:Int}{e d:DE}(he:e.eval X J = .int n)(hd:d.eval X J = .bytes s)(h0:0<=n)(h:n.toNat<=s.length):(Ob.idx e d false).holds X side J:=by
 simp only[Ob.holds,he,hd,zOA,zBC];refine⟨h0,?_⟩;simp only[Bool.false_eq_true,if_false];omega
theorem idxT{s:List UInt8}{n:Int}{e d:DE}(he:e.eval X J = .int n)(hd:d.eval X J = .bytes s)(h0:0<=n)(h:n.toNat<s.length):(Ob.idx e d true).holds X side J:=by
 simp only[Ob.holds,he,hd,zOA,zBC];refine⟨h0,?_⟩;simp only[if_true];omega
end
theorem evR61(ds:List D)(hk:KsOk [.byts] ds)(h:side 61 ds):zCA X side obR61 ds/\deR61.eval X ds=X 61 ds:=by
 obtain⟨s,rfl⟩:=ks1 hk;rw[side_61] at h;obtain⟨b,rfl,hl⟩:=h;obtain⟨x,r,rfl⟩:=len1 hl;have hlt:(1:Int)<=((x::r).length:Nat):=by simp only[List.length_cons];omega
 refine⟨?_,?_⟩
 ·unfold obR61;refine xYH ?_;refine⟨idxF (s:=x::r) rfl rfl (by decide) (by simp only[List.length_cons];omega),?_⟩
  repeat (first|exact trivial|(refine⟨idxT (s:=x::r) rfl rfl (by decide) (by simp only[List.length_cons];omega),?_⟩))
 ·simp only[deR61,ev_f,zAA,zBA,ev_v,ev_k,List.getD_cons_zero];rw[yCA,zBC,xXC hlt,zSD,xMC,zTC];have g0:Fn.eval X (.get 0) [Fn.eval X .at [.bytes (x::r),.int 0]] = .int x.toNat:=getB _ _ _ rfl;have l0:=x.toNat_lt;simp only[g0];rw[zEH,yTA,X_61,zZA]
  congr 2
  simp[beN,bne]
  try rw[Bool.eq_iff_iff];simp;try omega
theorem evR62(ds:List D)(hk:KsOk [.byts] ds)(h:side 62 ds):zCA X side obR62 ds/\deR62.eval X ds=X 62 ds:=by
 obtain⟨s,rfl⟩:=ks1 hk;rw[side_62] at h;obtain⟨b,rfl,hl⟩:=h;obtain⟨x,r,rfl⟩:=len1 hl;have hlt:(1:Int)<=((x::r).length:Nat):=by simp only[List.length_cons];omega
 refine⟨?_,?_⟩
 ·unfold obR62;refine xYH ?_;refine⟨idxF (s:=x::r) rfl rfl (by decide) (by simp only[List.length_cons];omega),?_⟩
  repeat (first|exact trivial|(refine⟨idxT (s:=x::r) rfl rfl (by decide) (by simp only[List.length_cons];omega),?_⟩))
 ·simp only[deR62,ev_f,zAA,zBA,ev_v,ev_k,List.getD_cons_zero];rw[yCA,zBC,xXC hlt,zSD,xMC,zTC];have g0:Fn.eval X (.get 0) [Fn.eval X .at [.bytes (x::r),.int 0]] = .int x.toNat:=getB _ _ _ rfl;have l0:=x.toNat_lt;simp only[g0];rw[zLA,yTA,X_62,zZA];simp[rI,beN]
theorem evR63(ds:List D)(hk:KsOk [.byts] ds)(h:side 63 ds):zCA X side obR63 ds/\deR63.eval X ds=X 63 ds:=by
 obtain⟨s,rfl⟩:=ks1 hk;rw[side_63] at h;obtain⟨b,rfl,hl⟩:=h;obtain⟨x,y,r,rfl⟩:=len2 hl;have hlt:(2:Int)<=((x::y::r).length:Nat):=by simp only[List.length_cons];omega
 refine⟨?_,?_⟩
 ·unfold obR63;refine xYH ?_;refine⟨idxF (s:=x::y::r) rfl rfl (by decide) (by simp only[List.length_cons];omega),?_⟩
  repeat (first|exact trivial|(refine⟨idxT (s:=x::y::r) rfl rfl (by decide) (by simp only[List.length_cons];omega),?_⟩))
 ·simp only[deR63,ev_f,zAA,zBA,ev_v,ev_k,List.getD_cons_zero];rw[yCA,zBC,xXC hlt,zSD,xMC,zTC];have g0:Fn.eval X (.get 0) [Fn.eval X .at [.bytes (x::y::r),.int 0]] = .int x.toNat:=getB _ _ _ rfl;have l0:=x.toNat_lt;have g1:Fn.eval X (.get 0) [Fn.eval X .at [.bytes (x::y::r),.int 1]] = .int y.toNat:=getB _ _ _ rfl;have l1:=y.toNat_lt;simp only[g0,g1];rw[zLA,zLA];have w0:IntKind.u16.wrap (x.toNat:Int)=x.toNat:=yGC rfl (by simp[IntKind.bits];omega);have w1:IntKind.u16.wrap (y.toNat:Int)=y.toNat:=yGC rfl (by simp[IntKind.bits];omega);rw[w0,w1,show (8:Int)=((8:Nat):Int) from rfl,yVI (k:=.u16) rfl x.toNat 8 (by decide) (by simp[IntKind.bits];omega),qIH (k:=.u16) rfl x.toNat y.toNat 8 (by omega) (by simp[IntKind.bits];omega)];have e:beN ((x::y::r).take 2)=x.toNat*2 ^ 8+y.toNat:=by simp[beN]
  rw[zLA,yTA,X_63,zZA];simp only[rI,e];rfl
theorem evR64(ds:List D)(hk:KsOk [.byts] ds)(h:side 64 ds):zCA X side obR64 ds/\deR64.eval X ds=X 64 ds:=by
 obtain⟨s,rfl⟩:=ks1 hk;rw[side_64] at h;obtain⟨b,rfl,hl⟩:=h;obtain⟨x,y,r,rfl⟩:=len2 hl;have hlt:(2:Int)<=((x::y::r).length:Nat):=by simp only[List.length_cons];omega
 refine⟨?_,?_⟩
 ·unfold obR64;refine xYH ?_;refine⟨idxF (s:=x::y::r) rfl rfl (by decide) (by simp only[List.length_cons];omega),?_⟩
  repeat (first|exact trivial|(refine⟨idxT (s:=x::y::r) rfl rfl (by decide) (by simp only[List.length_cons];omega),?_⟩))
 ·simp only[deR64,ev_f,zAA,zBA,ev_v,ev_k,List.getD_cons_zero];rw[yCA,zBC,xXC hlt,zSD,xMC,zTC];have g0:Fn.eval X (.get 0) [Fn.eval X .at [.bytes (x::y::r),.int 0]] = .int x.toNat:=getB _ _ _ rfl;have l0:=x.toNat_lt;have g1:Fn.eval X (.get 0) [Fn.eval X .at [.bytes (x::y::r),.int 1]] = .int y.toNat:=getB _ _ _ rfl;have l1:=y.toNat_lt;simp only[g0,g1];rw[zLA,zLA];have w0:IntKind.u16.wrap (x.toNat:Int)=x.toNat:=yGC rfl (by simp[IntKind.bits];omega);have w1:IntKind.u16.wrap (y.toNat:Int)=y.toNat:=yGC rfl (by simp[IntKind.bits];omega);rw[w0,w1,show (8:Int)=((8:Nat):Int) from rfl,yVI (k:=.u16) rfl x.toNat 8 (by decide) (by simp[IntKind.bits];omega),qIH (k:=.u16) rfl x.toNat y.toNat 8 (by omega) (by simp[IntKind.bits];omega)];have e:beN ((x::y::r).take 2)=x.toNat*2 ^ 8+y.toNat:=by simp[beN]
  rw[yTA,X_64,zZA];simp only[rI,e];rw[yGC (k:=.u16) rfl (by simp[IntKind.bits];omega)];rfl
theorem evR65(ds:List D)(hk:KsOk [.byts] ds)(h:side 65 ds):zCA X side obR65 ds/\deR65.eval X ds=X 65 ds:=by
 obtain⟨s,rfl⟩:=ks1 hk;rw[side_65] at h;obtain⟨b,rfl,hl⟩:=h;have hlt:(4:Int)<=(b.length:Nat):=by omega
 refine⟨?_,?_⟩
 ·unfold obR65;refine xYH ?_
  repeat (first|exact trivial|(refine⟨idxF (s:=b) rfl rfl (by decide) (by simpa using hl),?_⟩)|(refine⟨(⟨b,rfl,hl⟩:side 87 [_,D.bytes b]),?_⟩))
 ·simp only[deR65,ev_f,zAA,zBA,ev_v,ev_k,List.getD_cons_zero];rw[yCA,zBC,xXC hlt,zSD,xMC,zTC,zIA,X_87,zZA,zLA,yTA,X_65,zZA];rfl
end Go.Mx
namespace Go.Mx
open Go Go.Dx
def deR66:DE:=(.f .mkrow [.f (.wrap .i64) [.f (.get 0) [.f (.ext 69) [.v 0]]],.f (.get 1) [.f (.ext 69) [.v 0]],.k (.bool false)])
def obR66:List Ob:=[.pre 69 [.v 0]]
def deR69:DE:=(.f .ite [.f .ltI [.f .len [.v 0],.k (.int 8)],.f .mkrow [.k (.int 0),.k .nil,.k (.bool true)],.f .mkrow [.f (.ext 86) [.f .mkrow [],.v 0],.f .drop [.v 0,.k (.int 8)],.k (.bool false)]])
def obR69:List Ob:=[.when (.f .ltI [.f .len [.v 0],.k (.int 8)]) false [.idx (.k (.int 8)) (.v 0) false,.pre 86 [.f .mkrow [],.v 0]]]
def deR70:DE:=(.f .ite [.f .leI [.f .ite [.f .ltI [.f .len [.v 0],.k (.int 1)],.k (.int 0),.f .ite [.f .eqI [.f (.band .u8) [.f (.get 0) [.f .at [.v 0,.k (.int 0)]],.k (.int 128)],.k (.int 0)],.k (.int 1),.f .ite [.f .ltI [.f .len [.v 0],.k (.int 2)],.k (.int 0),.f .ite [.f .eqI [.f (.band .u8) [.f (.get 0) [.f .at [.v 0,.k (.int 1)]],.k (.int 128)],.k (.int 0)],.k (.int 2),.f .ite [.f .ltI [.f .len [.v 0],.k (.int 3)],.k (.int 0),.f .ite [.f .eqI [.f (.band .u8) [.f (.get 0) [.f .at [.v 0,.k (.int 2)]],.k (.int 128)],.k (.int 0)],.k (.int 3),.f .ite [.f .ltI [.f .len [.v 0],.k (.int 4)],.k (.int 0),.f .ite [.f .eqI [.f (.band .u8) [.f (.get 0) [.f .at [.v 0,.k (.int 3)]],.k (.int 128)],.k (.int 0)],.k (.int 4),.f .ite [.f .ltI [.f .len [.v 0],.k (.int 5)],.k (.int 0),.f .ite [.f .leI [.f (.get 0) [.f .at [.v 0,.k (.int 4)]],.k (.int 15)],.k (.int 5),.k (.int (-5))]]]]]]]]]],.k (.int 0)],.f .mkrow [.k (.int 0),.k .nil,.k (.bool true)],.f .mkrow [.f .ite [.f .ltI [.f .len [.v 0],.k (.int 1)],.k (.int 0),.f .ite [.f .eqI [.f (.band .u8) [.f (.get 0) [.f .at [.v 0,.k (.int 0)]],.k (.int 128)],.k (.int 0)],.f (.wrap .u32) [.f (.band .u8) [.f (.get 0) [.f .at [.v 0,.k (.int 0)]],.k (.int 127)]],.f .ite [.f .ltI [.f .len [.v 0],.k (.int 2)],.k (.int 0),.f .ite [.f .eqI [.f (.band .u8) [.f (.get 0) [.f .at [.v 0,.k (.int 1)]],.k (.int 128)],.k (.int 0)],.f (.bor .u32) [.f (.wrap .u32) [.f (.band .u8) [.f (.get 0) [.f .at [.v 0,.k (.int 0)]],.k (.int 127)]],.f (.shl .u32) [.f (.wrap .u32) [.f (.band .u8) [.f (.get 0) [.f .at [.v 0,.k (.int 1)]],.k (.int 127)]],.k (.int 7)]],.f .ite [.f .ltI [.f .len [.v 0],.k (.int 3)],.k (.int 0),.f .ite [.f .eqI [.f (.band .u8) [.f (.get 0) [.f .at [.v 0,.k (.int 2)]],.k (.int 128)],.k (.int 0)],.f (.bor .u32) [.f (.bor .u32) [.f (.wrap .u32) [.f (.band .u8) [.f (.get 0) [.f .at [.v 0,.k (.int 0)]],.k (.int 127)]],.f (.shl .u32) [.f (.wrap .u32) [.f (.band .u8) [.f (.get 0) [.f .at [.v 0,.k (.int 1)]],.k (.int 127)]],.k (.int 7)]],.f (.shl .u32) [.f (.wrap .u32) [.f (.band .u8) [.f (.get 0) [.f .at [.v 0,.k (.int 2)]],.k (.int 127)]],.k (.int 14)]],.f .ite [.f .ltI [.f .len [.v 0],.k (.int 4)],.k (.int 0),.f .ite [.f .eqI [.f (.band .u8) [.f (.get 0) [.f .at [.v 0,.k (.int 3)]],.k (.int 128)],.k (.int 0)],.f (.bor .u32) [.f (.bor .u32) [.f (.bor .u32) [.f (.wrap .u32) [.f (.band .u8) [.f (.get 0) [.f .at [.v 0,.k (.int 0)]],.k (.int 127)]],.f (.shl .u32) [.f (.wrap .u32) [.f (.band .u8) [.f (.get 0) [.f .at [.v 0,.k (.int 1)]],.k (.int 127)]],.k (.int 7)]],.f (.shl .u32) [.f (.wrap .u32) [.f (.band .u8) [.f (.get 0) [.f .at [.v 0,.k (.int 2)]],.k (.int 127)]],.k (.int 14)]],.f (.shl .u32) [.f (.wrap .u32) [.f (.band .u8) [.f (.get 0) [.f .at [.v 0,.k (.int 3)]],.k (.int 127)]],.k (.int 21)]],.f .ite [.f .ltI [.f .len [.v 0],.k (.int 5)],.k (.int 0),.f .ite [.f .leI [.f (.get 0) [.f .at [.v 0,.k (.int 4)]],.k (.int 15)],.f (.bor .u32) [.f (.bor .u32) [.f (.bor .u32) [.f (.bor .u32) [.f (.wrap .u32) [.f (.band .u8) [.f (.get 0) [.f .at [.v 0,.k (.int 0)]],.k (.int 127)]],.f (.shl .u32) [.f (.wrap .u32) [.f (.band .u8) [.f (.get 0) [.f .at [.v 0,.k (.int 1)]],.k (.int 127)]],.k (.int 7)]],.f (.shl .u32) [.f (.wrap .u32) [.f (.band .u8) [.f (.get 0) [.f .at [.v 0,.k (.int 2)]],.k (.int 127)]],.k (.int 14)]],.f (.shl .u32) [.f (.wrap .u32) [.f (.band .u8) [.f (.get 0) [.f .at [.v 0,.k (.int 3)]],.k (.int 127)]],.k (.int 21)]],.f (.shl .u32) [.f (.wrap .u32) [.f (.get 0) [.f .at [.v 0,.k (.int 4)]]],.k (.int 28)]],.k (.int 0)]]]]]]]]]],.f .drop [.v 0,.f .ite [.f .ltI [.f .len [.v 0],.k (.int 1)],.k (.int 0),.f .ite [.f .eqI [.f (.band .u8) [.f (.get 0) [.f .at [.v 0,.k (.int 0)]],.k (.int 128)],.k (.int 0)],.k (.int 1),.f .ite [.f .ltI [.f .len [.v 0],.k (.int 2)],.k (.int 0),.f .ite [.f .eqI [.f (.band .u8) [.f (.get 0) [.f .at [.v 0,.k (.int 1)]],.k (.int 128)],.k (.int 0)],.k (.int 2),.f .ite [.f .ltI [.f .len [.v 0],.k (.int 3)],.k (.int 0),.f .ite [.f .eqI [.f (.band .u8) [.f (.get 0) [.f .at [.v 0,.k (.int 2)]],.k (.int 128)],.k (.int 0)],.k (.int 3),.f .ite [.f .ltI [.f .len [.v 0],.k (.int 4)],.k (.int 0),.f .ite [.f .eqI [.f (.band .u8) [.f (.get 0) [.f .at [.v 0,.k (.int 3)]],.k (.int 128)],.k (.int 0)],.k (.int 4),.f .ite [.f .ltI [.f .len [.v 0],.k (.int 5)],.k (.int 0),.f .ite [.f .leI [.f (.get 0) [.f .at [.v 0,.k (.int 4)]],.k (.int 15)],.k (.int 5),.k (.int (-5))]]]]]]]]]]],.k (.bool false)]])
def obR70:List Ob:=[.when (.f .leI [.f .ite [.f .ltI [.f .len [.v 0],.k (.int 1)],.k (.int 0),.f .ite [.f .eqI [.f (.band .u8) [.f (.get 0) [.f .at [.v 0,.k (.int 0)]],.k (.int 128)],.k (.int 0)],.k (.int 1),.f .ite [.f .ltI [.f .len [.v 0],.k (.int 2)],.k (.int 0),.f .ite [.f .eqI [.f (.band .u8) [.f (.get 0) [.f .at [.v 0,.k (.int 1)]],.k (.int 128)],.k (.int 0)],.k (.int 2),.f .ite [.f .ltI [.f .len [.v 0],.k (.int 3)],.k (.int 0),.f .ite [.f .eqI [.f (.band .u8) [.f (.get 0) [.f .at [.v 0,.k (.int 2)]],.k (.int 128)],.k (.int 0)],.k (.int 3),.f .ite [.f .ltI [.f .len [.v 0],.k (.int 4)],.k (.int 0),.f .ite [.f .eqI [.f (.band .u8) [.f (.get 0) [.f .at [.v 0,.k (.int 3)]],.k (.int 128)],.k (.int 0)],.k (.int 4),.f .ite [.f .ltI [.f .len [.v 0],.k (.int 5)],.k (.int 0),.f .ite [.f .leI [.f (.get 0) [.f .at [.v 0,.k (.int 4)]],.k (.int 15)],.k (.int 5),.k (.int (-5))]]]]]]]]]],.k (.int 0)]) false [.idx (.f .ite [.f .ltI [.f .len [.v 0],.k (.int 1)],.k (.int 0),.f .ite [.f .eqI [.f (.band .u8) [.f (.get 0) [.f .at [.v 0,.k (.int 0)]],.k (.int 128)],.k (.int 0)],.k (.int 1),.f .ite [.f .ltI [.f .len [.v 0],.k (.int 2)],.k (.int 0),.f .ite [.f .eqI [.f (.band .u8) [.f (.get 0) [.f .at [.v 0,.k (.int 1)]],.k (.int 128)],.k (.int 0)],.k (.int 2),.f .ite [.f .ltI [.f .len [.v 0],.k (.int 3)],.k (.int 0),.f .ite [.f .eqI [.f (.band .u8) [.f (.get 0) [.f .at [.v 0,.k (.int 2)]],.k (.int 128)],.k (.int 0)],.k (.int 3),.f .ite [.f .ltI [.f .len [.v 0],.k (.int 4)],.k (.int 0),.f .ite [.f .eqI [.f (.band .u8) [.f (.get 0) [.f .at [.v 0,.k (.int 3)]],.k (.int 128)],.k (.int 0)],.k (.int 4),.f .ite [.f .ltI [.f .len [.v 0],.k (.int 5)],.k (.int 0),.f .ite [.f .leI [.f (.get 0) [.f .at [.v 0,.k (.int 4)]],.k (.int 15)],.k (.int 5),.k (.int (-5))]]]]]]]]]]) (.v 0) false],.when (.f .ltI [.f .len [.v 0],.k (.int 1)]) false [.when (.f .eqI [.f (.band .u8) [.f (.get 0) [.f .at [.v 0,.k (.int 0)]],.k (.int 128)],.k (.int 0)]) false [.when (.f .ltI [.f .len [.v 0],.k (.int 2)]) false [.when (.f .eqI [.f (.band .u8) [.f (.get 0) [.f .at [.v 0,.k (.int 1)]],.k (.int 128)],.k (.int 0)]) false [.when (.f .ltI [.f .len [.v 0],.k (.int 3)]) false [.when (.f .eqI [.f (.band .u8) [.f (.get 0) [.f .at [.v 0,.k (.int 2)]],.k (.int 128)],.k (.int 0)]) false [.when (.f .ltI [.f .len [.v 0],.k (.int 4)]) false [.when (.f .eqI [.f (.band .u8) [.f (.get 0) [.f .at [.v 0,.k (.int 3)]],.k (.int 128)],.k (.int 0)]) false [.when (.f .ltI [.f .len [.v 0],.k (.int 5)]) false [.idx (.k (.int 4)) (.v 0) true,.idx (.k (.int 4)) (.v 0) true]],.idx (.k (.int 3)) (.v 0) true,.idx (.k (.int 3)) (.v 0) true]],.idx (.k (.int 2)) (.v 0) true,.idx (.k (.int 2)) (.v 0) true]],.idx (.k (.int 1)) (.v 0) true,.idx (.k (.int 1)) (.v 0) true]],.idx (.k (.int 0)) (.v 0) true,.idx (.k (.int 0)) (.v 0) true]]
def deR71:DE:=(.f .ite [.f .ite [.f .ltI [.f .len [.v 0],.v 1],.k (.bool true),.f .ltI [.v 1,.k (.int 0)]],.f .mkrow [.k .nil,.k .nil,.k (.bool true)],.f .mkrow [.f .take [.v 0,.v 1],.f .drop [.v 0,.v 1],.k (.bool false)]])
def obR71:List Ob:=[.when (.f .ite [.f .ltI [.f .len [.v 0],.v 1],.k (.bool true),.f .ltI [.v 1,.k (.int 0)]]) false [.idx (.v 1) (.v 0) false,.idx (.v 1) (.v 0) false]]
def deR72:DE:=(.f .mkrow [.f .toStr [.f (.get 0) [.f (.ext 71) [.f (.get 1) [.f (.ext 63) [.v 0]],.f (.wrap .i64) [.f (.get 0) [.f (.ext 63) [.v 0]]]]]],.f (.get 1) [.f (.ext 71) [.f (.get 1) [.f (.ext 63) [.v 0]],.f (.wrap .i64) [.f (.get 0) [.f (.ext 63) [.v 0]]]]],.k (.bool false)])
def obR72:List Ob:=[.pre 71 [.f (.get 1) [.f (.ext 63) [.v 0]],.f (.wrap .i64) [.f (.get 0) [.f (.ext 63) [.v 0]]]],.pre 63 [.v 0]]
def deR73:DE:=(.f .mkrow [.f .toStr [.f (.get 0) [.f (.ext 71) [.f (.get 1) [.f (.ext 70) [.v 0]],.f (.sub .i64) [.f (.wrap .i64) [.f (.get 0) [.f (.ext 70) [.v 0]]],.k (.int 1)]]]],.f (.get 1) [.f (.ext 71) [.f (.get 1) [.f (.ext 70) [.v 0]],.f (.sub .i64) [.f (.wrap .i64) [.f (.get 0) [.f (.ext 70) [.v 0]]],.k (.int 1)]]],.k (.bool false)])
def obR73:List Ob:=[.pre 71 [.f (.get 1) [.f (.ext 70) [.v 0]],.f (.sub .i64) [.f (.wrap .i64) [.f (.get 0) [.f (.ext 70) [.v 0]]],.k (.int 1)]],.pre 70 [.v 0]]
def deR74:DE:=(.f .ite [.f .ltI [.f (.get 0) [.f (.ext 63) [.v 0]],.k (.int 0)],.f .mkrow [.k .nil,.f (.get 1) [.f (.ext 63) [.v 0]],.k (.bool false)],.f .mkrow [.f .mkptr [.f .toStr [.f (.get 0) [.f (.ext 71) [.f (.get 1) [.f (.ext 63) [.v 0]],.f (.wrap .i64) [.f (.get 0) [.f (.ext 63) [.v 0]]]]]]],.f (.get 1) [.f (.ext 71) [.f (.get 1) [.f (.ext 63) [.v 0]],.f (.wrap .i64) [.f (.get 0) [.f (.ext 63) [.v 0]]]]],.k (.bool false)]])
def obR74:List Ob:=[.when (.f .ltI [.f (.get 0) [.f (.ext 63) [.v 0]],.k (.int 0)]) false [.pre 71 [.f (.get 1) [.f (.ext 63) [.v 0]],.f (.wrap .i64) [.f (.get 0) [.f (.ext 63) [.v 0]]]]],.pre 63 [.v 0]]
def deR75:DE:=(.f .ite [.f .ltI [.f (.sub .i64) [.f (.wrap .i64) [.f (.get 0) [.f (.ext 70) [.v 0]]],.k (.int 1)],.k (.int 0)],.f .mkrow [.k .nil,.f (.get 1) [.f (.ext 70) [.v 0]],.k (.bool false)],.f .mkrow [.f .mkptr [.f .toStr [.f (.get 0) [.f (.ext 71) [.f (.get 1) [.f (.ext 70) [.v 0]],.f (.sub .i64) [.f (.wrap .i64) [.f (.get 0) [.f (.ext 70) [.v 0]]],.k (.int 1)]]]]],.f (.get 1) [.f (.ext 71) [.f (.get 1) [.f (.ext 70) [.v 0]],.f (.sub .i64) [.f (.wrap .i64) [.f (.get 0) [.f (.ext 70) [.v 0]]],.k (.int 1)]]],.k (.bool false)]])
def obR75:List Ob:=[.when (.f .ltI [.f (.sub .i64) [.f (.wrap .i64) [.f (.get 0) [.f (.ext 70) [.v 0]]],.k (.int 1)],.k (.int 0)]) false [.pre 71 [.f (.get 1) [.f (.ext 70) [.v 0]],.f (.sub .i64) [.f (.wrap .i64) [.f (.get 0) [.f (.ext 70) [.v 0]]],.k (.int 1)]]],.pre 70 [.v 0]]
def deR76:DE:=(.f .ite [.f .eqI [.f (.get 0) [.f (.ext 65) [.v 0]],.k (.int (-1))],.f .mkrow [.f .mkbytes [],.f (.get 1) [.f (.ext 65) [.v 0]],.k (.bool false)],.f .mkrow [.f (.get 0) [.f (.ext 71) [.f (.get 1) [.f (.ext 65) [.v 0]],.f (.wrap .i64) [.f (.get 0) [.f (.ext 65) [.v 0]]]]],.f (.get 1) [.f (.ext 71) [.f (.get 1) [.f (.ext 65) [.v 0]],.f (.wrap .i64) [.f (.get 0) [.f (.ext 65) [.v 0]]]]],.k (.bool false)]])
def obR76:List Ob:=[.when (.f .eqI [.f (.get 0) [.f (.ext 65) [.v 0]],.k (.int (-1))]) false [.pre 71 [.f (.get 1) [.f (.ext 65) [.v 0]],.f (.wrap .i64) [.f (.get 0) [.f (.ext 65) [.v 0]]]]],.pre 65 [.v 0]]
def deR77:DE:=(.f .ite [.f .eqI [.f (.sub .i64) [.f (.wrap .i64) [.f (.get 0) [.f (.ext 70) [.v 0]]],.k (.int 1)],.k (.int (-1))],.f .mkrow [.f .mkbytes [],.f (.get 1) [.f (.ext 70) [.v 0]],.k (.bool false)],.f .mkrow [.f (.get 0) [.f (.ext 71) [.f (.get 1) [.f (.ext 70) [.v 0]],.f (.sub .i64) [.f (.wrap .i64) [.f (.get 0) [.f (.ext 70) [.v 0]]],.k (.int 1)]]],.f (.get 1) [.f (.ext 71) [.f (.get 1) [.f (.ext 70) [.v 0]],.f (.sub .i64) [.f (.wrap .i64) [.f (.get 0) [.f (.ext 70) [.v 0]]],.k (.int 1)]]],.k (.bool false)]])
def obR77:List Ob:=[.when (.f .eqI [.f (.sub .i64) [.f (.wrap .i64) [.f (.get 0) [.f (.ext 70) [.v 0]]],.k (.int 1)],.k (.int (-1))]) false [.pre 71 [.f (.get 1) [.f (.ext 70) [.v 0]],.f (.sub .i64) [.f (.wrap .i64) [.f (.get 0) [.f (.ext 70) [.v 0]]],.k (.int 1)]]],.pre 70 [.v 0]]
def deR80:DE:=(.f .ite [.f .ltI [.f .len [.f (.get 1) [.f (.ext 65) [.v 0]]],.f (.wrap .i64) [.f (.get 0) [.f (.ext 65) [.v 0]]]],.f .mkrow [.k (.int 0),.k .nil,.k (.bool true)],.f .mkrow [.f (.get 0) [.f (.ext 65) [.v 0]],.f (.get 1) [.f (.ext 65) [.v 0]],.k (.bool false)]])
def obR80:List Ob:=[.pre 65 [.v 0]]
def deR81:DE:=(.f .ite [.f .ltI [.f .len [.f (.get 1) [.f (.ext 70) [.v 0]]],.f (.wrap .i64) [.f (.sub .i32) [.f (.wrap .i32) [.f (.get 0) [.f (.ext 70) [.v 0]]],.k (.int 1)]]],.f .mkrow [.k (.int 0),.k .nil,.k (.bool true)],.f .mkrow [.f (.sub .i32) [.f (.wrap .i32) [.f (.get 0) [.f (.ext 70) [.v 0]]],.k (.int 1)],.f (.get 1) [.f (.ext 70) [.v 0]],.k (.bool false)]])
def obR81:List Ob:=[.pre 70 [.v 0]]
theorem xWA(v:D)(s:List UInt8):Fn.eval X (.get 0) [rowR v s]=v:=rfl
theorem qDA(v:D)(s:List UInt8):Fn.eval X (.get 1) [rowR v s] = .bytes s:=rfl
theorem w64{n:Nat}(h:n<4294967296):IntKind.i64.wrap (n:Int)=n:=by rw[IntKind.wrap_i64];omega
theorem w64i{n:Int}(h0:-4294967296<n)(h:n<4294967296):IntKind.i64.wrap n=n:=by rw[IntKind.wrap_i64];omega
theorem w32i{n:Int}(h0:-2147483648<=n)(h:n<2147483648):IntKind.i32.wrap n=n:=by rw[IntKind.wrap_i32];omega
theorem X63e(z:Int)(r:List UInt8):X 63 [.bytes (zHA z 2++r)]=rowR (.int (IntKind.i16.wrap z)) r:=by rw[X_63,zZA,rI16]
theorem X65e(z:Int)(r:List UInt8):X 65 [.bytes (zHA z 4++r)]=rowR (.int (IntKind.i32.wrap z)) r:=by rw[X_65,zZA,rI32]
theorem X70e(n:Nat)(r:List UInt8):X 70 [.bytes (zDA n++r)]=rowR (.int n) r:=by rw[X_70,zZA,xUA]
theorem X71e(v r:List UInt8):X 71 [.bytes (v++r),.int (v.length:Nat)]=rowR (.bytes v) r:=by rw[X_71,zZA,zOA,Int.toNat_natCast,yRF]
theorem yKC{n:Nat}(r:List UInt8)(h:n<4294967296):side 70 [.bytes (zDA n++r)]:=⟨n,r,rfl,h⟩
theorem yXI(z:Int)(r:List UInt8):side 63 [.bytes (zHA z 2++r)]:=⟨_,rfl,by rw[List.length_append,zQA];omega⟩
theorem xZG(z:Int)(r:List UInt8):side 65 [.bytes (zHA z 4++r)]:=⟨_,rfl,by rw[List.length_append,zQA];omega⟩
theorem qFC(v r:List UInt8):side 71 [.bytes (v++r),.int (v.length:Nat)]:=⟨_,rfl,by rw[zOA];omega,by rw[zOA,List.length_append];omega⟩
theorem zVD{n:Nat}(h:n<=Most):n<4294967296:=by simp only[Most] at h;omega
theorem xIG{a b:Int}(h:b<=a):Fn.eval X .ltI [.int a,.int b] = .bool false:=by rw[zOB];congr 1;simp;omega
theorem qDF{a b:Int}(h:a<b):Fn.eval X .ltI [.int a,.int b] = .bool true:=by rw[zOB];congr 1;simp;omega
theorem eqI_f{a b:Int}(h:a≠b):Fn.eval X .eqI [.int a,.int b] = .bool false:=by rw[xZB];congr 1;simp[h]
theorem evR66(ds:List D)(hk:KsOk [.byts] ds)(h:side 66 ds):zCA X side obR66 ds/\deR66.eval X ds=X 66 ds:=by
 obtain⟨s,rfl⟩:=ks1 hk;rw[side_66] at h;obtain⟨b,rfl,hl⟩:=h;refine⟨⟨⟨b,rfl,hl⟩,trivial⟩,?_⟩;simp only[deR66,ev_f,zAA,zBA,ev_v,ev_k,List.getD_cons_zero,zIA];rw[X_69,zZA,xWA,qDA,zLA,yTA,X_66,zZA]
 have:IntKind.i64.wrap (rI .u64 8 b).1=(rI .i64 8 b).1:=by
  unfold rI;rw[IntKind.wrap_u64,IntKind.wrap_i64,IntKind.wrap_i64];simp only;omega
 rw[this];rfl
theorem evR69(ds:List D)(hk:KsOk [.byts] ds)(h:side 69 ds):zCA X side obR69 ds/\deR69.eval X ds=X 69 ds:=by
 obtain⟨s,rfl⟩:=ks1 hk;rw[side_69] at h;obtain⟨b,rfl,hl⟩:=h;have hlt:(8:Int)<=(b.length:Nat):=by omega
 refine⟨?_,?_⟩
 ·unfold obR69;refine xYH ?_
  repeat (first|exact trivial|(refine⟨idxF (s:=b) rfl rfl (by decide) (by simpa using hl),?_⟩)|(refine⟨(⟨b,rfl,hl⟩:side 86 [_,D.bytes b]),?_⟩))
 ·simp only[deR69,ev_f,zAA,zBA,ev_v,ev_k,List.getD_cons_zero];rw[yCA,zBC,xXC hlt,zSD,xMC,zTC,zIA,X_86,zZA,yTA,X_69,zZA]
  have:IntKind.u64.wrap (beN (b.take 8):Nat)=beN (b.take 8):=by
   refine yGC (k:=.u64) rfl ?_
   have:=xVI (b.take 8)
   rw[List.length_take,Nat.min_eq_left hl] at this;exact this
  simp only[rI,this];rfl
theorem evR71(ds:List D)(hk:KsOk [.byts,.int .i64] ds)(h:side 71 ds):zCA X side obR71 ds/\deR71.eval X ds=X 71 ds:=by
 obtain @⟨⟩ | @⟨_,s,_,_,_,hk⟩:=hk;obtain @⟨⟩ | @⟨_,l,_,_,k2,hk⟩:=hk;cases hk;obtain⟨n,rfl,_⟩:=k2;rw[side_71] at h;obtain⟨b,rfl,h0,hl⟩:=h;rw[zOA] at h0 hl;refine⟨?_,?_⟩
 ·unfold obR71;refine xYH ?_
  repeat (first|exact trivial|(refine⟨idxF (s:=b) (n:=n) rfl rfl h0 hl,?_⟩))
 ·simp only[deR71,ev_f,zAA,zBA,ev_v,ev_k,List.getD_cons_zero,List.getD_cons_succ];rw[yCA,zBC,xIG (by omega),xIG (by omega),zSD,zSD];rw[xOC,xMC,zTC,takeD_by,yTA,X_71,zZA,zOA];rfl
theorem evR72(ds:List D)(hk:KsOk [.byts] ds)(h:side 72 ds):zCA X side obR72 ds/\deR72.eval X ds=X 72 ds:=by
 obtain⟨s,rfl⟩:=ks1 hk;rw[side_72] at h;obtain⟨v,r,rfl,hv⟩:=h;have h32:=zVD hv;refine⟨⟨?_,yXI _ _,trivial⟩,?_⟩
 ·simp only[Ob.holds,ev_f,zAA,zBA,ev_v,ev_k,List.getD_cons_zero,zIA];rw[X63e,xWA,qDA,zLA,qQB hv,w64 h32];exact qFC v r
 ·simp only[deR72,ev_f,zAA,zBA,ev_v,ev_k,List.getD_cons_zero,zIA];rw[X63e,xWA,qDA,zLA,qQB hv,w64 h32,X71e,xWA,qDA,qIE,zZA,yTA,X_72,zZA,xSG r hv]
theorem evR73(ds:List D)(hk:KsOk [.byts] ds)(h:side 73 ds):zCA X side obR73 ds/\deR73.eval X ds=X 73 ds:=by
 obtain⟨s,rfl⟩:=ks1 hk;rw[side_73] at h;obtain⟨v,r,rfl,hv⟩:=h;have h32:=zVD hv;have h33:v.length+1<4294967296:=by simp only[Most] at hv;omega
 have hsub:IntKind.i64.wrap (((v.length+1:Nat):Int)-1)=(v.length:Nat):=by rw[show ((v.length+1:Nat):Int)-1=(v.length:Nat) by omega,w64 h32]
 refine⟨⟨?_,yKC _ h33,trivial⟩,?_⟩
 ·simp only[Ob.holds,ev_f,zAA,zBA,ev_v,ev_k,List.getD_cons_zero,zIA];rw[X70e,xWA,qDA,zLA,w64 h33,xQB,hsub];exact qFC v r
 ·simp only[deR73,ev_f,zAA,zBA,ev_v,ev_k,List.getD_cons_zero,zIA];rw[X70e,xWA,qDA,zLA,w64 h33,xQB,hsub,X71e,xWA,qDA,qIE,zZA,yTA,X_73,zZA,yDD]
theorem evR74(ds:List D)(hk:KsOk [.byts] ds)(h:side 74 ds):zCA X side obR74 ds/\deR74.eval X ds=X 74 ds:=by
 obtain⟨s,rfl⟩:=ks1 hk;rw[side_74] at h;have hn:IntKind.i16.wrap (-1) = -1:=by decide
 rcases h with⟨r,rfl⟩|⟨v,r,rfl,hv⟩
 ·refine⟨⟨?_,yXI _ _,trivial⟩,?_⟩
  ·simp only[Ob.holds,ev_f,zAA,zBA,ev_v,ev_k,List.getD_cons_zero,zIA];rw[X63e,xWA,hn,qDF (by decide)];intro h;cases h
  ·simp only[deR74,ev_f,zAA,zBA,ev_v,ev_k,List.getD_cons_zero,zIA];rw[X63e,xWA,qDA,hn,qDF (by decide),zKI,yTA,X_74,zZA,zUG];rfl
 ·have h32:=zVD hv;refine⟨⟨?_,yXI _ _,trivial⟩,?_⟩
  ·simp only[Ob.holds,ev_f,zAA,zBA,ev_v,ev_k,List.getD_cons_zero,zIA];intro _;refine⟨?_,trivial⟩;simp only[Ob.holds,ev_f,zAA,zBA,ev_v,ev_k,List.getD_cons_zero,zIA];rw[X63e,xWA,qDA,zLA,qQB hv,w64 h32];exact qFC v r
  ·simp only[deR74,ev_f,zAA,zBA,ev_v,ev_k,List.getD_cons_zero,zIA];rw[X63e,xWA,qDA,zLA,qQB hv,w64 h32,xIG (by omega),zSD,X71e,xWA,qDA,qIE,zZA,qKI,yTA,X_74,zZA,zVG r hv];rfl
theorem evR75(ds:List D)(hk:KsOk [.byts] ds)(h:side 75 ds):zCA X side obR75 ds/\deR75.eval X ds=X 75 ds:=by
 obtain⟨s,rfl⟩:=ks1 hk;rw[side_75] at h;rcases h with⟨r,rfl⟩|⟨v,r,rfl,hv⟩
 ·have hn:IntKind.i64.wrap (IntKind.i64.wrap ((0:Nat):Int)-1) = -1:=by decide
  refine⟨⟨?_,yKC _ (by decide),trivial⟩,?_⟩
  ·simp only[Ob.holds,ev_f,zAA,zBA,ev_v,ev_k,List.getD_cons_zero,zIA];rw[X70e,xWA,zLA,xQB,hn,qDF (by decide)];intro h;cases h
  ·simp only[deR75,ev_f,zAA,zBA,ev_v,ev_k,List.getD_cons_zero,zIA];rw[X70e,xWA,qDA,zLA,xQB,hn,qDF (by decide),zKI,yTA,X_75,zZA,xZC];rfl
 ·have h32:=zVD hv;have h33:v.length+1<4294967296:=by simp only[Most] at hv;omega
  have hsub:IntKind.i64.wrap (((v.length+1:Nat):Int)-1)=(v.length:Nat):=by rw[show ((v.length+1:Nat):Int)-1=(v.length:Nat) by omega,w64 h32]
  refine⟨⟨?_,yKC _ h33,trivial⟩,?_⟩
  ·simp only[Ob.holds,ev_f,zAA,zBA,ev_v,ev_k,List.getD_cons_zero,zIA];intro _;refine⟨?_,trivial⟩;simp only[Ob.holds,ev_f,zAA,zBA,ev_v,ev_k,List.getD_cons_zero,zIA];rw[X70e,xWA,qDA,zLA,w64 h33,xQB,hsub];exact qFC v r
  ·simp only[deR75,ev_f,zAA,zBA,ev_v,ev_k,List.getD_cons_zero,zIA];rw[X70e,xWA,qDA,zLA,w64 h33,xQB,hsub,xIG (by omega),zSD,X71e,xWA,qDA,qIE,zZA,qKI,yTA,X_75,zZA,qAC];rfl
theorem evR76(ds:List D)(hk:KsOk [.byts] ds)(h:side 76 ds):zCA X side obR76 ds/\deR76.eval X ds=X 76 ds:=by
 obtain⟨s,rfl⟩:=ks1 hk;rw[side_76] at h;obtain⟨v,r,rfl,hv⟩:=h;have h32:=zVD hv;refine⟨⟨?_,xZG _ _,trivial⟩,?_⟩
 ·simp only[Ob.holds,ev_f,zAA,zBA,ev_v,ev_k,List.getD_cons_zero,zIA];intro _;refine⟨?_,trivial⟩;simp only[Ob.holds,ev_f,zAA,zBA,ev_v,ev_k,List.getD_cons_zero,zIA];rw[X65e,xWA,qDA,zLA,xLB hv,w64 h32];exact qFC v r
 ·simp only[deR76,ev_f,zAA,zBA,ev_v,ev_k,List.getD_cons_zero,zIA];rw[X65e,xWA,qDA,zLA,xLB hv,w64 h32,eqI_f (by omega),zSD,X71e,xWA,qDA,yTA,X_76,zZA,yHI r hv]
theorem evR77(ds:List D)(hk:KsOk [.byts] ds)(h:side 77 ds):zCA X side obR77 ds/\deR77.eval X ds=X 77 ds:=by
 obtain⟨s,rfl⟩:=ks1 hk;rw[side_77] at h;obtain⟨v,r,rfl,hv⟩:=h;have h32:=zVD hv;have h33:v.length+1<4294967296:=by simp only[Most] at hv;omega
 have hsub:IntKind.i64.wrap (((v.length+1:Nat):Int)-1)=(v.length:Nat):=by rw[show ((v.length+1:Nat):Int)-1=(v.length:Nat) by omega,w64 h32]
 refine⟨⟨?_,yKC _ h33,trivial⟩,?_⟩
 ·simp only[Ob.holds,ev_f,zAA,zBA,ev_v,ev_k,List.getD_cons_zero,zIA];intro _;refine⟨?_,trivial⟩;simp only[Ob.holds,ev_f,zAA,zBA,ev_v,ev_k,List.getD_cons_zero,zIA];rw[X70e,xWA,qDA,zLA,w64 h33,xQB,hsub];exact qFC v r
 ·simp only[deR77,ev_f,zAA,zBA,ev_v,ev_k,List.getD_cons_zero,zIA];rw[X70e,xWA,qDA,zLA,w64 h33,xQB,hsub,eqI_f (by omega),zSD,X71e,xWA,qDA,yTA,X_77,zZA,yDD]
theorem evR80(ds:List D)(hk:KsOk [.byts] ds)(h:side 80 ds):zCA X side obR80 ds/\deR80.eval X ds=X 80 ds:=by
 obtain⟨s,rfl⟩:=ks1 hk;rw[side_80] at h;obtain⟨n,r,rfl,h0,h1,h2⟩:=h;refine⟨⟨xZG _ _,trivial⟩,?_⟩;simp only[deR80,ev_f,zAA,zBA,ev_v,ev_k,List.getD_cons_zero,zIA];rw[X65e,xWA,qDA,zLA,w32i (by omega) h2,w64i (by omega) (by omega),yCA,zBC,xIG h1,zSD,yTA,X_80,zZA,rI32,w32i (by omega) h2]
theorem evR81(ds:List D)(hk:KsOk [.byts] ds)(h:side 81 ds):zCA X side obR81 ds/\deR81.eval X ds=X 81 ds:=by
 obtain⟨s,rfl⟩:=ks1 hk;rw[side_81] at h;obtain⟨n,r,rfl,h1,h2⟩:=h;have e:IntKind.i32.wrap (IntKind.i32.wrap (n:Int)-1)=(n:Int)-1:=by rw[w32i (n:=(n:Int)) (by omega) (by omega),w32i (by omega) (by omega)]
 refine⟨⟨yKC _ (by omega),trivial⟩,?_⟩;simp only[deR81,ev_f,zAA,zBA,ev_v,ev_k,List.getD_cons_zero,zIA];rw[X70e,xWA,qDA,zLA,xQB,e,zLA,w64i (by omega) (by omega),yCA,zBC,xIG h1,zSD,yTA,X_81,zZA,xUA]
end Go.Mx
namespace Go.Mx
open Go Go.Dx
def go82:DE:=.f .ltI [.k (.int 0),.v 3]
def is82:List DE:=[.f (.get 0) [.f (.ext 70) [.v 0]],.f (.get 1) [.f (.ext 70) [.v 0]],.k .nil]
def k82:DE:=.f (.ext 70) [.v 4]
def z82:DE:=.f (.ext 70) [.f (.get 1) [k82]]
def v82:DE:=.f (.ext 71) [.f (.get 1) [z82],.f (.wrap .i64) [.f (.get 0) [z82]]]
def bs82:List DE:=[.f (.sub .u32) [.v 3,.k (.int 1)],.f (.get 1) [v82],.f (.ext 23) [.v 5,.f (.get 0) [k82],.f (.get 0) [v82]]]
def deR82:DE:=.f .mkrow [.f .mkrow [.fold 1 (.f .iota [.wh 1 go82 is82 bs82]) is82 bs82 2],.fold 1 (.f .iota [.wh 1 go82 is82 bs82]) is82 bs82 1,.k (.bool false)]
def obR82:List Ob:=[.term 1 go82 is82 bs82,.all (.f .iotaS [.wh 1 go82 is82 bs82]) is82 bs82 [.when go82 true [.pre 23 [.v 5,.f (.get 0) [k82],.f (.get 0) [v82]],.pre 71 [.f (.get 1) [z82],.f (.wrap .i64) [.f (.get 0) [z82]]],.pre 70 [.f (.get 1) [k82]],.pre 70 [.v 4]]],.pre 70 [.v 0]]
def tgW(u:List Tg):List UInt8:=(u.map fun x:Tg=>tagB x.key.toNat (x.val.getD [])).flatten
def st82(u:List Tg)(r:List UInt8)(k:Nat):List D:=[.int ((u.length-k:Nat):Int),.bytes (tgW (u.drop k)++r),yMC (u.take k) .nil]
theorem qSJ(u:List Tg)(x:Tg)(m:D):yMC (u++[x]) m = .map (insM x.key (.bytes (x.val.getD [])) (mapL (yMC u m))):=by
 unfold yMC;rw[List.foldl_append];rfl
theorem xOH:∀(u:List Tg) (m:D),(mapL (yMC u m)).length<=(mapL m).length+u.length
 | [],m=>Nat.le_refl _
 | x::u,m=>by
  have h1:=xOH u (.map (insM x.key (.bytes (x.val.getD [])) (mapL m)));have h2:=xHG x.key (.bytes (x.val.getD [])) (mapL m);have h3:(mapL (D.map (insM x.key (.bytes (x.val.getD [])) (mapL m)))).length=(insM x.key (.bytes (x.val.getD [])) (mapL m)).length:=rfl;have e:yMC (x::u) m=yMC u (.map (insM x.key (.bytes (x.val.getD [])) (mapL m))):=rfl;rw[e,List.length_cons];omega
theorem zAI(s a b:D)(l:List D):(∀j,(DE.v (j+3)).eval X ([s]++(a::b::l))=l.getD j .nil):=fun j=>by
 rw[ev_v];rfl
theorem runs82{u:List Tg}{r:List UInt8}(hu:qYA u):Runs X [.bytes (zDA u.length++(tgW u++r))] 1 go82 is82 bs82 u.length (st82 u r):=by
 obtain⟨_,h2,h3⟩:=hu;have h2':u.length<=32767:=h2;refine⟨rfl,?_,fun k hk=>?_,fun k hk=>?_,?_⟩
 ·simp only[is82,zAA,zBA,ev_f,ev_v,ev_k,List.getD_cons_zero,zIA];rw[X70e,xWA,qDA];rfl
 ·obtain⟨x,hx⟩:∃x,u[k]? = some x:=⟨u[k],List.getElem?_eq_getElem hk⟩;have hd:u.drop k=x::u.drop (k+1):=by
   rw[List.drop_eq_getElem_cons hk]
   congr 1
   have:=List.getElem?_eq_getElem hk
   rw[hx] at this;exact(Option.some.inj this).symm
  obtain⟨q1,q2,q3⟩:=h3 x (List.mem_of_getElem? hx);have e3:=zAI (.bytes (zDA u.length++(tgW u++r))) (.int k) (.int k) (st82 u r k) 0;have e4:=zAI (.bytes (zDA u.length++(tgW u++r))) (.int k) (.int k) (st82 u r k) 1;have e5:=zAI (.bytes (zDA u.length++(tgW u++r))) (.int k) (.int k) (st82 u r k) 2;have hw:tgW (u.drop k)++r=zDA x.key.toNat++(zDA (x.val.getD []).length++(x.val.getD []++(tgW (u.drop (k+1))++r))):=by
   rw[hd,tgW,List.map_cons,List.flatten_cons,tagB];simp only[List.append_assoc];rfl
  have ek:k82.eval X ([.bytes (zDA u.length++(tgW u++r))]++(.int k :: .int k::st82 u r k))=rowR (.int x.key) (zDA (x.val.getD []).length++(x.val.getD []++(tgW (u.drop (k+1))++r))):=by
   rw[k82,ev_f,zAA,zBA,e4,zIA];show X 70 [.bytes (tgW (u.drop k)++r)]=_;rw[hw,X70e,show ((x.key.toNat:Nat):Int)=x.key by omega]
  have ez:z82.eval X ([.bytes (zDA u.length++(tgW u++r))]++(.int k :: .int k::st82 u r k))=rowR (.int (x.val.getD []).length) (x.val.getD []++(tgW (u.drop (k+1))++r)):=by
   rw[z82,ev_f,zAA,zBA,ev_f,zAA,zBA,ek,zIA,qDA,X70e]
  have ev:v82.eval X ([.bytes (zDA u.length++(tgW u++r))]++(.int k :: .int k::st82 u r k))=rowR (.bytes (x.val.getD [])) (tgW (u.drop (k+1))++r):=by
   rw[v82,ev_f,zAA,zAA,zBA,ev_f,ev_f,zAA,zBA,zAA,zBA,ev_f,zAA,zBA,ez,zIA,xWA,qDA,zLA,w64 (zVD q3),X71e]
  rw[bs82,zAA,zAA,zAA,zBA,ev_f,ev_f,ev_f,zAA,zAA,zBA,zAA,zBA,zAA,zAA,zAA,zBA,e3,e5,ev_k,ev_f,ev_f,zAA,zBA,zAA,zBA,ek,ev,zIA,xWA,xWA,qDA,X_23,zOA];show [Fn.eval X (.sub .u32) [.int ((u.length-k:Nat):Int),.int 1],_,D.map (insM x.key (.bytes (x.val.getD [])) (mapL (yMC (u.take k) .nil)))]=_;rw[xQB,<- qSJ,<- xEC hx];have e:IntKind.u32.wrap (((u.length-k:Nat):Int)-1)=((u.length-(k+1):Nat):Int):=by rw[IntKind.wrap_u32];omega
  rw[e];rfl
 ·rw[go82,ev_f,zAA,zAA,zBA,ev_k,zAI];show (Fn.eval X .ltI [.int 0,.int ((u.length-k:Nat):Int)]).asBool=true;rw[qDF (by omega)];rfl
 ·rw[go82,ev_f,zAA,zAA,zBA,ev_k,zAI];show (Fn.eval X .ltI [.int 0,.int ((u.length-u.length:Nat):Int)]).asBool=false;rw[xIG (by omega)];rfl
theorem evR82(ds:List D)(hk:KsOk [.byts] ds)(h:side 82 ds):zCA X side obR82 ds/\deR82.eval X ds=X 82 ds:=by
 obtain⟨s,rfl⟩:=ks1 hk;rw[side_82] at h;obtain⟨u,r,rfl,hu⟩:=h;have hr:=runs82 (r:=r) hu;have hu2:=hu;obtain⟨_,h2,h3⟩:=hu2;have h2':u.length<=32767:=h2;refine⟨⟨hr.term,hr.all (fun k hk=>?_),yKC _ (by omega),trivial⟩,?_⟩
 ·refine zYB ?_;simp only[Ob.holds];intro hg;have hlt:k<u.length:=by
   by_cases hkk:k<u.length
   ·exact hkk
   ·have:k=u.length:=by omega
    subst this;rw[hr.hN] at hg;cases hg
  obtain⟨x,hx⟩:∃x,u[k]? = some x:=⟨u[k],List.getElem?_eq_getElem hlt⟩;have hd:u.drop k=x::u.drop (k+1):=by
   rw[List.drop_eq_getElem_cons hlt]
   congr 1
   have:=List.getElem?_eq_getElem hlt
   rw[hx] at this;exact(Option.some.inj this).symm
  obtain⟨q1,q2,q3⟩:=h3 x (List.mem_of_getElem? hx);have e4:=zAI (.bytes (zDA u.length++(tgW u++r))) (.int k) (.int k) (st82 u r k) 1;have hw:tgW (u.drop k)++r=zDA x.key.toNat++(zDA (x.val.getD []).length++(x.val.getD []++(tgW (u.drop (k+1))++r))):=by
   rw[hd,tgW,List.map_cons,List.flatten_cons,tagB];simp only[List.append_assoc];rfl
  have ek:k82.eval X ([.bytes (zDA u.length++(tgW u++r))]++(.int k :: .int k::st82 u r k))=rowR (.int x.key) (zDA (x.val.getD []).length++(x.val.getD []++(tgW (u.drop (k+1))++r))):=by
   rw[k82,ev_f,zAA,zBA,e4,zIA];show X 70 [.bytes (tgW (u.drop k)++r)]=_;rw[hw,X70e,show ((x.key.toNat:Nat):Int)=x.key by omega]
  have ez:z82.eval X ([.bytes (zDA u.length++(tgW u++r))]++(.int k :: .int k::st82 u r k))=rowR (.int (x.val.getD []).length) (x.val.getD []++(tgW (u.drop (k+1))++r)):=by
   rw[z82,ev_f,zAA,zBA,ev_f,zAA,zBA,ek,zIA,qDA,X70e]
  have p71:side 71 (zEA X [.f (.get 1) [z82],.f (.wrap .i64) [.f (.get 0) [z82]]] ([.bytes (zDA u.length++(tgW u++r))]++(.int k :: .int k::st82 u r k))):=by
   rw[zAA,zAA,zBA,ev_f,ev_f,zAA,zBA,zAA,zBA,ev_f,zAA,zBA,ez,xWA,qDA,zLA,w64 (zVD q3)];exact qFC _ _
  have p70:side 70 (zEA X [.f (.get 1) [k82]] ([.bytes (zDA u.length++(tgW u++r))]++(.int k :: .int k::st82 u r k))):=by
   rw[zAA,zBA,ev_f,zAA,zBA,ek,qDA];exact yKC _ (zVD q3)
  have p70':side 70 (zEA X [.v 4] ([.bytes (zDA u.length++(tgW u++r))]++(.int k :: .int k::st82 u r k))):=by
   rw[zAA,zBA,e4];show side 70 [.bytes (tgW (u.drop k)++r)];rw[hw];exact yKC _ (by omega)
  have e5:(DE.v 5).eval X ([.bytes (zDA u.length++(tgW u++r))]++(.int k :: .int k::st82 u r k))=yMC (u.take k) .nil:=zAI (.bytes (zDA u.length++(tgW u++r))) (.int k) (.int k) (st82 u r k) 2;have p23:side 23 (zEA X [.v 5,.f (.get 0) [k82],.f (.get 0) [v82]] ([.bytes (zDA u.length++(tgW u++r))]++(.int k :: .int k::st82 u r k))):=by
   rw[zAA,zAA,zAA,zBA,e5];show (insM _ _ (mapL (yMC (u.take k) .nil))).length<=lim;refine Nat.le_trans (xHG _ _ _) ?_;have h1:=xOH (u.take k) .nil;have h2:(mapL D.nil).length=0:=rfl;have h3:(u.take k).length<=u.length:=by rw[List.length_take];omega
   have hM:u.length<=32767:=h2';simp only[lim];omega
  exact⟨p23,p71,p70,p70',trivial⟩
 ·rw[deR82,ev_f,zAA,zAA,zAA,zBA,ev_f,zAA,zBA,ev_k];have f2:=hr.fold 2;have f1:=hr.fold 1;have hs:(zDA u.length++((u.map fun x:Tg=>tagB x.key.toNat (x.val.getD [])).flatten++r))=zDA u.length++(tgW u++r):=rfl;rw[hs,f1,f2];have e2:(st82 u r u.length).getD 2 .nil=yMC u .nil:=by simp[st82]
  have e1:(st82 u r u.length).getD 1 .nil = .bytes r:=by simp[st82,tgW]
  rw[e1,e2,X_82,zZA,<- hs,yOH u r (fun x hx=>(h3 x hx).1)];rfl
end Go.Mx
namespace Go.Mx
open Go Go.Dx
def bD(i:Int):DE:=.f (.get 0) [.f .at [.v 0,.k (.int i)]]
def ltD(i:Int):DE:=.f .ltI [.f .len [.v 0],.k (.int i)]
def hiD(i:Int):DE:=.f .eqI [.f (.band .u8) [bD i,.k (.int 128)],.k (.int 0)]
def loD(i:Int):DE:=.f (.wrap .u32) [.f (.band .u8) [bD i,.k (.int 127)]]
def laD:DE:=.f .leI [bD 4,.k (.int 15)]
def kD(n:Int):DE:=.k (.int n)
def itD(a b c:DE):DE:=.f .ite [a,b,c]
def orD(a b:DE)(i:Int):DE:=.f (.bor .u32) [a,.f (.shl .u32) [b,kD i]]
def w1D:DE:=loD 0
def w2D:DE:=orD w1D (loD 1) 7
def w3D:DE:=orD w2D (loD 2) 14
def w4D:DE:=orD w3D (loD 3) 21
def w5D:DE:=orD w4D (.f (.wrap .u32) [bD 4]) 28
def chD(z e1 e2 e3 e4 e5 e6:DE):DE :=
 itD (ltD 1) z (itD (hiD 0) e1 (itD (ltD 2) z (itD (hiD 1) e2 (itD (ltD 3) z (itD (hiD 2) e3 (itD (ltD 4) z (itD (hiD 3) e4 (itD (ltD 5) z (itD laD e5 e6)))))))))
def nD:DE:=chD (kD 0) (kD 1) (kD 2) (kD 3) (kD 4) (kD 5) (kD (-5))
def vD:DE:=chD (kD 0) w1D w2D w3D w4D w5D (kD 0)
def deU70:DE:=itD (.f .leI [nD,kD 0]) (.f .mkrow [kD 0,.k .nil,.k (.bool true)]) (.f .mkrow [vD,.f .drop [.v 0,nD],.k (.bool false)])
def ixD(i:Int):Ob:=.idx (kD i) (.v 0) true
def obU70:List Ob:=[
 .when (.f .leI [nD,kD 0]) false [.idx nD (.v 0) false],
 .when (ltD 1) false [.when (hiD 0) false [.when (ltD 2) false [.when (hiD 1) false [.when (ltD 3) false [.when (hiD 2) false [.when (ltD 4) false [.when (hiD 3) false [.when (ltD 5) false [ixD 4,ixD 4]],
  ixD 3,ixD 3]],ixD 2,ixD 2]],ixD 1,ixD 1]],ixD 0,ixD 0]]
theorem deU70_eq:deR70=deU70:=rfl
theorem obU70_eq:obR70=obU70:=rfl
theorem xZF{n:Nat}(h:127<n):zDA n=UInt8.ofNat (n%128+128)::zDA (n / 128):=by rw[zDA,if_pos h]
theorem zKK{n:Nat}(h:n<128):zDA n=[UInt8.ofNat n]:=by rw[zDA,if_neg (by omega)]
section
variable {s:List UInt8}
theorem ev_lt{i:Int}(h:i<=s.length):(ltD i).eval X [.bytes s] = .bool false:=by
 unfold ltD;rw[ev_f,zAA,zAA,zBA,ev_f,zAA,zBA,ev_v,ev_k,List.getD_cons_zero,yCA,zBC,xXC h]
theorem ev_b{i:Int}{b:UInt8}(h:s[i.toNat]? = some b):(bD i).eval X [.bytes s] = .int b.toNat:=by
 unfold bD;rw[ev_f,zAA,zBA,ev_f,zAA,zAA,zBA,ev_v,ev_k,List.getD_cons_zero,getB _ _ _ h]
set_option maxRecDepth 4000 in
theorem band128:∀b:Fin 256,IntKind.u8.wrap ((BitVec.ofInt IntKind.u8.bits (b.1:Int) &&& BitVec.ofInt IntKind.u8.bits 128).toNat:Nat)=if b.1<128 then 0 else 128:=by decide
set_option maxRecDepth 4000 in
theorem zWK:∀b:Fin 256,IntKind.u8.wrap ((BitVec.ofInt IntKind.u8.bits (b.1:Int) &&& BitVec.ofInt IntKind.u8.bits 127).toNat:Nat)=((b.1%128:Nat):Int):=by decide
theorem ev_hi{i:Int}{b:UInt8}(h:s[i.toNat]? = some b):(hiD i).eval X [.bytes s] = .bool (decide (b.toNat<128)):=by
 unfold hiD
 have:=band128 ⟨b.toNat,b.toNat_lt⟩
 rw[ev_f,zAA,zAA,zBA,ev_f,zAA,zAA,zBA,ev_b h,ev_k,ev_k,zLD,xZB];rw[show IntKind.u8.wrap _=_ from this];show D.bool ((if b.toNat<128 then (0:Int) else 128)==0)=_;split <;> simp[*]
theorem zAE{i:Int}{b:UInt8}(h:s[i.toNat]? = some b):(loD i).eval X [.bytes s] = .int ((b.toNat%128:Nat):Int):=by
 unfold loD
 have:=zWK ⟨b.toNat,b.toNat_lt⟩
 rw[ev_f,zAA,zBA,ev_f,zAA,zAA,zBA,ev_b h,ev_k,zLD,zLA];rw[show IntKind.u8.wrap _=_ from this,yXB (by omega) (by show ((b.toNat%128:Nat):Int)<_;omega)]
theorem zHF{a b c:DE}{J:List D}(h:a.eval X J = .bool false):(itD a b c).eval X J=c.eval X J:=by
 unfold itD;rw[ev_f,zAA,zAA,zAA,zBA,h,zSD]
theorem yUK{a b c:DE}{J:List D}(h:a.eval X J = .bool true):(itD a b c).eval X J=b.eval X J:=by
 unfold itD;rw[ev_f,zAA,zAA,zAA,zBA,h,zKI]
theorem qCF{a b:DE}{J:List D}{x y i:Nat}(ha:a.eval X J = .int (x:Nat))(hb:b.eval X J = .int (y:Nat))(hx:x<2 ^ i)(hi:i<=32)(h:y*2 ^ i+x<4294967296):(orD a b i).eval X J = .int ((y*2 ^ i+x:Nat):Int):=by
 unfold orD kD;rw[ev_f,zAA,zAA,zBA,ev_f,zAA,zAA,zBA,ha,hb,ev_k,yVI (k:=.u32) rfl y i hi (by simp only[IntKind.bits];omega),qIH (k:=.u32) rfl y x i hx (by simp only[IntKind.bits];omega)]
theorem fin70{r:List UInt8}{n:Nat}(hs:s=zDA n++r)(hn:nD.eval X [.bytes s] = .int ((zDA n).length:Nat))(hv:vD.eval X [.bytes s] = .int (n:Nat))(hp:0<(zDA n).length):deU70.eval X [.bytes s]=X 70 [.bytes s]/\(Ob.when (.f .leI [nD,kD 0]) false [.idx nD (.v 0) false]).holds X side [.bytes s]:=by
 have hle:(DE.f .leI [nD,kD 0]).eval X [.bytes s] = .bool false:=by
  rw[ev_f,zAA,zAA,zBA,hn,kD,ev_k,zMD]
  congr 1;simp only[decide_eq_false_iff_not];omega
 refine⟨?_,?_⟩
 ·unfold deU70;rw[zHF hle,ev_f,zAA,zAA,zAA,zBA,hv,ev_k,ev_f,zAA,zAA,zBA,hn,ev_v,List.getD_cons_zero,xMC,zTC,yTA,hs,X70e,Int.toNat_natCast,List.drop_left]
 ·have:=xYH (c:=.f .leI [nD,kD 0]) (J:=[.bytes s]) (o:=[.idx nD (.v 0) false]) ⟨idxF hn rfl (by omega) (by rw[Int.toNat_natCast,hs,List.length_append];omega),trivial⟩
  exact this.1
end
theorem obs70{s:List UInt8}(h:(Ob.when (.f .leI [nD,kD 0]) false [.idx nD (.v 0) false]).holds X side [.bytes s]):zCA X side obU70 [.bytes s]:=by
 have ix:∀i:Nat,(ltD ((i:Int)+1)).eval X [.bytes s] = .bool false->(ixD i).holds X side [.bytes s]:=fun i hi=>by
  refine idxT (s:=s) (n:=i) rfl rfl (by omega) ?_;unfold ltD at hi;rw[ev_f,zAA,zAA,zBA,ev_f,zAA,zBA,ev_v,ev_k,List.getD_cons_zero,yCA,zBC,zOB] at hi
  have:=D.bool.inj hi
  simp only[decide_eq_false_iff_not] at this;omega
 have wh:∀(c:DE) (o:List Ob),(∀b,(c.eval X [.bytes s]) = .bool b->b=false->zCA X side o [.bytes s])->(∃b,c.eval X [.bytes s] = .bool b)->(Ob.when c false o).holds X side [.bytes s]:=fun c o h1 h2=>by
  obtain⟨b,hb⟩:=h2;simp only[Ob.holds];intro hc;rw[hb] at hc;exact h1 b hb hc
 have bl:∀i:Int,∃b,(ltD i).eval X [.bytes s] = .bool b:=fun i=>⟨_,by unfold ltD;rw[ev_f,zAA,zAA,zBA,ev_f,zAA,zBA,ev_v,ev_k,List.getD_cons_zero,yCA,zBC,zOB]⟩
 have wl:∀(i:Int) (o:List Ob),((ltD i).eval X [.bytes s] = .bool false->zCA X side o [.bytes s])->(Ob.when (ltD i) false o).holds X side [.bytes s]:=fun i o h1=>wh _ _ (fun b hb e=>h1 (by rw[hb,e])) (bl i)
 have wa:∀(c:DE) (o:List Ob),zCA X side o [.bytes s]->(Ob.when c false o).holds X side [.bytes s]:=fun c o h1=>by
  simp only[Ob.holds];exact fun _=>h1
 refine⟨h,?_,trivial⟩;refine wl 1 _ fun h1=>⟨wa _ _ ⟨wl 2 _ fun h2=>⟨wa _ _ ⟨wl 3 _ fun h3=>⟨wa _ _ ⟨wl 4 _ fun h4=>⟨wa _ _ ⟨wl 5 _ fun h5=>⟨ix 4 h5,ix 4 h5,trivial⟩,trivial⟩,ix 3 h4,ix 3 h4,trivial⟩,trivial⟩,ix 2 h3,ix 2 h3,trivial⟩,trivial⟩,ix 1 h2,ix 1 h2,trivial⟩,trivial⟩,ix 0 h1,ix 0 h1,trivial⟩
theorem zOC{n:Nat}(h:n<256):(UInt8.ofNat n).toNat=n:=by
 simp;omega
theorem evR70(ds:List D)(hk:KsOk [.byts] ds)(h:side 70 ds):zCA X side obR70 ds/\deR70.eval X ds=X 70 ds:=by
 rw[deU70_eq,obU70_eq];obtain⟨s,rfl⟩:=ks1 hk;rw[side_70] at h;obtain⟨n,r,rfl,hn⟩:=h;generalize hs:zDA n++r=s;have key:nD.eval X [.bytes s] = .int ((zDA n).length:Nat)/\vD.eval X [.bytes s] = .int (n:Nat):=by
  have hi:∀(i:Int) (b:UInt8) (z e1 e2:DE),i+1<=s.length->s[i.toNat]? = some b->128<=b.toNat->(itD (ltD (i+1)) z (itD (hiD i) e1 e2)).eval X [.bytes s]=e2.eval X [.bytes s]:=fun i b z e1 e2 hl hb h=>by
   rw[zHF (ev_lt hl),zHF];rw[ev_hi hb];congr 1;simp;omega
  have lo:∀(i:Int) (b:UInt8) (z e1 e2:DE),i+1<=s.length->s[i.toNat]? = some b->b.toNat<128->(itD (ltD (i+1)) z (itD (hiD i) e1 e2)).eval X [.bytes s]=e1.eval X [.bytes s]:=fun i b z e1 e2 hl hb h=>by
   rw[zHF (ev_lt hl),yUK];rw[ev_hi hb];congr 1;simp;omega
  by_cases c1:n<128
  ·rw[zKK c1] at hs ⊢;subst hs;have l1:=zOC (n:=n) (by omega);have f1:=fun z e1 e2=>lo 0 (UInt8.ofNat n) z e1 e2 (by simp only[List.cons_append,List.length_cons];omega) rfl (by omega)
   unfold nD vD chD;rw[show ltD 1=ltD (0+1) from rfl,f1,f1];refine⟨rfl,?_⟩;unfold w1D;rw[zAE (b:=UInt8.ofNat n) rfl,l1]
   congr 2;omega
  ·by_cases c2:n<16384
   ·rw[xZF (by omega),zKK (by omega)] at hs ⊢;subst hs;have l0:=zOC (n:=n%128+128) (by omega);have l1:=zOC (n:=n / 128) (by omega);have f0:=fun z e1 e2=>hi 0 (UInt8.ofNat (n%128+128)) z e1 e2 (by simp only[List.cons_append,List.length_cons];omega) rfl (by omega)
    have f1:=fun z e1 e2=>lo 1 (UInt8.ofNat (n / 128)) z e1 e2 (by simp only[List.cons_append,List.length_cons];omega) rfl (by omega)
    unfold nD vD chD;rw[show ltD 1=ltD (0+1) from rfl,show ltD 2=ltD (1+1) from rfl,f0,f0,f1,f1];refine⟨rfl,?_⟩;have g1:=zAE (s:=UInt8.ofNat (n%128+128)::UInt8.ofNat (n / 128)::r) (i:=0) rfl;have g2:=zAE (s:=UInt8.ofNat (n%128+128)::UInt8.ofNat (n / 128)::r) (i:=1) rfl;have w2:=qCF (i:=7) g1 g2 (by omega) (by omega) (by omega);refine w2.trans ?_
    congr 2;omega
   ·by_cases c3:n<2097152
    ·rw[xZF (by omega),xZF (by omega),zKK (by omega)] at hs ⊢;subst hs;have l0:=zOC (n:=n%128+128) (by omega);have l1:=zOC (n:=n / 128%128+128) (by omega);have l2:=zOC (n:=n / 128 / 128) (by omega);have f0:=fun z e1 e2=>hi 0 (UInt8.ofNat (n%128+128)) z e1 e2 (by simp only[List.cons_append,List.length_cons];omega) rfl (by omega)
     have f1:=fun z e1 e2=>hi 1 (UInt8.ofNat (n / 128%128+128)) z e1 e2 (by simp only[List.cons_append,List.length_cons];omega) rfl (by omega)
     have f2:=fun z e1 e2=>lo 2 (UInt8.ofNat (n / 128 / 128)) z e1 e2 (by simp only[List.cons_append,List.length_cons];omega) rfl (by omega)
     unfold nD vD chD;rw[show ltD 1=ltD (0+1) from rfl,show ltD 2=ltD (1+1) from rfl,show ltD 3=ltD (2+1) from rfl,f0,f0,f1,f1,f2,f2];refine⟨rfl,?_⟩;have g1:=zAE (s:=UInt8.ofNat (n%128+128)::UInt8.ofNat (n / 128%128+128)::UInt8.ofNat (n / 128 / 128)::r) (i:=0) rfl;have g2:=zAE (s:=UInt8.ofNat (n%128+128)::UInt8.ofNat (n / 128%128+128)::UInt8.ofNat (n / 128 / 128)::r) (i:=1) rfl;have g3:=zAE (s:=UInt8.ofNat (n%128+128)::UInt8.ofNat (n / 128%128+128)::UInt8.ofNat (n / 128 / 128)::r) (i:=2) rfl;have w2:=qCF (i:=7) g1 g2 (by omega) (by omega) (by omega);have w3:=qCF (i:=14) w2 g3 (by omega) (by omega) (by omega);refine w3.trans ?_
     congr 2;omega
    ·by_cases c4:n<268435456
     ·rw[xZF (by omega),xZF (by omega),xZF (by omega),zKK (by omega)] at hs ⊢;subst hs;have l0:=zOC (n:=n%128+128) (by omega);have l1:=zOC (n:=n / 128%128+128) (by omega);have l2:=zOC (n:=n / 128 / 128%128+128) (by omega);have l3:=zOC (n:=n / 128 / 128 / 128) (by omega);have f0:=fun z e1 e2=>hi 0 (UInt8.ofNat (n%128+128)) z e1 e2 (by simp only[List.cons_append,List.length_cons];omega) rfl (by omega)
      have f1:=fun z e1 e2=>hi 1 (UInt8.ofNat (n / 128%128+128)) z e1 e2 (by simp only[List.cons_append,List.length_cons];omega) rfl (by omega)
      have f2:=fun z e1 e2=>hi 2 (UInt8.ofNat (n / 128 / 128%128+128)) z e1 e2 (by simp only[List.cons_append,List.length_cons];omega) rfl (by omega)
      have f3:=fun z e1 e2=>lo 3 (UInt8.ofNat (n / 128 / 128 / 128)) z e1 e2 (by simp only[List.cons_append,List.length_cons];omega) rfl (by omega)
      unfold nD vD chD;rw[show ltD 1=ltD (0+1) from rfl,show ltD 2=ltD (1+1) from rfl,show ltD 3=ltD (2+1) from rfl,show ltD 4=ltD (3+1) from rfl,f0,f0,f1,f1,f2,f2,f3,f3];refine⟨rfl,?_⟩;have g1:=zAE (s:=UInt8.ofNat (n%128+128)::UInt8.ofNat (n / 128%128+128)::UInt8.ofNat (n / 128 / 128%128+128)::UInt8.ofNat (n / 128 / 128 / 128)::r) (i:=0) rfl;have g2:=zAE (s:=UInt8.ofNat (n%128+128)::UInt8.ofNat (n / 128%128+128)::UInt8.ofNat (n / 128 / 128%128+128)::UInt8.ofNat (n / 128 / 128 / 128)::r) (i:=1) rfl;have g3:=zAE (s:=UInt8.ofNat (n%128+128)::UInt8.ofNat (n / 128%128+128)::UInt8.ofNat (n / 128 / 128%128+128)::UInt8.ofNat (n / 128 / 128 / 128)::r) (i:=2) rfl;have g4:=zAE (s:=UInt8.ofNat (n%128+128)::UInt8.ofNat (n / 128%128+128)::UInt8.ofNat (n / 128 / 128%128+128)::UInt8.ofNat (n / 128 / 128 / 128)::r) (i:=3) rfl;have w2:=qCF (i:=7) g1 g2 (by omega) (by omega) (by omega);have w3:=qCF (i:=14) w2 g3 (by omega) (by omega) (by omega);have w4:=qCF (i:=21) w3 g4 (by omega) (by omega) (by omega);refine w4.trans ?_
      congr 2;omega
     ·rw[xZF (by omega),xZF (by omega),xZF (by omega),xZF (by omega),zKK (by omega)] at hs ⊢;subst hs;have l0:=zOC (n:=n%128+128) (by omega);have l1:=zOC (n:=n / 128%128+128) (by omega);have l2:=zOC (n:=n / 128 / 128%128+128) (by omega);have l3:=zOC (n:=n / 128 / 128 / 128%128+128) (by omega);have l4:=zOC (n:=n / 128 / 128 / 128 / 128) (by omega);have f0:=fun z e1 e2=>hi 0 (UInt8.ofNat (n%128+128)) z e1 e2 (by simp only[List.cons_append,List.length_cons];omega) rfl (by omega)
      have f1:=fun z e1 e2=>hi 1 (UInt8.ofNat (n / 128%128+128)) z e1 e2 (by simp only[List.cons_append,List.length_cons];omega) rfl (by omega)
      have f2:=fun z e1 e2=>hi 2 (UInt8.ofNat (n / 128 / 128%128+128)) z e1 e2 (by simp only[List.cons_append,List.length_cons];omega) rfl (by omega)
      have f3:=fun z e1 e2=>hi 3 (UInt8.ofNat (n / 128 / 128 / 128%128+128)) z e1 e2 (by simp only[List.cons_append,List.length_cons];omega) rfl (by omega)
      have g5:=ev_b (s:=UInt8.ofNat (n%128+128)::UInt8.ofNat (n / 128%128+128)::UInt8.ofNat (n / 128 / 128%128+128)::UInt8.ofNat (n / 128 / 128 / 128%128+128)::UInt8.ofNat (n / 128 / 128 / 128 / 128)::r) (i:=4) rfl;have la:laD.eval X [.bytes (UInt8.ofNat (n%128+128)::UInt8.ofNat (n / 128%128+128)::UInt8.ofNat (n / 128 / 128%128+128)::UInt8.ofNat (n / 128 / 128 / 128%128+128)::UInt8.ofNat (n / 128 / 128 / 128 / 128)::r)] = .bool true:=by
       unfold laD;rw[ev_f,zAA,zAA,zBA,g5,ev_k,zMD,l4]
       congr 1;simp only[decide_eq_true_eq];omega
      have lt5:=ev_lt (s:=UInt8.ofNat (n%128+128)::UInt8.ofNat (n / 128%128+128)::UInt8.ofNat (n / 128 / 128%128+128)::UInt8.ofNat (n / 128 / 128 / 128%128+128)::UInt8.ofNat (n / 128 / 128 / 128 / 128)::r) (i:=5) (by simp only[List.length_cons];omega);have f4:=fun z e1 e2=>(zHF (b:=z) (c:=itD laD e1 e2) lt5).trans (yUK la)
      unfold nD vD chD;simp only[List.cons_append,List.nil_append] at f0 f1 f2 f3 ⊢;rw[show ltD 1=ltD (0+1) from rfl,show ltD 2=ltD (1+1) from rfl,show ltD 3=ltD (2+1) from rfl,show ltD 4=ltD (3+1) from rfl,f0,f0,f1,f1,f2,f2,f3,f3,f4,f4];refine⟨rfl,?_⟩;have g1:=zAE (s:=UInt8.ofNat (n%128+128)::UInt8.ofNat (n / 128%128+128)::UInt8.ofNat (n / 128 / 128%128+128)::UInt8.ofNat (n / 128 / 128 / 128%128+128)::UInt8.ofNat (n / 128 / 128 / 128 / 128)::r) (i:=0) rfl;have g2:=zAE (s:=UInt8.ofNat (n%128+128)::UInt8.ofNat (n / 128%128+128)::UInt8.ofNat (n / 128 / 128%128+128)::UInt8.ofNat (n / 128 / 128 / 128%128+128)::UInt8.ofNat (n / 128 / 128 / 128 / 128)::r) (i:=1) rfl;have g3:=zAE (s:=UInt8.ofNat (n%128+128)::UInt8.ofNat (n / 128%128+128)::UInt8.ofNat (n / 128 / 128%128+128)::UInt8.ofNat (n / 128 / 128 / 128%128+128)::UInt8.ofNat (n / 128 / 128 / 128 / 128)::r) (i:=2) rfl;have g4:=zAE (s:=UInt8.ofNat (n%128+128)::UInt8.ofNat (n / 128%128+128)::UInt8.ofNat (n / 128 / 128%128+128)::UInt8.ofNat (n / 128 / 128 / 128%128+128)::UInt8.ofNat (n / 128 / 128 / 128 / 128)::r) (i:=3) rfl;have g5':(DE.f (.wrap .u32) [bD 4]).eval X [.bytes (UInt8.ofNat (n%128+128)::UInt8.ofNat (n / 128%128+128)::UInt8.ofNat (n / 128 / 128%128+128)::UInt8.ofNat (n / 128 / 128 / 128%128+128)::UInt8.ofNat (n / 128 / 128 / 128 / 128)::r)] = .int ((n / 128 / 128 / 128 / 128:Nat):Int):=by
       rw[ev_f,zAA,zBA,g5,zLA,l4,yXB (by omega) (by omega)]
      have w2:=qCF (i:=7) g1 g2 (by omega) (by omega) (by omega);have w3:=qCF (i:=14) w2 g3 (by omega) (by omega) (by omega);have w4:=qCF (i:=21) w3 g4 (by omega) (by omega) (by omega);have w5:=qCF (i:=28) w4 g5' (by omega) (by omega) (by omega);refine w5.trans ?_
      congr 2;omega
 have hf:=fin70 hs.symm key.1 key.2 (by have:=qTB n;omega);exact⟨obs70 hf.2,hf.1⟩
end Go.Mx
namespace Go.Mx
open Go Go.Dx
def rdN(k nl v:Int)(x:Bool):Nat :=
 if k=0 then 61 else if k=1 then 62 else if k=2 then 63 else if k=3 then 65 else if k=5 then 64 else if k=7 then 67 else
 if k=8 then (if 0<=nl/\nl<=v then (if x then 75 else 74) else (if x then 73 else 72)) else
 if k=9 then (if 0<=nl/\nl<=v then (if x then 79 else 78) else (if x then 77 else 76)) else 66
def rdE(n:Nat)(s:DE):DE:=.f (.ext n) [s]
def hdE(e:DE):DE:=.f (.get 0) [e]
def tlE(e:DE):DE:=.f (.get 1) [e]
mutual
def zF(tg:Bool):Fl->List D
 | .mk k _ _ nl _ _ _ sub=>if k=11 then [.nil] else if k=10 then zS tg sub else dV k nl (tDf 0) []
def zS(tg:Bool):Option (List Fl)->List D
 | none=>if tg then [.nil] else []
 | some l=>zL tg l++(if tg then [.nil] else [])
def zL(tg:Bool):List Fl->List D
 | []=>[]
 | f::r=>zF tg f++zL tg r
end
def zEl(tg:Bool)(of:Int)(sub:Option (List Fl)):D:=elD of (if of=10 then zS tg sub else dV of (-1) (tDf 0) []) (tDf 0)
def dfV:Fl->D
 | .mk k _ _ nl _ df _ _=>(dV k nl (tDf df) []).headD .nil
def dfE(tg:Bool):List Fl->DE->Nat->DE->DE
 | [],_,_,a=>a
 | f::r,i,off,a=>dfE tg r i (off+wdF tg f) (if dfl f then .f (.setCells off) [a,i,.k (dfV f)] else a)
def dfO(tg:Bool):List Fl->DE->Nat->DE->List Ob
 | [],_,_,_=>[]
 | f::r,i,off,a=>dfO tg r i (off+wdF tg f) (if dfl f then .f (.setCells off) [a,i,.k (dfV f)] else a)++(if dfl f then [.idx i a true] else [])
def lenE(x:Bool)(s:DE):DE:=rdE (if x then 81 else 80) s
def iniE0(l:DE)(z:D):DE:=.f .ite [.f .ltI [.k (.int 0),l],.f .app [.k .nil,.f .repl [l,.k z]],.k .nil]
def niE(l:DE):DE:=.f .take [.f .ite [.f .eqI [l,.k (.int 0)],.f .mklist [],.k .nil],.k (.int 0)]
def iniE(nl:Int)(l:DE)(z:D):DE:=if nl<0 then iniE0 l z else .f .ite [.f .ltI [.k (.int 0),l],.f .app [.k .nil,.f .repl [l,.k z]],niE l]
def capO(nl:Int)(l:DE)(n:Nat):List Ob:=if nl<0 then [.cap l n] else [.when (.f .isNil [niE l]) false [.nz (.k (.int 0))],.cap l n]
def valE(k:Int)(e:DE):DE:=if k=7 then .f .mkrow (yRE e 16) else e
def zZK(v:Int)(x:Bool)(lv:Nat)(of:Int)(q:DE×DE):DE×DE :=
 if of=10 then q else (.f .setAt [.v (lv+2),.v lv,valE of (hdE (rdE (rdN of (-1) v x) (.v (lv+3))))],tlE (rdE (rdN of (-1) v x) (.v (lv+3))))
mutual
def rdF(tg:Bool)(v:Int)(x:Bool)(lv:Nat):Fl->DE->DE×DE
 | .mk k _ _ nl _ _ of sub,s =>
  if k=11 then
   let e:=lenE x s
   let b:=zZK v x lv of (rdS tg v x (lv+4) sub (.v lv) (dfE tg (sub.getD []) (.v lv) 0 (.v (lv+2))) (.v (lv+3)))
   (.fold lv (.f .iota [hdE e]) [iniE nl (hdE e) (zEl tg of sub),tlE e] [b.1,b.2] 0,.fold lv (.f .iota [hdE e]) [iniE nl (hdE e) (zEl tg of sub),tlE e] [b.1,b.2] 1)
  else (hdE (rdE (rdN k nl v x) s),tlE (rdE (rdN k nl v x) s))
def rdS(tg:Bool)(v:Int)(x:Bool)(lv:Nat):Option (List Fl)->DE->DE->DE->DE×DE
 | none,i,a,s=>if x then (.f (.setCells 0) [a,i,hdE (rdE 82 s)],tlE (rdE 82 s)) else (a,s)
 | some l,i,a,s =>
  let q:=rdL tg v x lv l i 0 a s
  if x then (.f (.setCells (wdL tg l)) [q.1,i,hdE (rdE 82 q.2)],tlE (rdE 82 q.2)) else q
def rdL(tg:Bool)(v:Int)(x:Bool)(lv:Nat):List Fl->DE->Nat->DE->DE->DE×DE
 | [],_,_,a,s=>(a,s)
 | f::r,i,off,a,s =>
  if f.tag<0/\has f v=true then
   let q:=rdF tg v x lv f s
   rdL tg v x lv r i (off+wdF tg f) (.f (.setCells off) [a,i,valE f.kind q.1]) q.2
  else rdL tg v x lv r i (off+wdF tg f) a s
end
def cellR:Fl->DE->List DE
 | .mk k _ _ _ _ _ _ _,e=>if k=7 then yRE e 16 else [e]
def dfF(tg:Bool):Fl->List D
 | .mk k _ _ nl _ df _ sub=>if k=11 then [.nil] else if k=10 then zS tg sub else dV k nl (tDf df) []
def rdT(tg:Bool)(v:Int)(x:Bool)(lv:Nat):List Fl->DE->List DE×DE
 | [],s=>([],s)
 | f::r,s =>
  if f.tag<0/\has f v=true then
   let q:=rdF tg v x lv f s
   let p:=rdT tg v x lv r q.2
   (cellR f q.1++p.1,p.2)
  else
   let p:=rdT tg v x lv r s
   ((dfF tg f).map .k++p.1,p.2)
def rdM(tg:Bool)(v:Int)(x:Bool)(lv:Nat)(fs:Option (List Fl))(s:DE):List DE :=
 let p:=rdT tg v x lv (fs.getD []) s
 p.1++(if x then [.f (.get 0) [hdE (rdE 82 p.2)]] else if tg then [.k .nil] else [])
def nilO(a i:DE)(off:Nat):Ob:=.when (.f .not [.f .isNil [.f (.get off) [.f .at [a,i]]]]) true [.nz (.k (.int 0))]
def elO:Option (DE×DE×Nat)->Ob->List Ob
 | some (a,i,off),p=>[nilO a i off,p,.idx i a true]
 | none,p=>[p]
def bodyO(v:Int)(x:Bool)(lv:Nat)(of:Int)(o:List Ob):List Ob :=
 if of=10 then o else [.idx (.v lv) (.v (lv+2)) true,.idx (.v lv) (.v (lv+2)) true,.pre (rdN of (-1) v x) [.v (lv+3)]]
mutual
def roF(tg:Bool)(v:Int)(x:Bool)(lv:Nat):Fl->DE->Option (DE×DE×Nat)->List Ob
 | .mk k _ _ nl _ _ of sub,s,el =>
  if k=11 then
   let e:=lenE x s
   let b:=zZK v x lv of (rdS tg v x (lv+4) sub (.v lv) (dfE tg (sub.getD []) (.v lv) 0 (.v (lv+2))) (.v (lv+3)))
   [.all (.f .iota [hdE e]) [iniE nl (hdE e) (zEl tg of sub),tlE e] [b.1,b.2] (bodyO v x lv of (roS tg v x (lv+4) sub (.v lv) (dfE tg (sub.getD []) (.v lv) 0 (.v (lv+2))) (.v (lv+3))++(dfO tg (sub.getD []) (.v lv) 0 (.v (lv+2))++[.idx (.v lv) (.v (lv+2)) true]))),.when (.f .ltI [.k (.int 0),hdE e]) true (capO nl (hdE e) (szV of (-1) (szS tg sub)).1)] ++
    elO el (.pre (if x then 81 else 80) [s])
  else [.pre (rdN k nl v x) [s]]
def roS(tg:Bool)(v:Int)(x:Bool)(lv:Nat):Option (List Fl)->DE->DE->DE->List Ob
 | none,i,a,s=>if x then [.idx i a true,.pre 82 [s]] else []
 | some l,i,a,s =>
  let q:=rdL tg v x lv l i 0 a s
  (if x then [.idx i q.1 true,.pre 82 [q.2]] else [])++roL tg v x lv l i 0 a s
def roL(tg:Bool)(v:Int)(x:Bool)(lv:Nat):List Fl->DE->Nat->DE->DE->List Ob
 | [],_,_,_,_=>[]
 | f::r,i,off,a,s =>
  if f.tag<0/\has f v=true then
   let q:=rdF tg v x lv f s
   roL tg v x lv r i (off+wdF tg f) (.f (.setCells off) [a,i,valE f.kind q.1]) q.2++(.idx i a true::roF tg v x lv f s (some (a,i,off)))
  else roL tg v x lv r i (off+wdF tg f) a s
end
def roT(tg:Bool)(v:Int)(x:Bool)(lv:Nat):List Fl->DE->List Ob
 | [],_=>[]
 | f::r,s =>
  if f.tag<0/\has f v=true then roT tg v x lv r (rdF tg v x lv f s).2++roF tg v x lv f s none
  else roT tg v x lv r s
def roM(tg:Bool)(v:Int)(x:Bool)(lv:Nat)(fs:Option (List Fl))(s:DE):List Ob :=
 (if x then [.pre 82 [(rdT tg v x lv (fs.getD []) s).2]] else [])++roT tg v x lv (fs.getD []) s
end Go.Mx
namespace Go.Mx
open Go Go.Dx
theorem okL_nl{v:Int}{a b:T}(hl:a.L=b.L):∀(l:List Fl) (i:Nat),okL true v l i a->okL true v l i b
 | [],_,_=>trivial
 | f::r,i,h=>by
  rw[okL] at h ⊢
  have:at' a i=at' b i:=by unfold at';rw[hl]
  exact⟨fun ha=>this▸h.1 ha,okL_nl hl r (i+1) h.2⟩
theorem okS_nl{v:Int}{fs:Option (List Fl)}{a b:T}(hl:a.L=b.L)(hu:a.U=b.U)(h:okS true v fs a):okS true v fs b:=by
 cases fs with
 | none=>rw[okS] at h ⊢;rwa [<- hu]
 | some l=>rw[okS] at h ⊢;exact⟨hu▸h.1,okL_nl hl l 0 h.2⟩
theorem wfT_L{t:T}(h:wfT t=true):∀y∈t.L,wfT y=true:=by
 obtain⟨n,s,b,l,u⟩:=t;simp only[wfT,Bool.and_eq_true] at h;cases l with
 | none=>intro y hy;simp[T.L,T.l] at hy
 | some l=>exact qQE.1 h.1.2
theorem yLJ:wfT T.zero=true:=by decide
theorem yJJ{t:T}(h:wfT t=true)(i:Int):wfT (at' t i)=true:=by
 unfold at';split
 ·rw[List.getD_eq_getElem?_getD];cases hg:t.L[i.toNat]? with
  | none=>exact yLJ
  | some y=>exact wfT_L h y (List.mem_of_getElem? hg)
 ·exact yLJ
theorem wfT_U{t:T}(h:wfT t=true):∀y∈t.U,0<=y.key/\y.key<4294967296:=by
 obtain⟨n,s,b,l,u⟩:=t;simp only[wfT,Bool.and_eq_true] at h;intro y hy
 have:=List.all_eq_true.1 h.2 y hy
 simpa[wfTg] using this
theorem qFG(fs:Option (List Fl))(v:Int)(t:T)(h:wfT t=true):qYA (given (FitS fs v t)).U:=by
 have e:(given (FitS fs v t)).U=(zUA (fs.getD []) t.u).map cut:=by
  rw[gF];exact xHA _
 rw[e];obtain⟨a,b⟩:=yEJ (fs.getD []) t.u;refine⟨zQL a,by rw[List.length_map];exact zPC _ _,fun y hy=>?_⟩;obtain⟨z,hz,rfl⟩:=List.mem_map.1 hy;obtain⟨k1,k2⟩:=wfT_U h z (b z hz).2;refine⟨k1,k2,?_⟩;show ((whole z.val).getD []).length<=Most;rw[qPB,List.length_take];omega
theorem okV_gB{v k nl:Int}{b:Bool}{sub:Option (List Fl)}{t:T}(hb:b=true->0<=nl/\nl<=v):okV v k nl (gB k b sub v t):=by
 intro hk;refine⟨?_,fun h=>?_⟩
 ·rw[gB_S _ _ _ _ _ (by omega),if_pos hk,List.length_take];omega
 ·rw[zHI,if_pos (by omega)] at h;exact hb h
mutual
theorem qBK:∀(f:Fl) (v:Int) (t:T),xSD f=true->wfT t=true->okF true v f (given (yBB f v t))
 | .mk k a b nl g df of sub,v,t,hp,hw=>by
  obtain⟨hg,_,hof,hs⟩:=zFC hp;have hsub:∀(b:Bool) (y:T),wfT y=true->okS true v sub (gB 10 b sub v y):=fun b y hy=>by
   have:=yCH sub v y hs hy
   obtain⟨e1,e2⟩:=xEK b sub v y;exact okS_nl e1.symm (by unfold T.U;rw[e2]) this
  by_cases h:k=11
  ·have hof:=hof h;subst h;rw[okF,if_pos rfl,zDE,mk_L];refine⟨by rw[List.length_map,List.length_take];omega,fun hn=>?_,fun y hy=>?_⟩
   ·simp only[T.null] at hn;have hz:decide (0<=g)=false:=by simp;omega
    rw[hz,Bool.false_and,Bool.or_false,zEC] at hn;simp only[Bool.and_eq_true,decide_eq_true_eq,Fl.null] at hn;exact .inl ⟨of_decide_eq_true hn.2.1,of_decide_eq_true hn.2.2⟩
   ·obtain⟨z,hz,rfl⟩:=List.mem_map.1 hy;refine⟨okV_gB (fun h=>by cases h),fun h10=>?_⟩;subst h10;exact hsub false z (wfT_L hw z (List.mem_of_mem_take hz))
  ·rw[okF,if_neg h,zEE _ _ _ _ _ _ _ _ _ _ h];refine⟨okV_gB (fun hn=>?_),fun h10=>?_⟩
   ·rw[zEC] at hn;simp only[Bool.and_eq_true,decide_eq_true_eq,Fl.null] at hn;exact⟨of_decide_eq_true hn.2.1,of_decide_eq_true hn.2.2⟩
   ·subst h10;exact hsub _ t hw
theorem yCH:∀(fs:Option (List Fl)) (v:Int) (t:T),zGC fs=true->wfT t=true->okS true v fs (given (FitS fs v t))
 | none,v,t,_,hw=>qFG none v t hw
 | some l,v,t,hp,hw=>by
  rw[okS];refine⟨qFG (some l) v t hw,?_⟩;have hl:=yBH l v hp;have key:∀(r:List Fl) (i:Nat),(∀(k:Nat) f,r[k]? = some f->l[i+k]? = some f)->okL true v r i (given (FitS (some l) v t)):=by
   intro r
   induction r with
   | nil=>intro i _;trivial
   | cons f r ih =>
    intro i h;rw[okL];refine⟨fun _=>?_,ih (i+1) (fun k g hg=>by
     have:=h (k+1) g hg
     rwa [show i+(k+1)=i+1+k by omega] at this)⟩
    have hf:l[i]? = some f:=h 0 f rfl;rw[at_gF (some l) v t i f hf];exact hl f (List.mem_of_getElem? hf) _ (yJJ hw _)
  exact key l 0 (fun k f hk=>by rwa [Nat.zero_add])
theorem yBH:∀(l:List Fl) (v:Int),yDB l=true -> ∀f∈l,∀t,wfT t=true->okF true v f (given (yBB f v t))
 | [],_,_,f,hf,_,_=>by cases hf
 | g::r,v,hp,f,hf,t,hw=>by
  simp only[yDB,Bool.and_eq_true] at hp;rcases List.mem_cons.1 hf with h1|h1
  ·rw[h1];exact qBK g v t hp.1 hw
  ·exact yBH r v hp.2 f h1 t hw
end
def okAll(M:Msg):Bool:=yBI M&&wfFs M.fs&&okGs M.fs&&decide (0<=M.most)&&decide (M.most<=1000)
def qPJ(M:Msg):DE:=.f .mkrow [scE M.fs,.k (.int M.fx)]
end Go.Mx
namespace Go.Mx
open Go Go.Dx
def qBE(k:Int):Bool:=k==0 || k==1 || k==2 || k==3 || k==4 || k==5 || k==7 || k==8 || k==9
def zCK(k nl v:Int):Bool:=(decide (k≠8)&&decide (k≠9)) || decide (nl<0) || decide (nl<=v)
def anyT(v:Int):Option (List Fl)->Bool
 | none=>false
 | some l=>l.any fun f=>qUC f v
mutual
def rkF(v:Int)(x:Bool):Fl->Bool
 | .mk k _ _ nl _ _ of sub=>if k=11 then (decide (nl<0) || decide (nl<=v))&&(qBE of || (decide (of=10)&&rkS v x sub&&(x || anyT v sub))) else qBE k&&zCK k nl v
def rkS(v:Int)(x:Bool):Option (List Fl)->Bool
 | none=>true
 | some l=>rkL v x l
def rkL(v:Int)(x:Bool):List Fl->Bool
 | []=>true
 | f::r=>decide (f.kind≠10)&&(!qUC f v || rkF v x f)&&rkL v x r
end
def bcL(tg:Bool)(v:Int)(x:Bool):List Fl->Nat->T->List D
 | [],_,_=>[]
 | f::r,i,t=>(if qUC f v then dF tg f (qTC v x f (at' t i)) else dfF tg f)++bcL tg v x r (i+1) t
theorem at_mk(n:Int)(s:Option (List UInt8))(b:Bool)(P Q:List T)(y:T)(u:Option (List Tg)):at' (.mk n s b (some (P++y::Q)) u) (P.length:Nat)=y:=by
 unfold at' T.L T.l;rw[if_pos (by simp only[Option.getD_some,List.length_append,List.length_cons];omega),Option.getD_some,Int.toNat_natCast]
 simp
theorem dF_dfT(tg:Bool)(f:Fl)(h:f.kind≠10):dF tg f (dfT f)=dfF tg f:=by
 cases f with
 | mk k a b nl g df of sub =>
  rw[dF,dfF];by_cases h11:k=11
  ·rw[if_pos h11,if_pos h11];rfl
  ·rw[if_neg h11,if_neg h11,if_neg (show ¬k=10 from h)];unfold dV;rw[if_neg (show ¬k=10 from h),if_neg (show ¬k=10 from h)];rfl
theorem yJK(tg:Bool)(v:Int)(x:Bool)(n:Int)(s:Option (List UInt8))(b:Bool)(u:Option (List Tg)):∀(l:List Fl) (P:List T) (t:T),rkL v x l=true->dL tg l P.length (.mk n s b (some (P++qGH v x l P.length t)) u)=bcL tg v x l P.length t
 | [],P,t,_=>rfl
 | f::r,P,t,h=>by
  simp only[rkL,Bool.and_eq_true,decide_eq_true_eq] at h;have ih:=yJK tg v x n s b u r (P++[if qUC f v then qTC v x f (at' t P.length) else dfT f]) t h.2;rw[List.length_append,List.length_singleton,List.append_assoc,List.singleton_append] at ih;rw[dL,bcL,qGH,at_mk,ih]
  congr 1
  by_cases ht:qUC f v=true
  ·rw[if_pos ht,if_pos ht]
  ·rw[if_neg ht,if_neg ht,dF_dfT tg f h.1.1]
theorem zVL(u:List Tg):tagD (u.map fun y=>(⟨y.key,some (y.val.getD [])⟩:Tg))=yMC u .nil:=by
 unfold tagD yMC;rw[List.foldl_map];rfl
theorem U_back(x:Bool)(u:List Tg)(n:Int)(s:Option (List UInt8))(b:Bool)(l:Option (List T)):tagD (T.U (.mk n s b l (qAF x u)))=if x then yMC u .nil else .nil:=by
 unfold qAF T.U T.u;cases x
 ·rfl
 ·exact zVL u
theorem qVH(tg:Bool)(v:Int)(x:Bool)(fs:Option (List Fl))(t:T)(h:rkS v x fs=true):dS tg fs (qJA v x fs t)=bcL tg v x (fs.getD []) 0 t++(if tg then [if x then yMC t.U .nil else .nil] else []):=by
 cases fs with
 | none=>rw[qJA,dS,U_back];rfl
 | some l =>
  rw[qJA,dS,U_back]
  have:=yJK tg v x 0 none false (qAF x t.U) l [] t h
  simp only[List.length_nil,List.nil_append] at this;rw[this];rfl
def valD(k nl:Int)(t:T):D:=if k=7 then .row (u16D t.S) else (dV k nl t []).headD .nil
def yQC(s:DE)(J:List D)(q:List UInt8):Prop:=q≠[]->s.eval X J = .bytes q
theorem zFG{k:Int}(h:qBE k=true):k=0∨k=1∨k=2∨k=3∨k=4∨k=5∨k=7∨k=8∨k=9:=by
 simp only[qBE,Bool.or_eq_true,beq_iff_eq] at h;omega
theorem xMF{s:List UInt8}(h:s.length<=Most):s.take Most=s:=List.take_of_length_le h
theorem qXK{k nl:Int}{t:T}(h:qBE k=true)(h7:k≠7):dV k nl t []=[valD k nl t]/\(valD k nl t).cells=[valD k nl t]:=by
 rcases zFG h with rfl|rfl|rfl|rfl|rfl|rfl|rfl|rfl|rfl
 ·exact⟨rfl,rfl⟩
 ·exact⟨rfl,rfl⟩
 ·exact⟨rfl,rfl⟩
 ·exact⟨rfl,rfl⟩
 ·exact⟨rfl,rfl⟩
 ·exact⟨rfl,rfl⟩
 ·exact absurd rfl h7
 ·unfold valD dV;simp only[show ¬((8:Int)=0) by decide,show ¬((8:Int)=1) by decide,show ¬((8:Int)=2) by decide,show ¬((8:Int)=3) by decide,show ¬((8:Int)=5) by decide,show ¬((8:Int)=7) by decide,if_true,if_false];split
  ·exact⟨rfl,rfl⟩
  ·cases t.null <;> exact⟨rfl,rfl⟩
 ·unfold valD dV;simp only[show ¬((9:Int)=0) by decide,show ¬((9:Int)=1) by decide,show ¬((9:Int)=2) by decide,show ¬((9:Int)=3) by decide,show ¬((9:Int)=5) by decide,show ¬((9:Int)=7) by decide,show ¬((9:Int)=8) by decide,if_true,if_false];cases t.null <;> exact⟨rfl,rfl⟩
theorem beN_one(b:UInt8)(r:List UInt8):beN ((b::r).take 1)=b.toNat:=by simp[beN]
theorem wf_n{t:T}(h:wfT t=true):IntKind.i64.wrap t.n=t.n:=by
 obtain⟨n,s,b,l,u⟩:=t;simp only[wfT,Bool.and_eq_true] at h
 have:=h.1.1
 show IntKind.i64.wrap n=n;simp[Lit.wf,IntKind.min,IntKind.max,IntKind.signed,IntKind.bits] at this;rw[IntKind.wrap_i64];omega
theorem take16{a r:List UInt8}(h:a.length=16):(a++r).take 16=a/\(a++r).drop 16=r:=⟨yAJ a r h,qDI a r h⟩
theorem rd_leaf{k nl v:Int}{x b:Bool}{t:T}{p r:List UInt8}(hk:qBE k=true)(hn:zCK k nl v=true)(hok:okV v k nl t)(hw:wfT t=true)(hb:b=(t.null&&(decide (0<=nl)&&decide (nl<=v)))) :
  side (rdN k nl v x) [.bytes (zXA k b x t p++r)]/\X (rdN k nl v x) [.bytes (zXA k b x t p++r)]=rowR (valD k nl t) r:=by
 rcases zFG hk with rfl|rfl|rfl|rfl|rfl|rfl|rfl|rfl|rfl
 ·refine⟨⟨_,rfl,by simp[zXA]⟩,?_⟩;show X 61 [_]=_;rw[X_61,zZA];simp only[zXA,if_true,List.singleton_append,beN_one];have h2:=Int.emod_two_eq t.n;unfold rowR
  congr 3
  ·rcases h2 with h|h
   ·have:decide (t.n%2=1)=false:=by simp[h]
    rw[this,h];rfl
   ·have:decide (t.n%2=1)=true:=by simp[h]
    rw[this,h];rfl
 ·refine⟨⟨_,rfl,by rw[List.length_append];show 1<=(zHA t.n 1).length+_;rw[zQA];omega⟩,?_⟩;show X 62 [_]=_;rw[X_62,zZA]
  have:=yCC .i8 1 (by decide) t.n r
  show rowR (.int (rI .i8 1 (zHA t.n 1++r)).1) (rI .i8 1 (zHA t.n 1++r)).2=_;rw[this];rfl
 ·refine⟨⟨_,rfl,by rw[List.length_append];show 2<=(zHA t.n 2).length+_;rw[zQA];omega⟩,?_⟩;show X 63 [_]=_;rw[X_63,zZA]
  have:=yCC .i16 2 (by decide) t.n r
  show rowR (.int (rI .i16 2 (zHA t.n 2++r)).1) (rI .i16 2 (zHA t.n 2++r)).2=_;rw[this];rfl
 ·refine⟨⟨_,rfl,by rw[List.length_append];show 4<=(zHA t.n 4).length+_;rw[zQA];omega⟩,?_⟩;show X 65 [_]=_;rw[X_65,zZA]
  have:=yCC .i32 4 (by decide) t.n r
  show rowR (.int (rI .i32 4 (zHA t.n 4++r)).1) (rI .i32 4 (zHA t.n 4++r)).2=_;rw[this];rfl
 ·refine⟨⟨_,rfl,by rw[List.length_append];show 8<=(zHA t.n 8).length+_;rw[zQA];omega⟩,?_⟩;show X 66 [_]=_;rw[X_66,zZA]
  have:=yCC .i64 8 (by decide) t.n r
  show rowR (.int (rI .i64 8 (zHA t.n 8++r)).1) (rI .i64 8 (zHA t.n 8++r)).2=_;rw[this,wf_n hw];rfl
 ·refine⟨⟨_,rfl,by rw[List.length_append];show 2<=(zHA t.n 2).length+_;rw[zQA];omega⟩,?_⟩;show X 64 [_]=_;rw[X_64,zZA]
  have:=yCC .u16 2 (by decide) t.n r
  show rowR (.int (rI .u16 2 (zHA t.n 2++r)).1) (rI .u16 2 (zHA t.n 2++r)).2=_;rw[this];rfl
 ·have h16:=take16 (r:=r) (yAB t.S);refine⟨⟨_,rfl,by rw[List.length_append];show 16<=(zLC t.S).length+_;rw[yAB];omega⟩,?_⟩;show X 67 [_]=_;rw[X_67,zZA];show rowR (.row (((zLC t.S++r).take 16).map fun x=>.int x.toNat)) ((zLC t.S++r).drop 16)=_;rw[h16.1,h16.2];rfl
 ·obtain⟨hl,hnul⟩:=hok (.inl rfl);have hd:valD 8 nl t=if nl<0 then .str t.S else if t.null then .nil else .ptr (.str t.S):=by
   show List.headD (if nl<0 then [D.str t.S] else [if t.null then D.nil else D.ptr (.str t.S)]) D.nil=_;split <;> rfl
  have hv:zXA 8 b x t p=counted x b (if b then [] else t.S).length 2++(if b then [] else t.S):=by
   show counted x b (if b then [] else t.S.take Most).length 2++(if b then [] else t.S.take Most)=_;rw[xMF hl]
  rw[hv,hd,List.append_assoc];by_cases hN:0<=nl/\nl<=v
  ·have hb':b=t.null:=by rw[hb];simp[hN.1,hN.2]
   rw[if_neg (show ¬nl<0 by omega)];have e:rdN 8 nl v x=if x then 75 else 74:=by show (if 0<=nl/\nl<=v then (if x then 75 else 74) else (if x then 73 else 72))=_;rw[if_pos hN]
   rw[e,<- hb'];cases b
   ·simp only[Bool.false_eq_true,if_false];cases x
    ·simp only[Bool.false_eq_true,if_false];refine⟨.inr ⟨t.S,r,rfl,hl⟩,?_⟩;rw[X_74,zZA];show rowR (ptrR (qEE (zHA (t.S.length:Nat) 2++(t.S++r))).1) (qEE (zHA (t.S.length:Nat) 2++(t.S++r))).2=_;rw[zVG r hl];rfl
    ·simp only[if_true];refine⟨.inr ⟨t.S,r,rfl,hl⟩,?_⟩;rw[X_75,zZA];show rowR (ptrR (qBB (zDA (t.S.length+1)++(t.S++r))).1) (qBB (zDA (t.S.length+1)++(t.S++r))).2=_;rw[qAC];rfl
   ·simp only[if_true,List.nil_append];cases x
    ·simp only[Bool.false_eq_true,if_false];refine⟨.inl ⟨r,rfl⟩,?_⟩;rw[X_74,zZA];show rowR (ptrR (qEE (zHA (-1) 2++r)).1) (qEE (zHA (-1) 2++r)).2=_;rw[zUG];rfl
    ·simp only[if_true];have e0:counted true true ([]:List UInt8).length 2=zDA 0:=by rw[yRC];rfl
     rw[e0];refine⟨.inl ⟨r,rfl⟩,?_⟩;rw[X_75,zZA,xZC];rfl
  ·have hn0:nl<0:=by
    simp only[zCK,Bool.or_eq_true,Bool.and_eq_true,decide_eq_true_eq] at hn;omega
   have hb':b=false:=by rw[hb];simp[show ¬0<=nl by omega]
   rw[if_pos hn0];have e:rdN 8 nl v x=if x then 73 else 72:=by show (if 0<=nl/\nl<=v then (if x then 75 else 74) else (if x then 73 else 72))=_;rw[if_neg hN]
   rw[e,hb'];simp only[Bool.false_eq_true,if_false];cases x
   ·simp only[Bool.false_eq_true,if_false];refine⟨⟨t.S,r,rfl,hl⟩,?_⟩;rw[X_72,zZA];show rowR (.str (rStr (zHA (t.S.length:Nat) 2++(t.S++r))).1) (rStr (zHA (t.S.length:Nat) 2++(t.S++r))).2=_;rw[xSG r hl]
   ·simp only[if_true];refine⟨⟨t.S,r,rfl,hl⟩,?_⟩;rw[X_73,zZA];show rowR (.str (xID (zDA (t.S.length+1)++(t.S++r))).1) (xID (zDA (t.S.length+1)++(t.S++r))).2=_;rw[yDD]
 ·obtain⟨hl,hnul⟩:=hok (.inr rfl);have hd:valD 9 nl t=if t.null then .nil else .bytes t.S:=rfl
  have hv:zXA 9 b x t p=counted x b (if b then [] else t.S).length 4++(if b then [] else t.S):=by
   show counted x b (if b then [] else t.S.take Most).length 4++(if b then [] else t.S.take Most)=_;rw[xMF hl]
  rw[hv,hd,List.append_assoc];by_cases hN:0<=nl/\nl<=v
  ·have hb':b=t.null:=by rw[hb];simp[hN.1,hN.2]
   have e:rdN 9 nl v x=if x then 79 else 78:=by show (if 0<=nl/\nl<=v then (if x then 79 else 78) else (if x then 77 else 76))=_;rw[if_pos hN]
   rw[e,<- hb'];cases b
   ·simp only[Bool.false_eq_true,if_false];cases x
    ·simp only[Bool.false_eq_true,if_false];refine⟨.inr ⟨t.S,r,rfl,hl⟩,?_⟩;rw[X_78,zZA];show rowR (encB (rNB4 (zHA (t.S.length:Nat) 4++(t.S++r))).1) (rNB4 (zHA (t.S.length:Nat) 4++(t.S++r))).2=_;rw[yNH r hl];rfl
    ·simp only[if_true];refine⟨.inr ⟨t.S,r,rfl,hl⟩,?_⟩;rw[X_79,zZA];show rowR (encB (qBB (zDA (t.S.length+1)++(t.S++r))).1) (qBB (zDA (t.S.length+1)++(t.S++r))).2=_;rw[qAC];rfl
   ·simp only[if_true,List.nil_append];cases x
    ·simp only[Bool.false_eq_true,if_false];refine⟨.inl ⟨r,rfl⟩,?_⟩;rw[X_78,zZA];show rowR (encB (rNB4 (zHA (-1) 4++r)).1) (rNB4 (zHA (-1) 4++r)).2=_;rw[yMH];rfl
    ·simp only[if_true];have e0:counted true true ([]:List UInt8).length 4=zDA 0:=by rw[yRC];rfl
     rw[e0];refine⟨.inl ⟨r,rfl⟩,?_⟩;rw[X_79,zZA,xZC];rfl
  ·have hn0:nl<0:=by
    simp only[zCK,Bool.or_eq_true,Bool.and_eq_true,decide_eq_true_eq] at hn;omega
   have hb':b=false:=by rw[hb];simp[show ¬0<=nl by omega]
   have ht:t.null=false:=by
    cases h:t.null with
    | false=>rfl
    | true=>exact absurd (hnul h) (by omega)
   have e:rdN 9 nl v x=if x then 77 else 76:=by show (if 0<=nl/\nl<=v then (if x then 79 else 78) else (if x then 77 else 76))=_;rw[if_neg hN]
   rw[e,hb',ht];simp only[Bool.false_eq_true,if_false];cases x
   ·simp only[Bool.false_eq_true,if_false];refine⟨⟨t.S,r,rfl,hl⟩,?_⟩;rw[X_76,zZA];show rowR (.bytes (rB4 (zHA (t.S.length:Nat) 4++(t.S++r))).1) (rB4 (zHA (t.S.length:Nat) 4++(t.S++r))).2=_;rw[yHI r hl]
   ·simp only[if_true];refine⟨⟨t.S,r,rfl,hl⟩,?_⟩;rw[X_77,zZA];show rowR (.bytes (xID (zDA (t.S.length+1)++(t.S++r))).1) (xID (zDA (t.S.length+1)++(t.S++r))).2=_;rw[yDD]
end Go.Mx
namespace Go.Mx
open Go Go.Dx
section
variable {J:List D}
theorem qPF{s:DE}{d:D}(n:Nat)(h:s.eval X J=d):(rdE n s).eval X J=X n [d]:=by
 unfold rdE;rw[ev_f,zAA,zBA,h,zIA]
theorem xGJ{e:DE}{v:D}{r:List UInt8}(h:e.eval X J=rowR v r):(hdE e).eval X J=v:=by
 unfold hdE;rw[ev_f,zAA,zBA,h,xWA]
theorem xHJ{e:DE}{v:D}{r:List UInt8}(h:e.eval X J=rowR v r):(tlE e).eval X J = .bytes r:=by
 unfold tlE;rw[ev_f,zAA,zBA,h,qDA]
theorem yQC.of{s:DE}{q:List UInt8}(h:s.eval X J = .bytes q):yQC s J q:=fun _=>h
theorem yQC.get{s:DE}{a b:List UInt8}(h:yQC s J (a++b))(hp:0<a.length):s.eval X J = .bytes (a++b):=h (by
 intro e;have:=congrArg List.length e;simp at this;rw[this.1] at hp;simp at hp)
theorem yXD{n:Nat}{s:DE}{d:D}(h:s.eval X J=d)(hs:side n [d]):(Ob.pre n [s]).holds X side J:=by
 simp only[Ob.holds];rw[zAA,zBA,h];exact hs
theorem yVK{s:DE}{k nl v:Int}{x b:Bool}{t:T}{p r:List UInt8}(hk:qBE k=true)(hn:zCK k nl v=true)(hok:okV v k nl t)(hw:wfT t=true)(hb:b=(t.null&&(decide (0<=nl)&&decide (nl<=v))))
  (hs:yQC s J (zXA k b x t p++r)):(hdE (rdE (rdN k nl v x) s)).eval X J=valD k nl t/\(tlE (rdE (rdN k nl v x) s)).eval X J = .bytes r/\(Ob.pre (rdN k nl v x) [s]).holds X side J:=by
 have h10:k≠10:=by rintro rfl;cases hk
 have h:=hs.get (xED k b x t p h10);obtain⟨h1,h2⟩:=rd_leaf (p:=p) (r:=r) (x:=x) hk hn hok hw hb;have h3:=qPF (rdN k nl v x) h;rw[h2] at h3;exact⟨xGJ h3,xHJ h3,yXD h h1⟩
theorem xEJ{k nl:Int}{t:T}(hk:qBE k=true):(valD k nl t).cells=dV k nl t []:=by
 by_cases h7:k=7
 ·subst h7;rfl
 ·obtain⟨h1,h2⟩:=qXK (nl:=nl) (t:=t) hk h7;rw[h1,h2]
theorem yLK{k nl:Int}{t:T}{sd:List D}(hk:qBE k=true):dV k nl t sd=dV k nl t []:=by
 have h10:k≠10:=by rintro rfl;cases hk
 unfold dV;rw[if_neg h10,if_neg h10]
theorem yWK{k nl:Int}{t:T}{e:DE}(hk:qBE k=true)(he:e.eval X J=valD k nl t):(valE k e).eval X J=valD k nl t:=by
 unfold valE;by_cases h7:k=7
 ·subst h7;rw[if_pos rfl,ev_f]
  have:=qKE (r:=e) (J:=J) (l:=u16D t.S) (by rw[he];rfl)
  rw[xHI] at this;rw[this,xNC];rfl
 ·rw[if_neg h7,he]
def El(a i:DE)(J:List D)(l0:List D)(n:Nat)(c:List D):Prop:=a.eval X J = .list (l0.set n (.row c))/\i.eval X J = .int (n:Nat)/\n<l0.length
theorem El.set{a i x:DE}{l0:List D}{n:Nat}{pre old post xs:List D}(h:El a i J l0 n (pre++old++post))(hx:(x.eval X J).cells=xs)(hl:xs.length=old.length):El (.f (.setCells pre.length) [a,i,x]) i J l0 n (pre++xs++post):=by
 obtain⟨h1,h2,h3⟩:=h;refine⟨?_,h2,h3⟩;rw[ev_f,zAA,zAA,zAA,zBA,h1,h2];show D.setCellsD pre.length (.list (l0.set n (.row (pre++old++post)))) ((n:Int).toNat) (x.eval X J)=_;rw[Int.toNat_natCast];have e:(l0.set n (D.row (pre++old++post))).getD n .nil = .row (pre++old++post):=by
  rw[List.getD_eq_getElem?_getD,List.getElem?_set_self h3];rfl
 simp only[D.setCellsD,e,D.putCells,hx,List.set_set];have t1:List.take pre.length (pre++old++post)=pre:=by rw[List.append_assoc,List.take_left]
 have t2:List.drop (pre.length+xs.length) (pre++old++post)=post:=by
  rw[hl,<- List.length_append];exact List.drop_left
 rw[t1,t2,List.append_assoc]
theorem El.idx{a i:DE}{l0:List D}{n:Nat}{c:List D}(h:El a i J l0 n c):(Ob.idx i a true).holds X side J:=by
 obtain⟨h1,h2,h3⟩:=h;simp only[Ob.holds,h1,h2,zOA,D.len,List.length_set];refine⟨by omega,?_⟩;simp only[if_true];omega
theorem El.isNil{a i:DE}{l0:List D}{n:Nat}{pre post:List D}(h:El a i J l0 n (pre++[.nil]++post)):(nilO a i pre.length).holds X side J:=by
 obtain⟨h1,h2,h3⟩:=h;simp only[nilO,Ob.holds];intro hc;exfalso;rw[ev_f,zAA,zBA,ev_f,zAA,zBA,ev_f,zAA,zBA,ev_f,zAA,zAA,zBA,h1,h2,zCH] at hc;have e:(D.list (l0.set n (D.row (pre++[D.nil]++post)))).rows.getD ((n:Int).toNat) .nil = .row (pre++[.nil]++post):=by
  rw[Int.toNat_natCast];show (l0.set n (D.row (pre++[D.nil]++post))).getD n .nil=_;rw[List.getD_eq_getElem?_getD,List.getElem?_set_self h3];rfl
 rw[e,yIA] at hc;have e2:(D.row (pre++[D.nil]++post)).cells.getD pre.length .nil = .nil:=by
  show (pre++[D.nil]++post).getD pre.length .nil = .nil;rw[List.append_assoc,List.getD_eq_getElem?_getD,List.getElem?_append_right (Nat.le_refl _),Nat.sub_self];rfl
 rw[e2] at hc;cases hc
def dfL(tg:Bool):List Fl->List D
 | []=>[]
 | f::r=>dfF tg f++dfL tg r
theorem yNK{tg:Bool}{f:Fl}(h:dfl f=true):dfF tg f=[dfV f]/\(dfV f).cells=[dfV f]:=by
 cases f with
 | mk k a b nl g df of sub =>
  simp only[dfl,Bool.and_eq_true,decide_eq_true_eq] at h;obtain⟨⟨⟨⟨⟨_,h7⟩,h8⟩,h9⟩,h10⟩,h11⟩:=h;rw[dfF,dfV,if_neg h11,if_neg h10];unfold dV;rw[if_neg h7,if_neg h8,if_neg h9,if_neg h10]
  repeat (first|exact⟨rfl,rfl⟩|split)
theorem dfF_no{tg:Bool}{f:Fl}(h:¬dfl f=true):dfF tg f=zF tg f:=by
 cases f with
 | mk k a b nl g df of sub =>
  rw[dfF,zF];by_cases h11:k=11
  ·rw[if_pos h11,if_pos h11]
  ·by_cases h10:k=10
   ·rw[if_neg h11,if_neg h11,if_pos h10,if_pos h10]
   ·rw[if_neg h11,if_neg h11,if_neg h10,if_neg h10];by_cases h0:df=0
    ·rw[h0]
    ·have:k=7∨k=8∨k=9:=by
      simp only[dfl,Bool.and_eq_true,decide_eq_true_eq] at h;by_cases e7:k=7
      ·exact .inl e7
      ·by_cases e8:k=8
       ·exact .inr (.inl e8)
       ·by_cases e9:k=9
        ·exact .inr (.inr e9)
        ·exact absurd ⟨⟨⟨⟨⟨h0,e7⟩,e8⟩,e9⟩,h10⟩,h11⟩ h
     rcases this with rfl|rfl|rfl <;> rfl
mutual
theorem ySL(tg:Bool):∀f:Fl,(zF tg f).length=wdF tg f
 | .mk k a b nl g df of sub=>by
  rw[zF,wdF];by_cases h11:k=11
  ·subst h11;rfl
  ·rw[if_neg h11];by_cases h10:k=10
   ·subst h10;exact zS_len tg sub
   ·rw[if_neg h10]
    have:=qBI k nl (tDf 0) (zS tg sub) tg sub (zS_len tg sub)
    unfold wdV at this;rw[<- this]
    congr 1
    unfold dV;rw[if_neg h10,if_neg h10]
theorem zS_len(tg:Bool):∀fs:Option (List Fl),(zS tg fs).length=wdS tg fs
 | none=>by rw[zS,wdS];cases tg <;> rfl
 | some l=>by rw[zS,wdS,List.length_append,zL_len tg l];cases tg <;> rfl
theorem zL_len(tg:Bool):∀l:List Fl,(zL tg l).length=wdL tg l
 | []=>rfl
 | f::r=>by rw[zL,wdL,List.length_append,ySL tg f,zL_len tg r]
end
theorem zEF(tg:Bool)(f:Fl):(dfF tg f).length=wdF tg f:=by
 by_cases h:dfl f=true
 ·rw[(yNK h).1];cases f with
  | mk k a b nl g df of sub =>
   simp only[dfl,Bool.and_eq_true,decide_eq_true_eq] at h;obtain⟨⟨⟨⟨⟨_,h7⟩,h8⟩,h9⟩,h10⟩,h11⟩:=h;rw[wdF,if_neg h7,if_neg h10];rfl
 ·rw[dfF_no h,ySL]
theorem ev_dfE(tg:Bool):∀(l:List Fl) (a i:DE) (off:Nat) (pre post l0:List D) (n:Nat),El a i J l0 n (pre++zL tg l++post)->off=pre.length->El (dfE tg l i off a) i J l0 n (pre++dfL tg l++post)/\zCA X side (dfO tg l i off a) J
 | [],a,i,off,pre,post,l0,n,h,_=>⟨h,trivial⟩
 | f::r,a,i,off,pre,post,l0,n,h,ho=>by
  subst ho;rw[zL,<- List.append_assoc] at h;rw[dfE,dfL,dfO];have hstep:El (if dfl f then .f (.setCells pre.length) [a,i,.k (dfV f)] else a) i J l0 n (pre++dfF tg f++zL tg r++post):=by
   by_cases hd:dfl f=true
   ·rw[if_pos hd];obtain⟨d1,d2⟩:=yNK (tg:=tg) hd;have h':El a i J l0 n (pre++zF tg f++(zL tg r++post)):=by rw[<- List.append_assoc];exact h
    have:=h'.set (x:=.k (dfV f)) (xs:=dfF tg f) (by rw[ev_k,d2,d1]) (by rw[zEF,ySL])
    rw[<- List.append_assoc] at this;exact this
   ·rw[if_neg hd,dfF_no hd];exact h
  have ih:=ev_dfE tg r _ i (pre.length+wdF tg f) (pre++dfF tg f) post l0 n hstep (by rw[List.length_append,zEF]);rw[<- List.append_assoc];refine⟨ih.1,ySB ih.2 ?_⟩;by_cases hd:dfl f=true
  ·rw[if_pos hd];exact zYB h.idx
  ·rw[if_neg hd];trivial
theorem iota_ev{lv N:Nat}{z0:Int}{l:DE}{is bs:List DE}{st:Nat->List D}(hlv:lv=J.length)(hl:l.eval X J = .int z0)(hz0:z0.toNat=N)(h0:zEA X is J=st 0)(hs:∀k:Nat,k<N->zEA X bs (J++(.int k :: .int k::st k))=st (k+1))(j:Nat) :
  (DE.fold lv (.f .iota [l]) is bs j).eval X J=(st N).getD j .nil:=by
 have hd:J.take lv=J:=by rw[hlv];exact List.take_length
 have e:((DE.f .iota [l]).eval X J).rows=yYB N:=by
  rw[ev_f,zAA,zBA,hl];show (D.list _).rows=_;simp[D.rows,D.asInt,yYB,hz0]
 show (yNA (fun i r acc=>zEA X bs (J.take lv++(.int i::r::acc))) 0 ((DE.f .iota [l]).eval X J).rows (zEA X is J)).getD j .nil=_;rw[e,hd,h0,zME st _ N hs]
theorem iota_all{N:Nat}{z0:Int}{l:DE}{is bs:List DE}{st:Nat->List D}{os:List Ob}(hl:l.eval X J = .int z0)(hz0:z0.toNat=N)(h0:zEA X is J=st 0)(hs:∀k:Nat,k<N->zEA X bs (J++(.int k :: .int k::st k))=st (k+1))
  (ho:∀k:Nat,k<N->zCA X side os (J++(.int k :: .int k::st k))):(Ob.all (.f .iota [l]) is bs os).holds X side J:=by
 have e:((DE.f .iota [l]).eval X J).rows=yYB N:=by
  rw[ev_f,zAA,zBA,hl];show (D.list _).rows=_;simp[D.rows,D.asInt,yYB,hz0]
 simp only[Ob.holds];rw[e];intro k hk;rw[zQD] at hk;rw[zSF _ _ (by omega),yVE _ _ (by omega),h0,zME st _ k (fun i hi=>hs i (by omega))];exact ho k hk
end
end Go.Mx
namespace Go.Mx
open Go Go.Dx
def outL(v:Int)(x:Bool)(l:List Fl)(j:Nat)(t:T):List UInt8:=(mapI (fun i f=>yHC v (rowP v x t i f)) j l).flatten
theorem zZD(v:Int)(x:Bool)(f:Fl)(r:List Fl)(j:Nat)(t:T):outL v x (f::r) j t=(if qUC f v then field f v x (at' t j) else [])++outL v x r (j+1) t:=by
 unfold outL;rw[mapI,List.flatten_cons]
 congr 1
 unfold yHC rowP;by_cases h:qUC f v=true
 ·rw[if_pos h,if_pos (xWB.1 h)]
 ·rw[if_neg h,if_neg (fun e=>h (xWB.2 e))]
def gEl(tg:Bool)(v:Int)(x:Bool)(of:Int)(sub:Option (List Fl))(y:T):D:=if of=10 then .row (dS tg sub (qJA v x sub y)) else valD of (-1) y
theorem elD_back{tg:Bool}{v:Int}{x:Bool}{of:Int}{sub:Option (List Fl)}(h:of=10∨qBE of=true)(y:T) :
  elD of (dV of (-1) (if of=10 then qJA v x sub y else y) (dS tg sub (if of=10 then qJA v x sub y else y))) (if of=10 then qJA v x sub y else y)=gEl tg v x of sub y:=by
 unfold gEl;by_cases h10:of=10
 ·subst h10;rfl
 ·have hk:=h.resolve_left h10;rw[if_neg h10,if_neg h10,yLK hk];unfold elD;by_cases h7:of=7
  ·subst h7;rfl
  ·rw[if_neg h7,if_neg h10,(qXK hk h7).1];rfl
theorem xDK{A:Type}(w:A->List UInt8):∀l:List A,(∀y∈l,0<(w y).length)->l.length<=((l.map w).flatten).length
 | [],_=>Nat.le_refl _
 | y::l,hw=>by
  have:=xDK w l (fun z hz=>hw z (by simp[hz]))
  have:=hw y (by simp)
  simp only[List.map_cons,List.flatten_cons,List.length_append,List.length_cons];omega
def Left(s:DE)(J:List D)(w r:List UInt8)(e:DE):Prop:=e.eval X J = .bytes r∨(e.eval X J=s.eval X J/\w=[])
theorem Left.src{s e:DE}{J:List D}{w r:List UInt8}(h:Left s J w r e)(hs:yQC s J (w++r)):yQC e J r:=by
 rcases h with h|⟨h1,rfl⟩
 ·exact fun _=>h
 ·exact fun hr=>h1.trans (hs hr)
theorem Left.ex{s e:DE}{J:List D}{w r:List UInt8}(h:Left s J w r e)(hp:0<w.length):e.eval X J = .bytes r:=by
 rcases h with h|⟨_,rfl⟩
 ·exact h
 ·simp at hp
theorem xSI{v:Int}{x:Bool}{t:T}(hpos:∀(f:Fl),qUC f v=true->rkF v x f=true -> ∀y,0<(field f v x y).length):∀(l:List Fl) (j:Nat),rkL v x l=true->l.any (fun f=>qUC f v)=true->0<(outL v x l j t).length
 | [],_,_,h=>by cases h
 | f::r,j,hk,h=>by
  simp only[rkL,Bool.and_eq_true,Bool.or_eq_true,decide_eq_true_eq] at hk;rw[zZD,List.length_append];by_cases hf:qUC f v=true
  ·rw[if_pos hf];have hkf:rkF v x f=true:=by
    rcases hk.1.2 with h|h
    ·rw[hf] at h;cases h
    ·exact h
   have:=hpos f hf hkf (at' t j)
   omega
  ·rw[List.any_cons,Bool.or_eq_true] at h
   have:=xSI (t:=t) hpos r (j+1) hk.2 (h.resolve_left hf)
   omega
theorem xAK{f:Fl}{v:Int}{x:Bool}(hk:rkF v x f=true)(t:T):0<(field f v x t).length:=by
 cases f with
 | mk k a b nl g df of sub =>
  rw[zEB];simp only[Fl.kind,Fl.null,Fl.of,Fl.sub];unfold yZB;rw[rkF] at hk;by_cases h:k=11
  ·rw[if_pos h];exact xSA (xBB _ _ _ _ (by omega))
  ·rw[if_neg h] at hk ⊢;simp only[Bool.and_eq_true] at hk;have h10:k≠10:=by rintro rfl;cases hk.1
   rw[if_neg (fun e=>h10 e.1)];exact xED _ _ _ _ _ h10
theorem part_pos{v:Int}{x:Bool}{fs:Option (List Fl)}(hp:zGC fs=true)(hk:rkS v x fs=true)(ha:(x || anyT v fs)=true){t:T}(hu:qYA t.U):0<(zYA fs v x t).length:=by
 rw[xIA hp hu];cases x
 ·rw[if_neg (by decide)];cases fs with
  | none=>cases ha
  | some l=>exact xSI (fun f _ hf y=>xAK hf y) l 0 hk (by simpa[anyT] using ha)
 ·rw[if_pos rfl,List.length_append,qKB,List.length_append]
  have:=qTB t.U.length
  omega
theorem tagsW_rd{u:List Tg}(hu:qYA u):qKB u=zDA u.length++(u.map fun x:Tg=>tagB x.key.toNat (x.val.getD [])).flatten:=by
 obtain⟨h1,h2,h3⟩:=hu;unfold qKB
 congr 2
 apply List.map_congr_left;intro y hy;obtain⟨q1,q2,q3⟩:=h3 y hy;unfold unkB;rw[xMF q3,IntKind.wrap_u64,Int.emod_eq_of_lt q1 (by omega)]
theorem yII{u:List Tg}{r:List UInt8}{s:DE}{J:List D}(hu:qYA u)(hs:yQC s J (qKB u++r)):(hdE (rdE 82 s)).eval X J = .row [yMC u .nil]/\(tlE (rdE 82 s)).eval X J = .bytes r/\(Ob.pre 82 [s]).holds X side J:=by
 have hp:0<(qKB u).length:=by rw[qKB,List.length_append];have:=qTB u.length;omega
 have h:=hs.get hp;have e:qKB u++r=zDA u.length++((u.map fun x:Tg=>tagB x.key.toNat (x.val.getD [])).flatten++r):=by rw[tagsW_rd hu,List.append_assoc]
 have h2:X 82 [.bytes (qKB u++r)]=rowR (.row [yMC u .nil]) r:=by
  rw[X_82,zZA,e,yOH u r (fun x hx=>(hu.2.2 x hx).1)]
 have h3:=qPF 82 h;rw[h2] at h3;exact⟨xGJ h3,xHJ h3,yXD h ⟨u,r,by rw[e],hu⟩⟩
theorem rd_len{x:Bool}{N:Nat}{q:List UInt8}{s:DE}{J:List D}(hN:N<=Most)(hq:N<=q.length)(hs:yQC s J (counted x false N 4++q)) :
  (hdE (lenE x s)).eval X J = .int (N:Nat)/\(tlE (lenE x s)).eval X J = .bytes q/\(Ob.pre (if x then 81 else 80) [s]).holds X side J:=by
 have h:=hs.get (xBB x false N 4 (by omega));have hm:N<=32767:=hN;unfold lenE;cases x
 ·have e:counted false false N 4=zHA (N:Nat) 4:=rfl;rw[e] at h;have h3:=qPF 80 h;have h2:X 80 [.bytes (zHA (N:Nat) 4++q)]=rowR (.int (N:Nat)) q:=by rw[X_80,zZA,rI32,xLB hN]
  rw[h2] at h3;exact⟨xGJ h3,xHJ h3,yXD h ⟨N,q,rfl,by omega,by omega,by omega⟩⟩
 ·have e:counted true false N 4=zDA (N+1):=rfl;rw[e] at h;have h3:=qPF 81 h;have h2:X 81 [.bytes (zDA (N+1)++q)]=rowR (.int (N:Nat)) q:=by
   rw[X_81,zZA,xUA]
   congr 2;simp only[];omega
  rw[h2] at h3;exact⟨xGJ h3,xHJ h3,yXD h ⟨N+1,q,rfl,by omega,by omega⟩⟩
theorem rd_lenN{x b:Bool}{N:Nat}{q:List UInt8}{s:DE}{J:List D}(hN:N<=Most)(hb:b=true->N=0)(hq:N<=q.length)(hs:yQC s J (counted x b N 4++q)) :
  ∃z0:Int,z0.toNat=N/\(b=true->z0 = -1)/\(b=false->z0=(N:Nat))/\(hdE (lenE x s)).eval X J = .int z0/\(tlE (lenE x s)).eval X J = .bytes q/\(Ob.pre (if x then 81 else 80) [s]).holds X side J:=by
 cases b with
 | false =>
  obtain⟨h1,h2,h3⟩:=rd_len hN hq hs;exact⟨(N:Nat),Int.toNat_natCast N,(fun h=>by cases h),fun _=>rfl,h1,h2,h3⟩
 | true =>
  have hN0:=hb rfl;subst hN0;refine⟨-1,rfl,fun _=>rfl,(fun h=>by cases h),?_⟩;have h:=hs.get (xBB x true 0 4 (by omega));unfold lenE;cases x
  ·have e:counted false true 0 4=zHA (-1) 4:=rfl;rw[e] at h;have h3:=qPF 80 h;have h2:X 80 [.bytes (zHA (-1) 4++q)]=rowR (.int (-1)) q:=by rw[X_80,zZA,yCC .i32 4 rfl];rfl
   rw[h2] at h3;exact⟨xGJ h3,xHJ h3,yXD h ⟨-1,q,rfl,by omega,by omega,by omega⟩⟩
  ·have e:counted true true 0 4=zDA 0:=by rw[yRC];rfl
   rw[e] at h;have h3:=qPF 81 h;have h2:X 81 [.bytes (zDA 0++q)]=rowR (.int (-1)) q:=by
    rw[X_81,zZA,xUA];rfl
   rw[h2] at h3;exact⟨xGJ h3,xHJ h3,yXD h ⟨0,q,rfl,by omega,by omega⟩⟩
theorem zXK(tg:Bool)(v:Int)(x:Bool):∀(l:List Fl) (i:Nat) (t:T),(bcL tg v x l i t).length=wdL tg l
 | [],_,_=>rfl
 | f::r,i,t=>by
  rw[bcL,wdL,List.length_append,zXK tg v x r]
  congr 1
  split
  ·exact xOE _ _ _
  ·exact zEF _ _
theorem env4(J:List D)(a b c d:D):(DE.v J.length).eval X (J++(a::b::[c,d]))=a/\(DE.v (J.length+2)).eval X (J++(a::b::[c,d]))=c/\(DE.v (J.length+3)).eval X (J++(a::b::[c,d]))=d:=by
 refine⟨?_,?_,?_⟩ <;> simp[DE.eval,List.getD_eq_getElem?_getD,List.getElem?_append_right]
mutual
theorem rd_F{tg x:Bool}{v:Int}(hx:x=true->tg=true):∀(f:Fl) (lv:Nat) (J:List D) (s:DE) (t:T) (r:List UInt8),xSD f=true->zPL tg f=true->rkF v x f=true->lv=J.length->wfT t=true->okF false v f t ->
  yQC s J (field f v x t++r) ->
  (((valE f.kind (rdF tg v x lv f s).1).eval X J).cells=dF tg f (qTC v x f t)/\zEA X (cellR f (rdF tg v x lv f s).1) J=dF tg f (qTC v x f t)/\(rdF tg v x lv f s).2.eval X J = .bytes r) /\
  ∀el:Option (DE×DE×Nat),(∀a i off,el=some (a,i,off)->(f.kind=11->(nilO a i off).holds X side J)/\(Ob.idx i a true).holds X side J)->zCA X side (roF tg v x lv f s el) J
 | .mk k fr to nl g df of sub,lv,J,s,t,r,hp,hsm,hk,hlv,hw,hok,hs=>by
  obtain⟨_,_,hp11,hps⟩:=zFC hp;simp only[zPL,Bool.and_eq_true,decide_eq_true_eq] at hsm;rw[zEB] at hs;simp only[Fl.kind,Fl.null,Fl.of,Fl.sub] at hs ⊢;rw[rkF] at hk;by_cases h:k=11
  ·subst h;rw[okF,if_pos rfl] at hok;obtain⟨hN,_,hel⟩:=hok;simp only[if_true,Bool.and_eq_true,Bool.or_eq_true,decide_eq_true_eq] at hk;obtain⟨hnl,hkk⟩:=hk;have hof:of=10∨qBE of=true:=hkk.elim .inr (fun h=>.inl h.1.1);generalize hbn:Mx.null (.mk 11 fr to nl g df of sub) v t=b0 at hs;have hb0:nl<0->b0=false:=fun hn=>by
    rw[<- hbn];unfold Mx.null
    simp[Fl.null,show ¬0<=nl by omega]
   have hb1:¬nl<0->b0=t.null:=fun hn=>by
    have:nl<=v:=hnl.resolve_left hn
    rw[<- hbn];unfold Mx.null
    simp[Fl.null,show 0<=nl by omega,this]
   unfold yZB at hs;rw[if_pos rfl,List.take_of_length_le hN] at hs;obtain⟨L,hLe⟩:∃L:List T,L=if b0=true then [] else t.L:=⟨_,rfl⟩
   have hb2:b0=true->L=[]:=fun h=>by rw[hLe,if_pos h]
   have hLN:L.length<=Most:=by rw[hLe];split <;> first|exact Nat.zero_le _|exact hN
   have hLm:∀y∈L,y∈t.L:=fun y hy=>by
    rw[hLe] at hy;split at hy
    ·cases hy
    ·exact hy
   rw[show (if b0=true then [] else t.L)=L from hLe.symm] at hs;rw[List.append_assoc] at hs;have hwL:∀y∈L,wfT y=true:=fun y hy=>wfT_L hw y (hLm y hy)
   have hel:∀y∈L,okV v of (-1) y/\(of=10->okS false v sub y):=fun y hy=>hel y (hLm y hy)
   obtain⟨nv,hnv⟩:∃d:D,d=if b0=true∨nl<0 then .nil else .list []:=⟨_,rfl⟩
   have hnv1:nl<0->nv = .nil:=fun h=>by rw[hnv,if_pos (.inr h)]
   have hnv2:b0=true->nv = .nil:=fun h=>by rw[hnv,if_pos (.inl h)]
   have hnv3:b0=false -> ¬nl<0->nv = .list []:=fun h h2=>by
    rw[hnv,if_neg (fun h3=>h3.elim (fun h3=>by rw[h] at h3;cases h3) h2)]
   generalize hwd:(fun y:T=>zXA of false x y (zYA sub v x y))=w at hs;have hwy:∀y,w y=zXA of false x y (zYA sub v x y):=fun y=>by rw[<- hwd]
   have hw10:of=10 -> ∀y,w y=zYA sub v x y:=fun h10 y=>by rw[hwy,h10];rfl
   have hpos:∀y∈L,0<(w y).length:=fun y hy=>by
    by_cases h10:of=10
    ·rw[hw10 h10];have hkk':=hkk.resolve_left (by rw[h10];decide);exact part_pos hps hkk'.1.2 (by rw[Bool.or_eq_true];exact hkk'.2) (yYD ((hel y hy).2 h10))
    ·rw[hwy];exact xED _ _ _ _ _ h10
   have hge:L.length<=((L.map w).flatten++r).length:=by
    have:=xDK w L hpos
    rw[List.length_append];omega
   obtain⟨z0,hz0,hzn,hzp,e1,e2,e3⟩:=rd_lenN hLN (fun h=>by rw[hb2 h];rfl) hge hs;have hNm:L.length<=32767:=hLN;generalize hb:zZK v x lv of (rdS tg v x (lv+4) sub (.v lv) (dfE tg (sub.getD []) (.v lv) 0 (.v (lv+2))) (.v (lv+3)))=b;generalize hbo:bodyO v x lv of (roS tg v x (lv+4) sub (.v lv) (dfE tg (sub.getD []) (.v lv) 0 (.v (lv+2))) (.v (lv+3))++(dfO tg (sub.getD []) (.v lv) 0 (.v (lv+2))++[.idx (.v lv) (.v (lv+2)) true]))=bo;generalize hgd:gEl tg v x of sub=gd;generalize hz:zEl tg of sub=z;have eni:¬nl<0->L.length=0->(niE (hdE (lenE x s))).eval X J=nv:=fun hn hl=>by
    rw[niE,ev_f,zAA,zAA,zBA,ev_f,zAA,zAA,zAA,zBA,ev_f,zAA,zAA,zBA,e1,ev_k,ev_k,ev_f,zBA,xZB];cases hbb:b0 with
    | true=>rw[hzn hbb,hnv2 hbb];rfl
    | false=>rw[hzp hbb,hl,hnv3 hbb hn];rfl
   have enn:0<L.length->(niE (hdE (lenE x s))).eval X J = .nil:=fun hl=>by
    rw[niE,ev_f,zAA,zAA,zBA,ev_f,zAA,zAA,zAA,zBA,ev_f,zAA,zAA,zBA,e1,ev_k,ev_k,ev_f,zBA,xZB]
    have:(z0==0)=false:=by
     cases hbb:b0 with
     | true=>rw[hb2 hbb] at hl;simp at hl
     | false=>rw[hzp hbb];simp;intro h;rw[h] at hl;simp at hl
    rw[this];rfl
   have h0:zEA X [iniE nl (hdE (lenE x s)) z,tlE (lenE x s)] J=[if L.length=0 then nv else .list ((L.take 0).map gd++List.replicate (L.length-0) z),.bytes (((L.drop 0).map w).flatten++r)]:=by
    have hlast:∀e:DE,(L.length=0->e.eval X J=nv)->(DE.f .ite [.f .ltI [.k (.int 0),hdE (lenE x s)],.f .app [.k .nil,.f .repl [hdE (lenE x s),.k z]],e]).eval X J=if L.length=0 then nv else .list (List.replicate L.length z):=fun e he=>by
     rw[ev_f,zAA,zAA,zAA,zBA,ev_f,zAA,zAA,zBA,e1,ev_k,ev_f,zAA,zAA,zBA,ev_k,ev_f,zAA,zAA,zBA,e1,ev_k,zOB,yYA];by_cases hn0:L.length=0
     ·rw[if_pos hn0,<- he hn0]
      have:decide ((0:Int)<z0)=false:=by simp only[decide_eq_false_iff_not];omega
      rw[this];rfl
     ·rw[if_neg hn0]
      have:decide ((0:Int)<z0)=true:=by simp only[decide_eq_true_eq];omega
      rw[this,zKI];show D.appd .nil (.list (List.replicate z0.toNat z))=_;rw[hz0];cases hq:L.length with
      | zero=>exact absurd hq hn0
      | succ m=>rfl
    rw[zAA,zAA,zBA,e2];simp only[List.take_zero,List.map_nil,List.nil_append,Nat.sub_zero,List.drop_zero]
    congr 1
    unfold iniE;by_cases hn:nl<0
    ·rw[if_pos hn];exact hlast _ (fun _=>by rw[ev_k,hnv1 hn])
    ·rw[if_neg hn];exact hlast _ (eni hn)
   have hst:∀kk:Nat,kk<L.length ->
     zEA X [b.1,b.2] (J++(.int kk :: .int kk::[if L.length=0 then nv else .list ((L.take kk).map gd++List.replicate (L.length-kk) z),.bytes (((L.drop kk).map w).flatten++r)])) =
      [if L.length=0 then nv else .list ((L.take (kk+1)).map gd++List.replicate (L.length-(kk+1)) z),.bytes (((L.drop (kk+1)).map w).flatten++r)] /\
     zCA X side bo (J++(.int kk :: .int kk::[if L.length=0 then nv else .list ((L.take kk).map gd++List.replicate (L.length-kk) z),.bytes (((L.drop kk).map w).flatten++r)])):=fun kk hkl=>by
    have hn0:¬L.length=0:=by omega
    obtain⟨y,hy⟩:∃y,L[kk]? = some y:=⟨L[kk],List.getElem?_eq_getElem hkl⟩;have hym:=List.mem_of_getElem? hy;obtain⟨o1,o2⟩:=hel y hym;have hdr:L.drop kk=y::L.drop (kk+1):=by
     rw[List.drop_eq_getElem_cons hkl]
     congr 1
     have:=List.getElem?_eq_getElem hkl
     rw[hy] at this;exact(Option.some.inj this).symm
    have htk:(L.take (kk+1)).map gd=(L.take kk).map gd++[gd y]:=by rw[xEC hy,List.map_append];rfl
    have hrep:List.replicate (L.length-kk) z=z::List.replicate (L.length-(kk+1)) z:=by
     rw[show L.length-kk=(L.length-(kk+1))+1 by omega,List.replicate_succ]
    have hlen:((L.take kk).map gd).length=kk:=by rw[List.length_map,List.length_take];omega
    rw[if_neg hn0,if_neg hn0,hrep,htk,hdr,List.map_cons,List.flatten_cons,List.append_assoc];have hlist:((L.take kk).map gd++z::List.replicate (L.length-(kk+1)) z).set kk (gd y)=((L.take kk).map gd++[gd y])++List.replicate (L.length-(kk+1)) z:=by
     rw[yTI _ _ _ _ _ hlen.symm,List.append_assoc];rfl
    have hself:((L.take kk).map gd++z::List.replicate (L.length-(kk+1)) z).set kk z=(L.take kk).map gd++z::List.replicate (L.length-(kk+1)) z:=yTI _ _ _ _ _ hlen.symm;have hkl2:kk<((L.take kk).map gd++z::List.replicate (L.length-(kk+1)) z).length:=by simp only[List.length_append,List.length_cons];omega
    generalize hlq:(L.take kk).map gd++z::List.replicate (L.length-(kk+1)) z=lq at hlist hself hkl2 ⊢;obtain⟨v0,v2,v3⟩:=env4 J (.int kk) (.int kk) (.list lq) (.bytes (w y++(((L.drop (kk+1)).map w).flatten++r)));rw[<- hlv] at v0 v2 v3;have hl4:lv+4=(J++(D.int kk::D.int kk::[D.list lq,.bytes (w y++(((L.drop (kk+1)).map w).flatten++r))])).length:=by simp[hlv]
    generalize hδ:J++(D.int kk::D.int kk::[D.list lq,.bytes (w y++(((L.drop (kk+1)).map w).flatten++r))])=δ1 at v0 v2 v3 hl4 ⊢;by_cases h10:of=10
    ·have hkk':=hkk.resolve_left (by rw[h10];decide);have hzz:z = .row (zS tg sub):=by rw[<- hz,h10];rfl
     have hgy:gd y = .row (dS tg sub (qJA v x sub y)):=by rw[<- hgd,gEl,if_pos h10]
     have hEl0:El (.v (lv+2)) (.v lv) δ1 lq kk ([]++zL tg (sub.getD [])++(if tg then [.nil] else [])):=by
      refine⟨?_,v0,hkl2⟩;rw[v2]
      have:zS tg sub=[]++zL tg (sub.getD [])++(if tg then [.nil] else []):=by cases sub <;> rfl
      rw[<- this,<- hzz,hself]
     obtain⟨hEl1,hdo⟩:=ev_dfE tg (sub.getD []) (.v (lv+2)) (.v lv) 0 [] _ lq kk hEl0 rfl;obtain⟨⟨k1,k2⟩,k3⟩:=rd_S hx sub (lv+4) δ1 _ (.v lv) (.v (lv+3)) y (((L.drop (kk+1)).map w).flatten++r) lq kk hps hsm.2 hkk'.1.2 hl4 (hwL y hym) (o2 h10) hEl1 (by rw[<- hw10 h10];exact yQC.of v3);refine⟨?_,?_⟩
     ·rw[<- hb,zZK,if_pos h10,zAA,zAA,zBA,k1.1,k2.ex (by rw[<- hw10 h10];exact hpos y hym),<- hgy,hlist]
     ·rw[<- hbo,bodyO,if_pos h10];exact ySB k3 (ySB hdo (zYB hEl0.idx))
    ·have hlf:=hof.resolve_left h10;have hgy:gd y=valD of (-1) y:=by rw[<- hgd,gEl,if_neg h10]
     have hix:(Ob.idx (.v lv) (.v (lv+2)) true).holds X side δ1:=by
      simp only[Ob.holds,v0,v2,zOA,D.len];refine⟨by omega,?_⟩;simp only[if_true];omega
     obtain⟨k1,k2,k3⟩:=yVK (v:=v) (x:=x) (p:=zYA sub v x y) (nl:=-1) hlf (by simp[zCK]) o1 (hwL y hym) (b:=false) (by simp) (s:=.v (lv+3)) (J:=δ1) (by rw[<- hwy];exact yQC.of v3);refine⟨?_,?_⟩
     ·rw[<- hb,zZK,if_neg h10,zAA,zAA,zBA,k2,ev_f,zAA,zAA,zAA,zBA,v0,v2,yWK hlf k1,<- hgy];show [D.list (lq.set ((kk:Int).toNat) (gd y)),_]=_;rw[Int.toNat_natCast,hlist]
     ·rw[<- hbo,bodyO,if_neg h10];exact⟨hix,hix,k3,trivial⟩
   have hN2:∀jj,(DE.fold lv (.f .iota [hdE (lenE x s)]) [iniE nl (hdE (lenE x s)) z,tlE (lenE x s)] [b.1,b.2] jj).eval X J=[if L.length=0 then nv else .list (L.map gd),.bytes r].getD jj .nil:=fun jj=>by
    rw[iota_ev hlv e1 hz0 (st:=fun kk=>[if L.length=0 then nv else .list ((L.take kk).map gd++List.replicate (L.length-kk) z),.bytes (((L.drop kk).map w).flatten++r)]) h0 (fun kk hkl=>(hst kk hkl).1)];simp only[List.take_length,List.drop_length,Nat.sub_self,List.replicate_zero,List.append_nil,List.map_nil,List.flatten_nil,List.nil_append]
   have hdat:dF tg (.mk 11 fr to nl g df of sub) (qTC v x (.mk 11 fr to nl g df of sub) t)=[if L.length=0 then nv else .list (L.map gd)]:=by
    have hcomp:((fun y=>elD of (dV of (-1) y (dS tg sub y)) y)∘fun y=>if of=10 then qJA v x sub y else y)=gd:=by
     funext y;rw[<- hgd];exact elD_back hof y
    rw[qTC,if_pos rfl,dF,if_pos rfl];by_cases hn:nl<0
    ·have hL:L=t.L:=by rw[hLe,hb0 hn];rfl
     rw[if_pos hn];show [if (t.L.length==0)=true then D.nil else .list ((t.L.map fun y=>if of=10 then qJA v x sub y else y).map fun y=>elD of (dV of (-1) y (dS tg sub y)) y)]=_;rw[List.map_map,hcomp,hL,hnv1 hn]
     congr 1
     by_cases hn0:t.L.length=0
     ·rw[if_pos hn0,if_pos (by simpa using hn0)]
     ·rw[if_neg hn0,if_neg (by simpa using hn0)]
    ·have hbt:=hb1 hn;rw[if_neg hn];show [if t.null=true then D.nil else .list ((if t.null=true then [] else t.L.map fun y=>if of=10 then qJA v x sub y else y).map fun y=>elD of (dV of (-1) y (dS tg sub y)) y)]=_;cases hbb:b0 with
     | true =>
      rw[hb2 hbb,hnv2 hbb,<- hbt,hbb];rfl
     | false =>
      have hL:L=t.L:=by rw[hLe,hbb];rfl
      rw[<- hbt,hbb,if_neg (by decide),if_neg (by decide),List.map_map,hcomp,hL,hnv3 hbb hn]
      congr 1
      by_cases hn0:t.L.length=0
      ·rw[if_pos hn0,List.length_eq_zero_iff.1 hn0];rfl
      ·rw[if_neg hn0]
   refine⟨?_,fun el hE=>?_⟩
   ·rw[rdF,if_pos rfl];simp only[hb,hz];refine⟨?_,?_,hN2 1⟩
    ·rw[valE,if_neg (by decide),hN2 0,hdat];show (if L.length=0 then nv else D.list (L.map gd)).cells=_;rw[hnv];split
     ·split <;> rfl
     ·rfl
    ·rw[cellR,if_neg (by decide),zAA,zBA,hN2 0,hdat];rfl
   ·rw[roF,if_pos rfl];simp only[hb,hz,hbo];refine zSE (iota_all e1 hz0 h0 (fun kk hkl=>(hst kk hkl).1) (fun kk hkl=>(hst kk hkl).2)) (zSE ?_ ?_)
    ·have hcap:(Ob.cap (hdE (lenE x s)) (szV of (-1) (szS tg sub)).1).holds X side J ∨ ¬0<=z0:=by
      by_cases hz:0<=z0
      ·left;simp only[Ob.holds];rw[e1];simp only[zOA,hz0];exact⟨hz,Nat.le_trans (Nat.mul_le_mul hNm hsm.1) (by simp[LIM]),Nat.le_trans hNm (by decide)⟩
      ·exact .inr hz
     simp only[Ob.holds];intro hlt;have hlt:0<z0:=by
      rw[ev_f,zAA,zAA,zBA,e1,ev_k,zOB,zVA,decide_eq_true_eq] at hlt;exact hlt
     have hcap:=hcap.resolve_right (by omega);unfold capO;split
     ·exact zYB hcap
     ·refine⟨fun hh=>?_,hcap,trivial⟩;rw[ev_f,zAA,zBA,enn (by omega)] at hh;cases hh
    ·cases el with
     | none=>exact zYB e3
     | some q =>
      obtain⟨a,i,off⟩:=q;obtain⟨q1,q2⟩:=hE a i off rfl;exact⟨q1 rfl,e3,q2,trivial⟩
  ·rw[if_neg h] at hk;simp only[Bool.and_eq_true] at hk;rw[okF,if_neg h] at hok;have h10:k≠10:=by rintro rfl;cases hk.1
   unfold yZB at hs;rw[if_neg h,if_neg (fun e=>h10 e.1)] at hs;obtain⟨k1,k2,k3⟩:=yVK hk.1 hk.2 hok.1 hw rfl hs;have hd:dF tg (.mk k fr to nl g df of sub) (qTC v x (.mk k fr to nl g df of sub) t)=dV k nl t []:=by
    rw[qTC,if_neg h,dF,if_neg h,yLK hk.1]
   refine⟨?_,fun el hE=>?_⟩
   ·rw[rdF,if_neg h];refine⟨?_,?_,k2⟩
    ·rw[yWK hk.1 k1,xEJ hk.1,hd]
    ·rw[hd,cellR];by_cases h7:k=7
     ·subst h7;rw[if_pos rfl]
      have:=qKE (r:=hdE (rdE (rdN 7 nl v x) s)) (J:=J) (l:=u16D t.S) (by rw[k1];rfl)
      rw[xHI] at this;rw[this];rfl
     ·rw[if_neg h7,zAA,zBA,k1,(qXK hk.1 h7).1]
   ·rw[roF,if_neg h];exact zYB k3
theorem rd_S{tg x:Bool}{v:Int}(hx:x=true->tg=true):∀(fs:Option (List Fl)) (lv:Nat) (J:List D) (a ie s:DE) (t:T) (r:List UInt8) (l0:List D) (n:Nat),zGC fs=true->zWJ tg fs=true->rkS v x fs=true->lv=J.length->wfT t=true->okS false v fs t ->
  El a ie J l0 n (dfL tg (fs.getD [])++(if tg then [.nil] else []))->yQC s J (zYA fs v x t++r) ->
  (El (rdS tg v x lv fs ie a s).1 ie J l0 n (dS tg fs (qJA v x fs t))/\Left s J (zYA fs v x t) r (rdS tg v x lv fs ie a s).2)/\zCA X side (roS tg v x lv fs ie a s) J
 | none,lv,J,a,ie,s,t,r,l0,n,hp,hsm,hk,hlv,hw,hok,he,hs=>by
  have hok':qYA t.U:=hok;rw[xIA hp hok'] at hs ⊢;rw[rdS,roS,qVH tg v x none t hk];cases hxx:x with
  | false =>
   subst hxx;simp only[Bool.false_eq_true,if_false];exact⟨⟨he,.inr ⟨rfl,rfl⟩⟩,trivial⟩
  | true =>
   have htg:=hx hxx;subst hxx;subst htg
   simp only[if_true] at hs he ⊢;obtain⟨k1,k2,k3⟩:=yII hok' hs;have he':El a ie J l0 n ([]++[.nil]++[]):=he;have h1:=he'.set (x:=hdE (rdE 82 s)) (xs:=[yMC t.U .nil]) (by rw[k1];rfl) rfl;exact⟨⟨h1,.inl k2⟩,⟨he.idx,k3,trivial⟩⟩
 | some l,lv,J,a,ie,s,t,r,l0,n,hp,hsm,hk,hlv,hw,hok,he,hs=>by
  have hok':qYA t.U:=hok.1;rw[xIA hp hok'] at hs ⊢;have he0:El a ie J l0 n ([]++dfL tg l++(if tg then [.nil] else [])):=he;rw[rdS,roS,qVH tg v x (some l) t hk];have ho:outP ((some l).getD []) v x t=outL v x l 0 t:=rfl;rw[ho] at hs ⊢;cases hxx:x with
  | false =>
   subst hxx;simp only[Bool.false_eq_true,if_false] at hs ⊢;obtain⟨⟨k1,k2⟩,k3⟩:=rd_L hx l lv J a ie s 0 0 t r [] _ l0 n hp hsm hk hlv hw hok.2 he0 rfl hs;exact⟨⟨k1,k2⟩,k3⟩
  | true =>
   have htg:=hx hxx;subst hxx;subst htg
   simp only[if_true] at hs he0 ⊢;rw[List.append_assoc] at hs;obtain⟨⟨k1,k2⟩,k3⟩:=rd_L hx l lv J a ie s 0 0 t (qKB t.U++r) [] _ l0 n hp hsm hk hlv hw hok.2 he0 rfl hs;obtain⟨q1,q2,q3⟩:=yII hok' (k2.src hs);have he':El (rdL true v true lv l ie 0 a s).1 ie J l0 n (bcL true v true l 0 t++[.nil]++[]):=by
    rw[List.append_nil];exact k1
   have h1:=he'.set (x:=hdE (rdE 82 (rdL true v true lv l ie 0 a s).2)) (xs:=[yMC t.U .nil]) (by rw[q1];rfl) rfl;have hbl:(bcL true v true l 0 t).length=wdL true l:=zXK true v true l 0 t;rw[hbl,List.append_nil] at h1;exact⟨⟨h1,.inl q2⟩,⟨k1.idx,q3,k3⟩⟩
theorem rd_L{tg x:Bool}{v:Int}(hx:x=true->tg=true):∀(l:List Fl) (lv:Nat) (J:List D) (a ie s:DE) (off j:Nat) (t:T) (r:List UInt8) (pre post l0:List D) (n:Nat),yDB l=true->xHF tg l=true->rkL v x l=true->lv=J.length->wfT t=true->okL false v l j t ->
  El a ie J l0 n (pre++dfL tg l++post)->off=pre.length->yQC s J (outL v x l j t++r) ->
  (El (rdL tg v x lv l ie off a s).1 ie J l0 n (pre++bcL tg v x l j t++post)/\Left s J (outL v x l j t) r (rdL tg v x lv l ie off a s).2)/\zCA X side (roL tg v x lv l ie off a s) J
 | [],lv,J,a,ie,s,off,j,t,r,pre,post,l0,n,hp,hsm,hk,hlv,hw,hok,he,ho,hs=>⟨⟨he,.inr ⟨rfl,rfl⟩⟩,trivial⟩
 | f::q,lv,J,a,ie,s,off,j,t,r,pre,post,l0,n,hp,hsm,hk,hlv,hw,hok,he,ho,hs=>by
  subst ho;simp only[yDB,Bool.and_eq_true] at hp;simp only[xHF,Bool.and_eq_true] at hsm;simp only[rkL,Bool.and_eq_true,Bool.or_eq_true,decide_eq_true_eq] at hk;rw[okL] at hok;rw[dfL,<- List.append_assoc] at he;have he':El a ie J l0 n (pre++dfF tg f++(dfL tg q++post)):=by rw[<- List.append_assoc];exact he
  rw[zZD] at hs ⊢;rw[rdL,roL,bcL];by_cases ht:qUC f v=true
  ·have ht':=xWB.1 ht;rw[if_pos ht,List.append_assoc] at hs;rw[if_pos ht',if_pos ht',if_pos ht,if_pos ht];have hkf:rkF v x f=true:=by
    rcases hk.1.2 with h|h
    ·rw[ht] at h;cases h
    ·exact h
   obtain⟨⟨k1,k2,k3⟩,k4⟩:=rd_F hx f lv J s (at' t j) (outL v x q (j+1) t++r) hp.1 hsm.1 hkf hlv (yJJ hw j) (hok.1 (.inr ht')) hs;have hl:(dF tg f (qTC v x f (at' t j))).length=(dfF tg f).length:=by rw[xOE,zEF]
   have h1:=he'.set k1 hl;have h1':El (.f (.setCells pre.length) [a,ie,valE f.kind (rdF tg v x lv f s).1]) ie J l0 n ((pre++dF tg f (qTC v x f (at' t j)))++dfL tg q++post):=by
    rw[List.append_assoc _ (dfL tg q) post];exact h1
   obtain⟨⟨q1,q2⟩,q3⟩:=rd_L hx q lv J _ ie (rdF tg v x lv f s).2 (pre.length+wdF tg f) (j+1) t r (pre++dF tg f (qTC v x f (at' t j))) post l0 n hp.2 hsm.2 hk.2 hlv hw hok.2 h1' (by rw[List.length_append,xOE]) (yQC.of k3);refine⟨⟨?_,.inl ?_⟩,ySB q3 (zSE he.idx (k4 _ (fun a' i' off' e=>?_)))⟩
   ·rw[<- List.append_assoc pre];exact q1
   ·rcases q2 with h|⟨h2,h3⟩
    ·exact h
    ·rw[h2,k3,h3];rfl
   ·cases e;refine⟨fun h11=>?_,he.idx⟩;have hd:dfF tg f=[.nil]:=by
     cases f with
     | mk k fr to nl g df of sub =>
      have h11':k=11:=h11;rw[dfF,if_pos h11']
    rw[hd] at he';exact he'.isNil
  ·have ht':¬(f.tag<0/\has f v=true):=fun e=>ht (xWB.2 e)
   rw[if_neg ht,List.nil_append] at hs;rw[if_neg ht',if_neg ht',if_neg ht,if_neg ht,List.nil_append];obtain⟨⟨q1,q2⟩,q3⟩:=rd_L hx q lv J a ie s (pre.length+wdF tg f) (j+1) t r (pre++dfF tg f) post l0 n hp.2 hsm.2 hk.2 hlv hw hok.2 he (by rw[List.length_append,zEF]) hs;exact⟨⟨by rw[<- List.append_assoc pre];exact q1,q2⟩,q3⟩
end
end Go.Mx
namespace Go.Mx
open Go Go.Dx
theorem evals_k(l:List D)(J:List D):zEA X (l.map .k) J=l:=by
 rw[qUA]
 conv=>rhs;rw[<- List.map_id l]
 apply List.map_congr_left;intro d _;rw[ev_k];rfl
theorem rd_T{tg x:Bool}{v:Int}(hx:x=true->tg=true):∀(l:List Fl) (lv:Nat) (J:List D) (s:DE) (j:Nat) (t:T) (r:List UInt8),yDB l=true->xHF tg l=true->rkL v x l=true->lv=J.length->wfT t=true->okL false v l j t ->
  yQC s J (outL v x l j t++r)->zEA X (rdT tg v x lv l s).1 J=bcL tg v x l j t/\Left s J (outL v x l j t) r (rdT tg v x lv l s).2/\zCA X side (roT tg v x lv l s) J
 | [],lv,J,s,j,t,r,hp,hsm,hk,hlv,hw,hok,hs=>⟨rfl,.inr ⟨rfl,rfl⟩,trivial⟩
 | f::q,lv,J,s,j,t,r,hp,hsm,hk,hlv,hw,hok,hs=>by
  simp only[yDB,Bool.and_eq_true] at hp;simp only[xHF,Bool.and_eq_true] at hsm;simp only[rkL,Bool.and_eq_true,Bool.or_eq_true,decide_eq_true_eq] at hk;rw[okL] at hok;rw[zZD] at hs ⊢;rw[rdT,roT,bcL];by_cases ht:qUC f v=true
  ·have ht':=xWB.1 ht;rw[if_pos ht,List.append_assoc] at hs;rw[if_pos ht',if_pos ht',if_pos ht,if_pos ht];have hkf:rkF v x f=true:=by
    rcases hk.1.2 with h|h
    ·rw[ht] at h;cases h
    ·exact h
   obtain⟨⟨_,k2,k3⟩,k4⟩:=rd_F hx f lv J s (at' t j) (outL v x q (j+1) t++r) hp.1 hsm.1 hkf hlv (yJJ hw j) (hok.1 (.inr ht')) hs;obtain⟨q1,q2,q3⟩:=rd_T hx q lv J (rdF tg v x lv f s).2 (j+1) t r hp.2 hsm.2 hk.2 hlv hw hok.2 (yQC.of k3);refine⟨by rw[zBE,k2,q1],.inl ?_,ySB q3 (k4 none (fun _ _ _ e=>by cases e))⟩;rcases q2 with h|⟨h2,h3⟩
   ·exact h
   ·rw[h2,k3,h3];rfl
  ·have ht':¬(f.tag<0/\has f v=true):=fun e=>ht (xWB.2 e)
   rw[if_neg ht,List.nil_append] at hs;rw[if_neg ht',if_neg ht',if_neg ht,if_neg ht,List.nil_append];obtain⟨q1,q2,q3⟩:=rd_T hx q lv J s (j+1) t r hp.2 hsm.2 hk.2 hlv hw hok.2 hs;exact⟨by rw[zBE,evals_k,q1],q2,q3⟩
theorem rd_M{tg x:Bool}{v:Int}(hx:x=true->tg=true)(fs:Option (List Fl))(J:List D)(s:DE)(t:T)(r:List UInt8)(hp:zGC fs=true)(hsm:zWJ tg fs=true)(hk:rkS v x fs=true)(hw:wfT t=true)(hok:okS false v fs t)
  (hs:yQC s J (zYA fs v x t++r)):zEA X (rdM tg v x J.length fs s) J=dS tg fs (qJA v x fs t)/\zCA X side (roM tg v x J.length fs s) J:=by
 have hu:=yYD hok;rw[xIA hp hu] at hs;have hpl:yDB (fs.getD [])=true:=by cases fs;rfl;exact hp
 have hsl:xHF tg (fs.getD [])=true:=by cases fs;rfl;exact hsm
 have hkl:rkL v x (fs.getD [])=true:=by cases fs;rfl;exact hk
 have hol:okL false v (fs.getD []) 0 t:=by cases fs;trivial;exact hok.2
 have ho:outP (fs.getD []) v x t=outL v x (fs.getD []) 0 t:=rfl;rw[ho] at hs;rw[qVH tg v x fs t hk];unfold rdM roM;cases hxx:x with
 | false =>
  subst hxx;simp only[Bool.false_eq_true,if_false] at hs ⊢;obtain⟨q1,q2,q3⟩:=rd_T hx (fs.getD []) J.length J s 0 t r hpl hsl hkl rfl hw hol hs;refine⟨?_,q3⟩;rw[zBE]
  congr 1
  cases tg <;> rfl
 | true =>
  have htg:=hx hxx;subst hxx;subst htg
  simp only[if_true] at hs ⊢;rw[List.append_assoc] at hs;obtain⟨q1,q2,q3⟩:=rd_T hx (fs.getD []) J.length J s 0 t (qKB t.U++r) hpl hsl hkl rfl hw hol hs;obtain⟨k1,k2,k3⟩:=yII hu (q2.src hs);refine⟨?_,k3,q3⟩;rw[zBE,q1]
  congr 1
  rw[zAA,zBA,ev_f,zAA,zBA,k1];rfl
theorem yIF(x:Bool){u:List Tg}(h:qYA u):qYA ((qAF x u).getD []):=by
 unfold qAF;cases x
 ·exact⟨List.Pairwise.nil,Nat.zero_le _,fun y hy=>by cases hy⟩
 ·obtain⟨h1,h2,h3⟩:=h;refine⟨List.pairwise_map.2 h1,by simpa using h2,fun y hy=>?_⟩;obtain⟨z,hz,rfl⟩:=List.mem_map.1 hy;exact h3 z hz
theorem yDG{u:List Tg}:qKB ((qAF true u).getD [])=qKB u:=by
 unfold qAF qKB;rw[if_pos rfl,Option.getD_some,List.length_map,List.map_map];rfl
mutual
theorem xIJ(v:Int)(x:Bool):∀(f:Fl) (t:T),rkF v x f=true->xSD f=true->okF false v f t->field f v x (qTC v x f t)=field f v x t/\okF false v f (qTC v x f t)
 | .mk k fr to nl g df of sub,t,hk,hp,hok=>by
  obtain⟨_,_,_,hps⟩:=zFC hp;rw[qTC];by_cases h:k=11
  ·subst h;rw[if_pos rfl];rw[rkF] at hk;simp only[if_true,Bool.and_eq_true,Bool.or_eq_true,decide_eq_true_eq] at hk;obtain⟨hnl,hkk⟩:=hk;rw[okF,if_pos rfl] at hok ⊢;obtain⟨hN,_,hel⟩:=hok;by_cases hn:nl<0
   ·rw[if_pos hn];have hnl:=hn;have hnull:∀y,Mx.null (.mk 11 fr to nl g df of sub) v y=false:=fun y=>by
     unfold Mx.null;simp[Fl.null,show ¬0<=nl by omega]
    refine⟨?_,?_⟩
    ·rw[zEB,zEB,hnull,hnull];simp only[Fl.kind,Fl.null,Fl.of,Fl.sub];unfold yZB;rw[if_pos rfl,if_pos rfl,if_neg (by decide:¬(false=true))];have e:T.L (.mk 0 none (t.L.length==0) (some (t.L.map fun y=>if of=10 then qJA v x sub y else y)) none)=t.L.map fun y=>if of=10 then qJA v x sub y else y:=rfl
     rw[e,if_neg (by decide:¬(false=true)),List.take_of_length_le hN,List.take_of_length_le (by rw[List.length_map];exact hN)];show counted x false (t.L.map fun y=>if of=10 then qJA v x sub y else y).length 4++((t.L.map fun y=>if of=10 then qJA v x sub y else y).map fun y=>zXA of false x y (zYA sub v x y)).flatten=counted x false t.L.length 4++(t.L.map fun y=>zXA of false x y (zYA sub v x y)).flatten;rw[List.length_map,List.map_map]
     congr 2
     apply List.map_congr_left;intro y hy;show zXA of false x (if of=10 then qJA v x sub y else y) (zYA sub v x (if of=10 then qJA v x sub y else y))=zXA of false x y (zYA sub v x y);by_cases h10:of=10
     ·rw[if_pos h10,h10];have hkk':=hkk.resolve_left (by rw[h10];decide);exact(yBD v x sub y hkk'.1.2 hps ((hel y hy).2 h10)).1
     ·rw[if_neg h10]
    ·refine⟨by show (t.L.map _).length<=Most;rw[List.length_map];exact hN,fun hn=>.inr ⟨rfl,?_⟩,fun y hy=>?_⟩
     ·have:t.L.length=0:=by simpa using(show (t.L.length==0)=true from hn)
      show t.L.map _=[];rw[List.length_eq_zero_iff.1 this];rfl
     ·obtain⟨z,hz,rfl⟩:=List.mem_map.1 (show y∈t.L.map _ from hy);obtain⟨o1,o2⟩:=hel z hz;by_cases h10:of=10
      ·have hkk':=hkk.resolve_left (by rw[h10];decide);refine⟨fun h89=>by omega,fun _=>?_⟩;rw[if_pos h10];exact(yBD v x sub z hkk'.1.2 hps (o2 h10)).2
      ·rw[if_neg h10];exact⟨o1,fun e=>absurd e h10⟩
   ·have hv:nl<=v:=hnl.resolve_left hn;rw[if_neg hn];have hnull:∀y:T,Mx.null (.mk 11 fr to nl g df of sub) v y=y.null:=fun y=>by
     unfold Mx.null;simp[Fl.null,show 0<=nl by omega,hv]
    have hmap:∀y∈t.L,zXA of false x (if of=10 then qJA v x sub y else y) (zYA sub v x (if of=10 then qJA v x sub y else y))=zXA of false x y (zYA sub v x y):=fun y hy=>by
     by_cases h10:of=10
     ·rw[if_pos h10,h10];have hkk':=hkk.resolve_left (by rw[h10];decide);exact(yBD v x sub y hkk'.1.2 hps ((hel y hy).2 h10)).1
     ·rw[if_neg h10]
    refine⟨?_,?_⟩
    ·rw[zEB,zEB,hnull,hnull];simp only[Fl.kind,Fl.null,Fl.of,Fl.sub];unfold yZB;rw[if_pos rfl,if_pos rfl];have e0:(T.mk 0 none t.null (some (if t.null=true then [] else t.L.map fun y=>if of=10 then qJA v x sub y else y)) none).null=t.null:=rfl;have e:T.L (.mk 0 none t.null (some (if t.null=true then [] else t.L.map fun y=>if of=10 then qJA v x sub y else y)) none)=if t.null=true then [] else t.L.map fun y=>if of=10 then qJA v x sub y else y:=rfl
     rw[e0,e];cases hb:t.null with
     | true=>rfl
     | false =>
      simp only[Bool.false_eq_true,if_false];rw[List.take_of_length_le hN,List.take_of_length_le (by rw[List.length_map];exact hN),List.length_map,List.map_map]
      congr 2
      exact List.map_congr_left hmap
    ·refine⟨?_,fun _=>.inl ⟨by omega,hv⟩,fun y hy=>?_⟩
     ·show (if t.null=true then [] else t.L.map fun y=>if of=10 then qJA v x sub y else y).length<=Most;split
      ·exact Nat.zero_le _
      ·rw[List.length_map];exact hN
     ·have hy:y∈(if t.null=true then [] else t.L.map fun y=>if of=10 then qJA v x sub y else y):=hy;split at hy
      ·cases hy
      ·obtain⟨z,hz,rfl⟩:=List.mem_map.1 hy;obtain⟨o1,o2⟩:=hel z hz;by_cases h10:of=10
       ·have hkk':=hkk.resolve_left (by rw[h10];decide);refine⟨fun h89=>by omega,fun _=>?_⟩;rw[if_pos h10];exact(yBD v x sub z hkk'.1.2 hps (o2 h10)).2
       ·rw[if_neg h10];exact⟨o1,fun e=>absurd e h10⟩
  ·rw[if_neg h];exact⟨rfl,hok⟩
theorem yBD(v:Int)(x:Bool):∀(fs:Option (List Fl)) (t:T),rkS v x fs=true->zGC fs=true->okS false v fs t->zYA fs v x (qJA v x fs t)=zYA fs v x t/\okS false v fs (qJA v x fs t)
 | none,t,hk,hp,hok=>by
  have hu:=yIF x (show qYA t.U from hok);have hu':qYA (qJA v x none t).U:=hu;refine⟨?_,hu'⟩;rw[xIA hp hu',xIA hp (show qYA t.U from hok)];cases x
  ·rfl
  ·rw[if_pos rfl,if_pos rfl]
   have:qKB (qJA v true none t).U=qKB t.U:=yDG
   rw[this];rfl
 | some l,t,hk,hp,hok=>by
  have hu:=yIF x (show qYA t.U from hok.1);have hu':qYA (qJA v x (some l) t).U:=hu;have h1:=yFH v x l [] t 0 none false (qAF x t.U) hk hp hok.2;refine⟨?_,hu',h1.2⟩;rw[xIA hp hu',xIA hp hok.1];have e:outP ((some l).getD []) v x (qJA v x (some l) t)=outP ((some l).getD []) v x t:=h1.1;rw[e];cases x
  ·rfl
  ·rw[if_pos rfl,if_pos rfl]
   have:qKB (qJA v true (some l) t).U=qKB t.U:=yDG
   rw[this]
theorem yFH(v:Int)(x:Bool):∀(l:List Fl) (P:List T) (t:T) (n:Int) (s:Option (List UInt8)) (b:Bool) (u:Option (List Tg)),rkL v x l=true->yDB l=true->okL false v l P.length t ->
  outL v x l P.length (.mk n s b (some (P++qGH v x l P.length t)) u)=outL v x l P.length t/\okL false v l P.length (.mk n s b (some (P++qGH v x l P.length t)) u)
 | [],P,t,n,s,b,u,_,_,_=>⟨rfl,trivial⟩
 | f::r,P,t,n,s,b,u,h,hp,hok=>by
  simp only[rkL,Bool.and_eq_true,Bool.or_eq_true,decide_eq_true_eq] at h;simp only[yDB,Bool.and_eq_true] at hp;rw[okL] at hok ⊢;have ih:=yFH v x r (P++[if qUC f v then qTC v x f (at' t P.length) else dfT f]) t n s b u h.2 hp.2 (by rw[List.length_append];exact hok.2);rw[List.length_append,List.length_singleton,List.append_assoc,List.singleton_append] at ih;rw[zZD,zZD,qGH,at_mk,ih.1];have hf:qUC f v=true->field f v x (qTC v x f (at' t P.length))=field f v x (at' t P.length)/\okF false v f (qTC v x f (at' t P.length)):=fun ht=>by
   refine xIJ v x f _ ?_ hp.1 (hok.1 (.inr (xWB.1 ht)));rcases h.1.2 with h|h
   ·rw[ht] at h;cases h
   ·exact h
  refine⟨?_,fun ha=>?_,ih.2⟩
  ·congr 1
   by_cases ht:qUC f v=true
   ·rw[if_pos ht,if_pos ht,if_pos ht];exact(hf ht).1
   ·rw[if_neg ht,if_neg ht]
  ·have ht:=xWB.2 (ha.resolve_left (by decide));rw[if_pos ht];exact(hf ht).2
end
end Go.Mx
namespace Go.Mx
open Go Go.Dx
theorem xNI{l:List T}(h:∀y∈l,wfT y=true):wfTo (nz l)=true:=by
 cases l with
 | nil=>rfl
 | cons a l=>exact qQE.2 h
theorem all_nz{u:List Tg}(h:∀y∈u,0<=y.key/\y.key<4294967296):((nz u).getD []).all wfTg=true:=by
 rw[xHA];exact List.all_eq_true.2 fun y hy=>by simp[wfTg,h y hy]
theorem xUF{n:Int}{s:Option (List UInt8)}{b:Bool}{l:Option (List T)}{u:Option (List Tg)}(h1:(Lit.int .i64 n).wf=true)(h2:wfTo l=true)(h3:(u.getD []).all wfTg=true):wfT (.mk n s b l u)=true:=by
 rw[wfT,h1,h2,h3];rfl
theorem yNL{n:Int}{s:Option (List UInt8)}{b:Bool}{l:Option (List T)}{u:Option (List Tg)}(h:wfT (.mk n s b l u)=true):(Lit.int .i64 n).wf=true/\wfTo l=true/\(u.getD []).all wfTg=true:=by
 simp only[wfT,Bool.and_eq_true] at h;exact⟨h.1.1,h.1.2,h.2⟩
theorem xTF{kind:Int}{b:Bool}{t ft:T}(h:wfT t=true)(hf:wfT ft=true):wfT (xQC kind b t ft)=true:=by
 obtain⟨n,s,nb,l,u⟩:=t;obtain⟨n',s',nb',l',u'⟩:=ft;unfold xQC;split
 ·exact xUF (by decide) rfl rfl
 ·split
  ·obtain⟨a1,a2,a3⟩:=yNL hf;exact xUF a1 a2 a3
  ·exact xUF (yNL h).1 rfl rfl
mutual
theorem zEK:∀(f:Fl) (v:Int) (t:T),wfT t=true->wfT (yBB f v t)=true
 | .mk k fr to nl tg df of sub,v,t,h=>by
  rw[yBB];split
  ·refine xUF (by decide) (xNI fun y hy=>?_) rfl;obtain⟨z,hz,rfl⟩:=List.mem_map.1 hy;have hz':=wfT_L h z (List.mem_of_mem_take hz);exact xTF hz' (qKG sub v z hz')
  ·exact xTF h (qKG sub v t h)
theorem qKG:∀(fs:Option (List Fl)) (v:Int) (t:T),wfT t=true->wfT (FitS fs v t)=true
 | none,v,t,h=>by
  have hu:=(qFG none v t h).2.2;rw[FitS];refine xUF (by decide) rfl (all_nz fun y hy=>?_);have e:(given (FitS none v t)).U=(zUA [] t.u).map fun x=>(⟨x.key,whole x.val⟩:Tg):=by
   unfold T.U;rw[xDG,xHA,FitS];exact xHA _
  have:=hu y (by rw[e];exact hy)
  exact⟨this.1,this.2.1⟩
 | some l,v,t,h=>by
  have hu:=(qFG (some l) v t h).2.2;rw[FitS];refine xUF (by decide) (xNI (yKJ l 0 v t h)) (all_nz fun y hy=>?_);have e:(given (FitS (some l) v t)).U=(zUA l t.u).map fun x=>(⟨x.key,whole x.val⟩:Tg):=by
   unfold T.U;rw[xDG,xHA,FitS];exact xHA _
  have:=hu y (by rw[e];exact hy)
  exact⟨this.1,this.2.1⟩
theorem yKJ:∀(l:List Fl) (i:Nat) (v:Int) (t:T),wfT t=true -> ∀y∈fitL l i v t,wfT y=true
 | [],_,_,_,_,y,hy=>by cases hy
 | f::r,i,v,t,h,y,hy=>by
  rw[fitL] at hy;rcases List.mem_cons.1 hy with rfl|hy
  ·exact zEK f v _ (yJJ h i)
  ·exact yKJ r (i+1) v t h y hy
end
mutual
theorem xXH:∀t:T,wfT t=true->wfT (given t)=true
 | .mk n s b l u,h=>by
  obtain⟨h1,h2,h3⟩:=yNL h;rw[given];refine xUF h1 (zFK l h2) ?_;rw[xHA];exact h3
theorem zFK:∀l:Option (List T),wfTo l=true->wfTo (qWF l)=true
 | none,_=>rfl
 | some l,h=>by
  rw[qWF];exact xNI (yGG l h)
theorem yGG:∀l:List T,wfTl l=true -> ∀y∈qVF l,wfT y=true
 | [],_,y,hy=>by cases hy
 | t::r,h,y,hy=>by
  rw[qVF] at hy;simp only[wfTl,Bool.and_eq_true] at h;rcases List.mem_cons.1 hy with rfl|hy
  ·exact xXH t h.1
  ·exact yGG r h.2 y hy
end
mutual
theorem okF_al{v:Int}:∀(f:Fl) (t:T),okF true v f t->okF false v f t
 | .mk k fr to nl g df of sub,t,h=>by
  rw[okF] at h ⊢;by_cases h11:k=11
  ·rw[if_pos h11] at h ⊢;obtain⟨h1,h2,h3⟩:=h;refine⟨h1,fun hn=>?_,fun y hy=>⟨(h3 y hy).1,fun h10=>qCK sub y ((h3 y hy).2 h10)⟩⟩;rcases h2 hn with h|⟨h,_⟩
   ·exact .inl h
   ·cases h
  ·rw[if_neg h11] at h ⊢;exact⟨h.1,fun h10=>qCK sub t (h.2 h10)⟩
theorem qCK{v:Int}:∀(fs:Option (List Fl)) (t:T),okS true v fs t->okS false v fs t
 | none,_,h=>h
 | some l,t,h=>⟨h.1,okL_al l 0 t h.2⟩
theorem okL_al{v:Int}:∀(l:List Fl) (i:Nat) (t:T),okL true v l i t->okL false v l i t
 | [],_,_,_=>trivial
 | f::r,i,t,h=>by
  rw[okL] at h ⊢;exact⟨fun _=>okF_al f _ (h.1 (.inl rfl)),okL_al r (i+1) t h.2⟩
end
def okB(M:Msg):Bool:=okAll M && !M.kept&&(List.range (M.most.toNat+1)).all fun v=>rkS (v:Nat) (zPA M.fx (v:Nat)) M.fs
theorem okB_rk{M:Msg}(h:okB M=true){v:Int}(h0:0<=v)(h1:v<=M.most):rkS v (zPA M.fx v) M.fs=true:=by
 simp only[okB,Bool.and_eq_true] at h
 have:=List.all_eq_true.1 h.2 v.toNat (List.mem_range.2 (by omega))
 rwa [Int.toNat_of_nonneg h0] at this
theorem src_encB(s:Option (List UInt8)):D.appd .nil (encB s)=encN (s.getD []):=by
 cases s with
 | none=>rfl
 | some b=>cases b <;> rfl
theorem xYD(s:Option (List UInt8)):(encB s).asStr=s.getD []:=by cases s <;> rfl
end Go.Mx
namespace Go.Mx
open Go Go.Dx
def z0E:DE:=.k (.int 0)
def fr0:DE:=.f .app [.k .nil,.f .mkbytes [z0E,z0E,z0E,z0E]]
def fr1(key:Int):DE:=.f (.ext 4) [fr0,.k (.int key)]
def fr2(key v:Int):DE:=.f (.ext 4) [fr1 key,.k (.int v)]
def fr3(key v:Int):DE:=.f (.ext 6) [fr2 key v,.v 1]
def fr4(key v:Int):Bool->DE
 | true=>.f (.ext 11) [fr3 key v,.f (.get 1) [.v 0]]
 | false=>.f (.ext 13) [fr3 key v,.k .nil]
def fr5(key v:Int)(x has:Bool):DE:=if x then .f .app [fr4 key v has,.f .mkbytes [z0E]] else fr4 key v has
def frS:DE:=.f .app [.k .nil,.v 3]
def frC(m:Msg)(v:Int):List DE:=rdM m.tg v (zPA m.fx v) 4 m.fs frS
def frB(m:Msg)(key v:Int)(has:Bool):DE:=wrS m.tg v (zPA m.fx v) 4 m.fs (frC m v) (fr5 key v (zPA m.fx v) has)
def frL(b:DE):DE:=.f (.wrap .u32) [.f (.wrap .i32) [.f .len [.f .drop [b,.k (.int 4)]]]]
def frN(b:DE)(n:Int):DE:=.f (.wrap .u8) [.f (.shr .u32) [frL b,.k (.int n)]]
def frF(b:DE):DE:=.f .copy [b,.f .mkbytes [frN b 24,frN b 16,frN b 8,.f (.wrap .u8) [frL b]]]
def frE(m:Msg)(key v:Int):DE:=.f .ite [.f (.get 0) [.v 0],frF (frB m key v true),frF (frB m key v false)]
def frP(key v:Int):Bool->Ob
 | true=>.pre 11 [fr3 key v,.f (.get 1) [.v 0]]
 | false=>.pre 13 [fr3 key v,.k .nil]
def frW(m:Msg)(key v:Int)(has:Bool):List Ob :=
 [.idx (.k (.int 4)) (frB m key v has) false,.idx (.k (.int 4)) (frB m key v has) false] ++
 (owS m.tg v (zPA m.fx v) 4 m.fs (frC m v) (fr5 key v (zPA m.fx v) has)++((if zPA m.fx v then [.room (fr5 key v true has) 1] else [])++[frP key v has]))
def frO(m:Msg)(key v:Int):List Ob :=
 [.when (.f (.get 0) [.v 0]) true (frW m key v true),.when (.f (.get 0) [.v 0]) false (frW m key v false),.pre 6 [fr2 key v,.v 1],.pre 4 [fr1 key,.k (.int v)],.pre 4 [fr0,.k (.int key)],.room fr0 1] ++
 (roM m.tg v (zPA m.fx v) 4 m.fs frS++[.room frS 1])
end Go.Mx
namespace Go.Mx
open Go Go.Dx
def fbS:DE:=.f .app [.f .app [.f (.ext 45) [.v 0,.k (.int 2)],.f (.ext 45) [.v 1,.k (.int 2)]],.f (.ext 45) [.f (.wrap .i64) [.v 2],.k (.int 4)]]
def fbT:DE:=.f .app [fbS,.f (.ext 45) [.f .len [.v 4],.k (.int 2)]]
def fbI:DE:=.f .app [fbT,.v 4]
def fbN:DE:=.f .app [fbS,.f (.ext 45) [.k (.int (-1)),.k (.int 2)]]
def fbA:DE:=.f .ite [.v 3,fbI,fbN]
def fbZ:DE:=.f .app [fbA,.f .mkbytes [.k (.int 0)]]
def fbB:DE:=.f .ite [.v 5,fbZ,fbA]
def fbC:DE:=.f .app [fbB,.v 6]
def yMK:DE:=.f .app [.f (.ext 45) [.f .len [fbC],.k (.int 4)],fbC]
def ob309:List Ob :=
 [.room yMK 1,.pre 45 [.f .len [fbC],.k (.int 4)],.room fbC 1,.when (.v 5) true [.room fbZ 1],
  .when (.v 3) true [.room fbI 1,.room fbT 1,.pre 45 [.f .len [.v 4],.k (.int 2)]],.when (.v 3) false [.room fbN 1,.pre 45 [.k (.int (-1)),.k (.int 2)]],
  .room fbS 1,.pre 45 [.f (.wrap .i64) [.v 2],.k (.int 4)],.room (.f .app [.f (.ext 45) [.v 0,.k (.int 2)],.f (.ext 45) [.v 1,.k (.int 2)]]) 1,.pre 45 [.v 1,.k (.int 2)],.pre 45 [.v 0,.k (.int 2)]]
theorem zDI(n:Int):zHA (IntKind.i64.wrap n) 4=zHA n 4:=qZB _ _ _ fun i hi=>by
 rw[IntKind.wrap_i64]
 match i,hi with
 | 0,_=>simp only[Nat.mul_zero,Int.pow_zero,Int.ediv_one];omega
 | 1,_=>simp only[Nat.mul_one,(by decide:(2:Int) ^ 8=256)];omega
 | 2,_=>simp only[(by decide:(2:Int) ^ (8*2)=65536)];omega
 | 3,_=>simp only[(by decide:(2:Int) ^ (8*3)=16777216)];omega
theorem yPK(i:Option (List UInt8)):encB i = .nil ∨ ∃s,encB i = .bytes s∨encB i = .str s:=by
 cases i with
 | none=>exact .inl rfl
 | some s=>exact .inr ⟨s,.inl rfl⟩
theorem zFF(s:List UInt8):encN s = .nil ∨ ∃r,encN s = .bytes r∨encN s = .str r:=by
 cases s with
 | nil=>exact .inl rfl
 | cons a l=>exact .inr ⟨_,.inl rfl⟩
theorem xUB{s:List UInt8}{d:DE}{J:List D}(e:d.eval X J=encN s)(h:s.length<=lim):(Ob.room d 1).holds X side J:=by
 show (d.eval X J).len*1<=_/\(d.eval X J).len<=_;rw[e,xFA];exact yUB h
theorem encB_len(i:Option (List UInt8)):(encB i).len=(i.getD []).length:=by cases i <;> rfl
theorem yRD(i:Option (List UInt8)):(encB i).asStr=i.getD []:=by cases i <;> rfl
theorem encN_nz{s:List UInt8}(h:s≠[]):encN s = .bytes s:=by
 cases s with
 | nil=>exact absurd rfl h
 | cons a l=>rfl
theorem ev309(k v n:Int)(h:Bool)(i:Option (List UInt8))(x:Bool)(b:Option (List UInt8))(hs:side 309 [.int k,.int v,.int n,.bool h,encB i,.bool x,encB b]) :
  zCA X side ob309 [.int k,.int v,.int n,.bool h,encB i,.bool x,encB b]/\yMK.eval X [.int k,.int v,.int n,.bool h,encB i,.bool x,encB b]=X 309 [.int k,.int v,.int n,.bool h,encB i,.bool x,encB b]:=by
 have hs:(encB i).asStr.length+(encB b).asStr.length+100<=lim:=hs;rw[yRD,yRD] at hs;generalize hδ:[D.int k,.int v,.int n,.bool h,encB i,.bool x,encB b]=J;have v0:(DE.v 0).eval X J = .int k:=by rw[<- hδ];rfl
 have v1:(DE.v 1).eval X J = .int v:=by rw[<- hδ];rfl
 have v2:(DE.v 2).eval X J = .int n:=by rw[<- hδ];rfl
 have v3:(DE.v 3).eval X J = .bool h:=by rw[<- hδ];rfl
 have v4:(DE.v 4).eval X J=encB i:=by rw[<- hδ];rfl
 have v5:(DE.v 5).eval X J = .bool x:=by rw[<- hδ];rfl
 have v6:(DE.v 6).eval X J=encB b:=by rw[<- hδ];rfl
 have eF:∀(d:DE) (m:Int) (s:Int),d.eval X J = .int m->(DE.f (.ext 45) [d,.k (.int s)]).eval X J=encN (zHA m s.toNat):=fun d m s hd=>by
  rw[ev_f,zAA,zAA,zBA,hd,ev_k,zIA,X_45,zOA,zOA]
 have eApp:∀(p q:DE) (s:List UInt8) (d:D),p.eval X J=encN s->q.eval X J=d->(d = .nil ∨ ∃r,d = .bytes r∨d = .str r)->(DE.f .app [p,q]).eval X J=encN (s++d.asStr):=fun p q s d hp hq hd=>by
  rw[ev_f,zAA,zAA,zBA,hp,hq,yYA,yLB _ _ hd]
 have eL4:(DE.f .len [.v 4]).eval X J = .int ((i.getD []).length:Nat):=by
  rw[ev_f,zAA,zBA,v4,yCA,encB_len]
 have e2:(DE.f (.wrap .i64) [.v 2]).eval X J = .int (IntKind.i64.wrap n):=by
  rw[ev_f,zAA,zBA,v2,zLA]
 have eS0:(DE.f .app [.f (.ext 45) [.v 0,.k (.int 2)],.f (.ext 45) [.v 1,.k (.int 2)]]).eval X J=encN (zHA k 2++zHA v 2):=by
  rw[eApp _ _ _ _ (eF _ _ _ v0) (eF _ _ _ v1) (zFF _),xQA];rfl
 have eS:fbS.eval X J=encN (zHA k 2++zHA v 2++zHA n 4):=by
  unfold fbS;rw[eApp _ _ _ _ eS0 (eF _ _ _ e2) (zFF _),xQA,show (4:Int).toNat=4 from rfl,zDI]
 generalize hS:zHA k 2++zHA v 2++zHA n 4=S at eS;have lS:S.length=8:=by rw[<- hS];simp[zQA]
 have eT:fbT.eval X J=encN (S++zHA ((i.getD []).length:Nat) 2):=by
  unfold fbT;rw[eApp _ _ _ _ eS (eF _ _ _ eL4) (zFF _),xQA];rfl
 have eI:fbI.eval X J=encN (S++zHA ((i.getD []).length:Nat) 2++i.getD []):=by
  unfold fbI;rw[eApp _ _ _ _ eT v4 (yPK i),yRD]
 have eN:fbN.eval X J=encN (S++zHA (-1) 2):=by
  unfold fbN;rw[eApp _ _ _ _ eS (eF _ _ _ (ev_k _ _)) (zFF _),xQA];rfl
 have eA:fbA.eval X J=encN (S++(if h then zHA ((i.getD []).length:Nat) 2++i.getD [] else zHA (-1) 2)):=by
  unfold fbA;rw[ev_f,zAA,zAA,zAA,zBA,v3,eI,eN,yJA];cases h <;> simp
 generalize hA:(if h then zHA ((i.getD []).length:Nat) 2++i.getD [] else zHA (-1) 2)=A at eA;have lA:A.length<=2+(i.getD []).length:=by
  rw[<- hA];split
  ·rw[List.length_append,zQA];omega
  ·rw[zQA];omega
 have eZ:fbZ.eval X J=encN (S++A++[0]):=by
  unfold fbZ;rw[eApp _ _ _ (.bytes [0]) eA (by rw[ev_f,zAA,zBA,ev_k];rfl) (.inr ⟨_,.inl rfl⟩)];rfl
 have eB:fbB.eval X J=encN (S++A++(if x then ([0]:List UInt8) else [])):=by
  unfold fbB;rw[ev_f,zAA,zAA,zAA,zBA,v5,eZ,eA,yJA];cases x <;> simp
 generalize hZ:(if x then ([0]:List UInt8) else [])=Z at eB;have lZ:Z.length<=1:=by rw[<- hZ];split <;> simp
 have eC:fbC.eval X J=encN (S++A++Z++b.getD []):=by
  unfold fbC;rw[eApp _ _ _ _ eB v6 (yPK b),yRD]
 have eLC:(DE.f .len [fbC]).eval X J = .int ((S++A++Z++b.getD []).length:Nat):=by
  rw[ev_f,zAA,zBA,eC,yCA,xFA]
 have lC:(S++A++Z++b.getD []).length<=11+(i.getD []).length+(b.getD []).length:=by
  simp only[List.length_append,lS];omega
 have eD:yMK.eval X J=encN (zHA ((S++A++Z++b.getD []).length:Nat) 4++(S++A++Z++b.getD [])):=by
  unfold yMK;rw[eApp _ _ _ _ (eF _ _ _ eLC) eC (zFF _),xQA];rfl
 have hh:hdrB k v n h (i.getD []) x++b.getD []=S++A++Z++b.getD []:=by
  rw[hdrB,<- hS,<- hA,<- hZ];simp only[List.append_assoc]
 constructor
 ·have s45:∀(d:DE) (s:Int),0<=s->s<=8->(Ob.pre 45 [d,.k (.int s)]).holds X side J:=fun d s h0 h1=>by
   simp only[Ob.holds,zAA,zBA,ev_k];rw[qGC];exact⟨h0,h1⟩
  refine⟨xUB eD ?_,s45 _ _ (by decide) (by decide),xUB eC ?_,fun hx=>⟨xUB eZ ?_,trivial⟩,fun hh=>⟨xUB eI ?_,xUB eT ?_,s45 _ _ (by decide) (by decide),trivial⟩,fun hh=>⟨xUB eN ?_,s45 _ _ (by decide) (by decide),trivial⟩,
   xUB eS ?_,s45 _ _ (by decide) (by decide),xUB eS0 ?_,s45 _ _ (by decide) (by decide),s45 _ _ (by decide) (by decide),trivial⟩
  ·rw[List.length_append,zQA];omega
  ·omega
  ·simp only[List.length_append,lS,List.length_singleton];omega
  ·simp only[List.length_append,lS,zQA];omega
  ·simp only[List.length_append,lS,zQA];omega
  ·simp only[List.length_append,lS,zQA];omega
  ·omega
  ·simp only[List.length_append,zQA];simp only[lim];omega
 ·rw[eD,<- hδ,X_309,zOA,zOA,zOA,zVA,zVA,yRD,yRD,zHE,hh,encN_nz];rw[zJK];simp
def de16:DE:=.f .app [.f (.ext 10) [.v 0,.f (.add .u32) [.k (.int 1),.f (.wrap .u32) [.f .len [.v 1]]]],.v 1]
def ob16:List Ob:=[.room de16 1,.pre 10 [.v 0,.f (.add .u32) [.k (.int 1),.f (.wrap .u32) [.f .len [.v 1]]]]]
def de18:DE:=.f .ite [.f .isNil [.v 1],.f (.ext 10) [.v 0,.k (.int 0)],.f (.ext 16) [.v 0,.v 1]]
def ob18:List Ob:=[.when (.f .isNil [.v 1]) true [.pre 10 [.v 0,.k (.int 0)]],.when (.f .isNil [.v 1]) false [.pre 16 [.v 0,.v 1]]]
theorem ev16(o s:Option (List UInt8))(h:side 16 [encB o,encB s]):zCA X side ob16 [encB o,encB s]/\de16.eval X [encB o,encB s]=X 16 [encB o,encB s]:=by
 rw[yZI,yRA,xDA] at h;obtain⟨h1,h2⟩:=h;have ew:IntKind.u32.wrap (1+IntKind.u32.wrap ((s.getD []).length:Nat))=(((s.getD []).length+1:Nat):Int):=by
  rw[yXB (x:=((s.getD []).length:Nat)) (by omega) (by omega),yXB (by omega) (by omega)];omega
 have e:de16.eval X [encB o,encB s]=X 16 [encB o,encB s]:=by
  simp only[de16,X_16,X_10,ev_f,zAA,zBA,ev_v,ev_k,List.getD_cons_zero,List.getD_cons_succ,yCA,yRA,zLA,zWC,ew,zIA,zOA,Int.toNat_natCast,yYA,app_b,xDA]
 have hu:(zDA ((s.getD []).length+1)).length<=5:=by
  rw[yIJ]
  have:=yFG 5 ((s.getD []).length+1) (Nat.lt_of_lt_of_le (by omega) (by decide:4294967296<=128 ^ 5))
  omega
 refine⟨⟨?_,?_,trivial⟩,e⟩
 ·show (de16.eval X [encB o,encB s]).len*1<=_/\(de16.eval X [encB o,encB s]).len<=_;rw[e,X_16,xNA,List.length_append,yRA,xDA,xDA];exact yUB (by omega)
 ·simp only[Ob.holds,ev_f,zAA,zBA,ev_v,ev_k,List.getD_cons_zero,List.getD_cons_succ,yCA,yRA,zLA,zWC,ew];show (X 10 _).len<=lim;rw[X_10,xNA,zOA,Int.toNat_natCast,xDA];omega
theorem ev18(o s:Option (List UInt8))(h:side 18 [encB o,encB s]):zCA X side ob18 [encB o,encB s]/\de18.eval X [encB o,encB s]=X 18 [encB o,encB s]:=by
 have h0:=h;rw[zFL,yRA] at h;obtain⟨h1,h2⟩:=h;constructor
 ·refine⟨fun hc=>⟨?_,trivial⟩,fun hc=>⟨?_,trivial⟩,trivial⟩
  ·simp only[Ob.holds,zAA,zBA,ev_v,ev_k,List.getD_cons_zero];show (X 10 _).len<=lim;rw[X_10,xNA]
   have:(zDA (D.asInt (.int 0)).toNat).length=1:=by rw[zOA];simp[zDA]
   rw[this];omega
  ·simp only[Ob.holds,zAA,zBA,ev_v,List.getD_cons_zero,List.getD_cons_succ];rw[yZI,yRA];exact⟨h1,h2⟩
 ·simp only[de18,X_18,X_16,X_10,ev_f,zAA,zBA,ev_v,ev_k,List.getD_cons_zero,List.getD_cons_succ,qEB,yVD,zIA,zOA,yJA];cases s <;> rfl
end Go.Mx
namespace Go.Mx
open Go Go.Dx
noncomputable def zTJ(P:Program)(C:Cfg)(f:Nat)(c:Ctr)(ks:List (Nat×Int))(d:DE)(os:List Ob):Bool :=
 match P.funcs[f]? with
 | some fn=>match runFK C 100000 8 c fn ks with
  | some (d',os')=>d'.beq d&&qOC os' os
  | none=>false
 | none=>false
theorem yZH{P:Program}{C:Cfg}{f:Nat}{c:Ctr}{ks:List (Nat×Int)}{d:DE}{os:List Ob}(h:zTJ P C f c ks d os=true):∃fn,P.funcs[f]? = some fn/\runFK C 100000 8 c fn ks=some (d,os):=by
 unfold zTJ at h;split at h
 ·rename_i fn hf;split at h
  ·rename_i d' os' hr;simp only[Bool.and_eq_true] at h;have e1:=DE.beq_eq h.1;have e2:=xTB h.2;subst e1;subst e2
   exact⟨fn,hf,hr⟩
  ·cases h
 ·cases h
def zOF(P:Program)(f:Nat):Bool:=match P.funcs[f]? with|some fn=>fn.body.isSome|none=>false
theorem yTE{P:Program}{f:Nat}(h:zOF P f=true):∃fn b,P.funcs[f]? = some fn/\fn.body=some b:=by
 unfold zOF at h;split at h
 ·rename_i fn hf;obtain⟨b,hb⟩:=Option.isSome_iff_exists.1 h;exact⟨fn,b,hf,hb⟩
 ·cases h
noncomputable def namesOk? (l : List Func) : Bool := l.all fun fn => !(fn.name == "runtime.NumGoroutine")
theorem names_ok{P:Program}(h:namesOk? P.funcs.toList=true):xJA P:=fun f fn hf=>by
 have:=List.all_eq_true.1 h fn (by
  rw[<- Array.getElem?_toList] at hf;exact List.mem_of_getElem? hf)
 simpa using this
end Go.Mx
namespace Go.Mx
open Go Go.Dx
def i0:DE:=.k (.int 0)
end Go.Mx
namespace Go.Mx
open Go Go.Dx
def qQC(k:Nat):Bool:=k==303 || k==304 || k==305 || k==308
def meas3:Nat->List D->Nat
 | 303,[fs,_,_,_,_]=>3*wFs (decF fs)+1
 | 304,[f,_,_,_,_]=>3*wF (toF f)
 | 305,[fs,_]=>wFs (decF fs)
 | 308,[a,_]=>wT (toT a)
 | _,_=>0
def Pre3(n k:Nat)(ds:List D):Prop:=(qQC k=true->meas3 k ds<n)/\side k ds
end Go.Mx
namespace Go.Mx
open Go Go.Dx
def fldOk(P:Program)(good:List TypeId)(i:Nat)(f:Field):Bool:=decide (f.offset=i)&&decide (P.cellsOf f.type=1)&&good.elem f.type && !agg P f.type
def zLH(P:Program)(good:List TypeId):Nat->List Field->Bool
 | _,[]=>true
 | i,f::r=>fldOk P good i f&&zLH P good (i+1) r
def okT(P:Program)(good:List TypeId)(t:TypeId):Bool :=
 match P.underlying t with
 | some .bool=>true
 | some (.int _)=>true
 | some .string=>true
 | some (.slice e)=>(P.info? e).isSome&&decide (0<P.cellsOf e)&&good.elem e&&(!isI P .u8 e || decide (P.cellsOf e=1))
 | some (.struct fs)=>decide (P.cellsOf t=fs.size)&&decide (tys P t=fs.toList.map (·.type))&&zLH P good 0 fs.toList
 | _=>false
section
variable {H:Type} {enc:TypeId×Value->H} {P:Program} {w:World} {sp:Nat->Bool} {held:Bool} {good:List TypeId}
theorem qRF:∀ {l:List Field} {i j:Nat} {f:Field},zLH P good i l=true->l[j]? = some f->fldOk P good (i+j) f=true
 | g::r,i,0,f,h,hj=>by
  simp only[List.getElem?_cons_zero,Option.some.injEq] at hj;subst hj
  simp only[zLH,Bool.and_eq_true] at h;exact h.1
 | g::r,i,j+1,f,h,hj=>by
  simp only[List.getElem?_cons_succ] at hj;simp only[zLH,Bool.and_eq_true] at h
  have:=qRF h.2 hj
  rwa [show i+1+j=i+(j+1) by omega] at this
theorem cell_lt{a:Addr}{v:Value}(h:w.cell? a=some v):a.spot=none/\a.block<w.heap.size:=by
 unfold World.cell? at h;split at h
 ·rename_i c t fr hb;split at h
  ·cases h
  ·rename_i hs;exact⟨by simpa using hs,(Array.getElem?_eq_some_iff.1 hb).1⟩
 ·cases h
theorem size_of{e:TypeId}{i:TypeInfo}(h:P.info? e=some i):P.cellsOf e=i.size:=by simp[Program.cellsOf,h]
theorem qZG{t:TypeId}(h:good.elem t=true):t∈good:=by simpa using h
structure Bulk (bk:DataW H->Nat):Prop where
 one:∀d,1<=bk d
 sl:∀es sp,(es.map bk).sum+1<=bk (.slice es sp)
 ag:∀ps,(ps.map bk).sum+1<=bk (.agg ps)
mutual
def wD:D->Nat
 | .bytes s=>s.length+1
 | .list l=>wDs l+1
 | .row l=>wDs l+1
 | _=>1
def wDs:List D->Nat
 | []=>0
 | d::r=>wD d+wDs r
end
theorem yKL:∀(l:List D) (m:List Nat),l.length=m.length->(∀(j:Nat) d n,l[j]? = some d->m[j]? = some n->wD d<=n)->wDs l<=m.sum
 | [],_,_,_=>by simp[wDs]
 | d::l,[],h,_=>by simp at h
 | d::l,n::m,h,hp=>by
  simp only[wDs,List.sum_cons];have h1:=hp 0 d n rfl rfl;have h2:=yKL l m (by simpa using h) (fun j d' n' hd hn=>hp (j+1) d' n' hd hn);omega
theorem sum_ge:∀(m:List Nat),(∀n∈m,1<=n)->m.length<=m.sum
 | [],_=>by simp
 | n::m,h=>by
  have h1:=h n (by simp);have h2:=sum_ge m (fun k hk=>h k (by simp[hk]));simp only[List.length_cons,List.sum_cons];omega
theorem rep_trod{bk:DataW H->Nat}(hbk:Bulk bk)(hg:∀t∈good,okT P good t=true)(hsp:∀b,sp b=true):∀(fuel:Nat) (t:TypeId) (cs:List Value) (x:DataW H×List MemPlace),t∈good->DataW.trod enc P w 0 sp held fuel t cs=some x ->
  ∃v d,v.cells.toList=cs/\Rep P (fun b=>b<w.heap.size) w t v d/\(agg P t=false->cs=[v])/\wD d<=bk x.1:=by
 intro fuel
 induction fuel using Nat.strongRecOn with
 | _ fuel ih =>
  intro t cs x ht h;have hok:=hg t ht;unfold okT at hok;split at hok
  ·rename_i hu;obtain⟨b,rfl,_⟩:=DataW.trod_bool hu h;exact⟨.bool b,_,rfl,.bool hu,fun _=>rfl,hbk.one _⟩
  ·rename_i k hu;obtain⟨n,rfl,_,hw⟩:=DataW.trod_int hu h;exact⟨.int k n,_,rfl,.int hu hw,fun _=>rfl,hbk.one _⟩
  ·rename_i hu;obtain⟨s,rfl,_,hs⟩:=DataW.trod_string hu h;exact⟨.string s,_,rfl,.str hu hs,fun _=>rfl,hbk.one _⟩
  ·rename_i e hu;simp only[Bool.and_eq_true,decide_eq_true_eq] at hok;obtain⟨⟨⟨hinf,hpos⟩,hge⟩,hu8⟩:=hok;obtain⟨i,hi⟩:=Option.isSome_iff_exists.1 hinf;have hsz:=size_of hi;rcases DataW.trod_slice hu h with⟨rfl,_⟩|⟨a,len,cap,elems,rest,n,rfl,rfl,rfl,hb,hlc,hcm,hlen,hel,hrest,_⟩
   ·exact⟨.slice none 0 0,_,rfl,.snil hu,fun _=>rfl,hbk.one _⟩
   ·refine⟨.slice (some a) len cap,?_⟩;have hel':∀j,j<len -> ∃cj yj,w.cells? 0 (a.add (j*P.cellsOf e)) (P.cellsOf e)=some cj/\DataW.trod enc P w 0 sp held n e cj=some yj/\elems[j]? = some yj:=fun j hj=>by
     have:=hel j hj
     have hej:elems[j]? = some elems[j]:=List.getElem?_eq_getElem (by omega);rw[hej] at this;obtain⟨cj,h1,h2⟩:=Option.bind_eq_some_iff.1 this;exact⟨cj,_,h1,h2,hej⟩
    have hspot:0<cap->a.spot=none/\a.block<w.heap.size:=fun h0=>by
     have hread:∃cj,w.cells? 0 a (P.cellsOf e)=some cj:=by
      by_cases hl0:0<len
      ·obtain⟨cj,_,h1,_⟩:=hel' 0 hl0;exact⟨cj,by simpa[Addr.add] using h1⟩
      ·have hl:len=0:=by omega
       obtain⟨hr1,hr2⟩:=hrest (hsp _)
       have:=hr2 0 (by omega)
       rw[List.getElem?_eq_getElem (by omega)] at this;obtain⟨cj,h1,_⟩:=Option.bind_eq_some_iff.1 this;exact⟨cj,by simpa[Addr.add,hl] using h1⟩
     obtain⟨cj,hcj⟩:=hread;obtain⟨_,hlj,hcell⟩:=World.cells?_some hcj;have h1:=hcell 0 hpos;rw[List.getElem?_eq_getElem (by omega)] at h1;have h2:=cell_lt h1;simpa[Addr.add] using h2
    have hch:∀j:Nat,∃q:Value×D,j<len->(∀i,i<P.cellsOf e->w.cell? ((a.add (j*P.cellsOf e)).add i)=q.1.cells.toList[i]?)/\q.1.cells.size=P.cellsOf e/\Rep P (fun b=>b<w.heap.size) w e q.1 q.2/\(agg P e=false->q.1.cells = #[q.1]) /\ ∀y,elems[j]? = some y->wD q.2<=bk y.1:=fun j=>by
     by_cases hj:j<len
     ·obtain⟨cj,yj,h1,h2,h3⟩:=hel' j hj;obtain⟨_,hlj,hcell⟩:=World.cells?_some h1;obtain⟨v,d,k1,k2,k3,k4⟩:=ih n (by omega) e cj yj (qZG hge) h2;refine⟨(v,d),fun _=>⟨fun i hi=>by rw[hcell i hi,<- k1],by rw[<- Array.length_toList,k1,hlj],k2,fun ha=>?_,fun y hy=>by rw[h3] at hy;cases hy;exact k4⟩⟩
      have:=k3 ha
      rw[<- k1] at this;exact Array.toList_inj.1 (by rw[this])
     ·exact⟨(undef,.nil),fun h=>absurd h hj⟩
    obtain⟨q,hq⟩:=Classical.axiomOfChoice hch;cases h8:isI P .u8 e with
    | true =>
     have hue:=zRH h8;rw[h8] at hu8;have hs1:P.cellsOf e=1:=by simpa using hu8
     have hag:agg P e=false:=by simp[agg,hue,zGA]
     have hb8:∀j,j<len -> ∃x:UInt8,(q j).1 = .int .u8 x.toNat:=fun j hj=>by
      obtain⟨_,_,hr,_⟩:=hq j hj;generalize (q j).1=v at hr;generalize (q j).2=d at hr;obtain⟨m,rfl,hw⟩:=zZB h8 hr;cases hr with
      | int hu' hw' =>
       rw[hue] at hu';cases hu'
       have hb:0<=m/\m<256:=by
        simp[Lit.wf,IntKind.min,IntKind.max,IntKind.signed,IntKind.bits] at hw;omega
       refine⟨UInt8.ofNat m.toNat,?_⟩
       have:(UInt8.ofNat m.toNat).toNat=m.toNat:=by simp[UInt8.toNat_ofNat'];omega
       rw[this];congr 1;omega
     obtain⟨y,hy⟩:=Classical.axiomOfChoice (r:=fun(j:Nat) (x:UInt8)=>j<len->(q j).1 = .int .u8 x.toNat) (fun j=>by
      by_cases hj:j<len
      ·obtain⟨x,hx⟩:=hb8 j hj;exact⟨x,fun _=>hx⟩
      ·exact⟨0,fun h=>absurd h hj⟩)
     have hl:((List.range len).map y).length=len:=by simp
     have:=Rep.bytes (ok:=fun b=>b<w.heap.size) (w:=w) (s:=(List.range len).map y) (ad:=a) (cap:=cap) hu hue hspot (by rw[hl];exact hlc) hcm (fun j v hj=>by
      rw[List.getElem?_map,List.getElem?_map] at hj;have hjl:j<len:=by
       by_cases hh:j<len
       ·exact hh
       ·rw[List.getElem?_eq_none (by simp;omega)] at hj;cases hj
      rw[List.getElem?_range hjl] at hj;simp only[Option.map_some,Option.some.injEq] at hj;subst hj;obtain⟨h1,h2,_,h3,_⟩:=hq j hjl;have h4:=h1 0 (by omega);rw[h3 hag,hs1,Nat.mul_one] at h4;have hcap:0<cap:=by omega
      rw[xLD (hspot hcap).1,zRB,Nat.add_zero] at h4;rw[h4,hy j hjl];rfl)
     rw[hl] at this;refine⟨_,rfl,this,fun _=>rfl,?_⟩;show ((List.range len).map y).length+1<=_;refine Nat.le_trans ?_ (hbk.sl _ _);rw[hl]
     have:=sum_ge ((elems.map (·.1)).map bk) (fun n hn=>by obtain⟨d,_,rfl⟩:=List.mem_map.1 hn;exact hbk.one d)
     simp only[List.length_map] at this;omega
    | false =>
     have hne:P.underlying e≠some (.int .u8):=fun hh=>by simp[isI,hh] at h8
     have hl:((List.range len).map fun j=>(q j).2).length=len:=by simp
     have hget:∀ {A:Type} (f:Nat->A) (j:Nat) (v:A),((List.range len).map f)[j]? = some v->j<len/\v=f j:=fun f j v hj=>by
      rw[List.getElem?_map] at hj;have hjl:j<len:=by
       by_cases hh:j<len
       ·exact hh
       ·rw[List.getElem?_eq_none (by simp;omega)] at hj;cases hj
      rw[List.getElem?_range hjl] at hj;simp only[Option.map_some,Option.some.injEq] at hj;exact⟨hjl,hj.symm⟩
     have:=Rep.list (ok:=fun b=>b<w.heap.size) (w:=w) (vs:=(List.range len).map fun j=>(q j).1) (ds:=(List.range len).map fun j=>(q j).2) (ad:=a) (cap:=cap) hu hne hi hspot (by simp) (by rw[hl];exact hlc) hcm
      (fun v hv=>by
       obtain⟨j,hj,rfl⟩:=List.mem_map.1 hv;rw[(hq j (List.mem_range.1 hj)).2.1,hsz])
      (fun j v hj i u hi'=>by
       obtain⟨hjl,rfl⟩:=hget _ j v hj;obtain⟨h1,h2,_,_,_⟩:=hq j hjl;have hil:i<P.cellsOf e:=by
        rw[<- h2]
        have:=(List.getElem?_eq_some_iff.1 hi').1
        simpa using this
       have h4:=h1 i hil;have hcap:0<cap:=by omega
       rw[xLD (hspot hcap).1,zRB,hsz] at h4;rw[h4];exact hi')
      (fun j v d h1 h2=>by
       obtain⟨hjl,rfl⟩:=hget _ j v h1;obtain⟨_,rfl⟩:=hget _ j d h2;exact(hq j hjl).2.2.1)
     rw[hl] at this;refine⟨_,rfl,this,fun _=>rfl,?_⟩;show wDs _+1<=_;refine Nat.le_trans (Nat.succ_le_succ (yKL _ ((elems.map (·.1)).map bk) (by simp;omega) (fun j d n h1 h2=>?_))) (hbk.sl _ _);obtain⟨hjl,rfl⟩:=hget _ j d h1;rw[List.map_map,List.getElem?_map] at h2;obtain⟨y,hy,rfl⟩:=Option.map_eq_some_iff.1 h2;exact(hq j hjl).2.2.2.2 y hy
  ·rename_i fs hu;simp only[Bool.and_eq_true,decide_eq_true_eq] at hok;obtain⟨⟨hcs,hty⟩,hfl⟩:=hok;obtain⟨xs,n,rfl,rfl,hlen,hxl,hel⟩:=DataW.trod_struct hu h;have hag:agg P t=true:=by simp[agg,hu,zGA]
   have hl1:cs.length=fs.size:=by rw[hlen,hcs]
   have hch:∀j:Nat,∃d:D,∀(f:Field) (v:Value),fs[j]? = some f->cs[j]? = some v->Rep P (fun b=>b<w.heap.size) w f.type v d/\v.cells = #[v] /\ ∀y,xs[j]? = some y->wD d<=bk y.1:=fun j=>by
    by_cases hj:j<fs.size
    ·have hfj:fs[j]? = some fs[j]:=Array.getElem?_eq_getElem hj;have hfo:=qRF (i:=0) hfl (by rw[Array.getElem?_toList];exact hfj);unfold fldOk at hfo;simp only[Bool.and_eq_true,decide_eq_true_eq,Nat.zero_add,Bool.not_eq_true'] at hfo;obtain⟨⟨⟨o1,o2⟩,o3⟩,o4⟩:=hfo;have h1:=hel j _ hfj;rw[o1,o2,List.getElem?_eq_getElem (by omega)] at h1;obtain⟨v,d,k1,k2,k3,k5⟩:=ih n (by omega) _ _ _ (qZG o3) h1;have k4:=k3 o4;refine⟨d,fun f u hf hu'=>?_⟩;rw[hfj] at hf;cases hf
     have:(cs.drop j).take 1=[u]:=by
      rw[List.drop_eq_getElem_cons (by omega)]
      have:=(List.getElem?_eq_some_iff.1 hu').2
      simp[this]
     rw[this] at k4 k1;cases k4;exact⟨k2,Array.toList_inj.1 (by rw[k1]),fun y hy=>by rw[List.getElem?_eq_getElem (by omega)] at hy;cases hy;exact k5⟩
    ·exact⟨.nil,fun f v hf=>by rw[Array.getElem?_eq_none (by omega)] at hf;cases hf⟩
   obtain⟨q,hq⟩:=Classical.axiomOfChoice hch;have htl:(tys P t).length=fs.size:=by rw[hty];simp
   refine⟨.agg cs.toArray,.row ((List.range fs.size).map q),rfl,?_,(fun h=>by rw[hag] at h;cases h),?_⟩
   rotate_left
   ·show wDs _+1<=_;refine Nat.le_trans (Nat.succ_le_succ (yKL _ ((xs.map (·.1)).map bk) (by simp;omega) (fun j d n h1 h2=>?_))) (hbk.ag _);rw[List.getElem?_map] at h1;have hjf:j<fs.size:=by
     by_cases hh:j<fs.size
     ·exact hh
     ·rw[List.getElem?_eq_none (by simp;omega)] at h1;cases h1
    rw[List.getElem?_range hjf] at h1;simp only[Option.map_some,Option.some.injEq] at h1;subst h1;rw[List.map_map,List.getElem?_map] at h2;obtain⟨y,hy,rfl⟩:=Option.map_eq_some_iff.1 h2;exact(hq j fs[j] _ (Array.getElem?_eq_getElem hjf) (List.getElem?_eq_getElem (by omega))).2.2 y hy
   refine .row hu rfl (by rw[htl,hl1]) (by simp[htl]) (fun v hv=>?_) (fun j u v d hj hv hd=>?_)
   ·obtain⟨j,hj,rfl⟩:=List.mem_iff_getElem.1 hv;have hjf:j<fs.size:=by omega
    exact(hq j fs[j] _ (Array.getElem?_eq_getElem hjf) (List.getElem?_eq_getElem hj)).2.1
   ·rw[hty,List.getElem?_map,Array.getElem?_toList] at hj;obtain⟨f,hf,rfl⟩:=Option.map_eq_some_iff.1 hj;rw[List.getElem?_map] at hd;have hjf:=(Array.getElem?_eq_some_iff.1 hf).1;rw[List.getElem?_range hjf] at hd;simp only[Option.map_some,Option.some.injEq] at hd;subst hd;exact(hq j f v hf hv).1
  ·cases hok
end
end Go.Mx
namespace Go.Mx
open Go Go.Dx
mutual
def WT:T->Nat
 | .mk _ s _ l u=>1+(s.getD []).length+WTo l+((u.getD []).map fun x=>1+(x.val.getD []).length).sum
def WTo:Option (List T)->Nat
 | none=>0
 | some l=>WTl l
def WTl:List T->Nat
 | []=>0
 | t::r=>WT t+WTl r
end
theorem zMK:∀l:List T,WTl l=(l.map WT).sum
 | []=>rfl
 | t::r=>by rw[WTl,zMK r];rfl
theorem zLK(t:T):1<=WT t:=by obtain⟨n,s,b,l,u⟩:=t;rw[WT];omega
theorem WT_S(t:T):t.S.length+1<=WT t:=by obtain⟨n,s,b,l,u⟩:=t;rw[WT];show (s.getD []).length+1<=_;omega
theorem WT_L(t:T):(t.L.map WT).sum+1<=WT t:=by
 obtain⟨n,s,b,l,u⟩:=t;rw[WT];cases l with
 | none=>show 0+1<=_;omega
 | some l=>rw[WTo,zMK];show (l.map WT).sum+1<=_;omega
def WU(u:List Tg):Nat:=(u.map fun x=>1+(x.val.getD []).length).sum
theorem WT_U(t:T):WU t.U+1<=WT t:=by
 obtain⟨n,s,b,l,u⟩:=t;rw[WT];show ((u.getD []).map fun x=>1+(x.val.getD []).length).sum+1<=_;omega
theorem xRK{A:Type}(f:A->Nat):∀ {l:List A} {a:A},a∈l->f a<=(l.map f).sum
 | b::l,a,h=>by
  rw[List.map_cons,List.sum_cons];rcases List.mem_cons.1 h with rfl|h
  ·omega
  ·have:=xRK f h;omega
theorem WT_at(t:T)(i:Int):WT (at' t i)<=WT t:=by
 have h1:=zLK t;have h0:WT T.zero=1:=rfl;unfold at';split
 ·rw[List.getD_eq_getElem?_getD];cases hg:t.L[i.toNat]? with
  | none=>show WT T.zero<=_;omega
  | some y =>
   show WT y<=_
   have:=xRK WT (List.mem_of_getElem? hg)
   have:=WT_L t
   omega
 ·omega
theorem qEG{A:Type}(f:A->Nat):∀(l:List A) (n:Nat),((l.take n).map f).sum<=(l.map f).sum
 | [],n=>by simp
 | a::l,0=>by simp
 | a::l,n+1=>by
  have:=qEG f l n
  simp only[List.take_succ_cons,List.map_cons,List.sum_cons];omega
theorem qVI(x:Tg):∀l:List Tg,WU (xAA x l)<=WU l+(1+(x.val.getD []).length)
 | []=>by simp[xAA,WU]
 | t::r=>by
  have:=qVI x r
  rw[xAA];unfold WU at this ⊢;split
  ·simp only[List.map_cons,List.sum_cons] at this ⊢;omega
  ·split
   ·omega
   ·simp only[List.map_cons,List.sum_cons];omega
theorem unk_W(k:Int):∀(l out:List Tg),WU (l.foldl (fun out t=>if t.key<k then out else xAA t out) out)<=WU out+WU l
 | [],out=>by simp[WU]
 | t::l,out=>by
  have h3:WU (t::l)=(1+(t.val.getD []).length)+WU l:=by simp[WU]
  rw[List.foldl];by_cases c:t.key<k
  ·rw[if_pos c];have h1:=unk_W k l out;omega
  ·rw[if_neg c];have h1:=unk_W k l (xAA t out);have h2:=qVI t out;omega
theorem yEL(fs:List Fl)(u:Option (List Tg)):WU (zUA fs u)<=WU (u.getD []):=by
 have h1:=unk_W (qBA fs) ((u.getD []).take Most) [];have h2:=qEG (fun x:Tg=>1+(x.val.getD []).length) (u.getD []) Most;unfold zUA;unfold WU at *;simp only[List.map_nil,List.sum_nil] at h1;omega
theorem Uv_le{n:Nat}(h:n<18446744073709551616):(zDA n).length<=10:=by
 have key:∀(k n:Nat),n<128 ^ (k+1)->(zDA n).length<=k+1:=by
  intro k
  induction k with
  | zero=>intro n hn;rw[zDA,if_neg (by omega)];simp
  | succ k ih =>
   intro n hn;rw[zDA];split
   ·rw[List.length_cons]
    have:=ih (n / 128) (by rw[Nat.pow_succ] at hn;exact Nat.div_lt_of_lt_mul (by rw[Nat.mul_comm];exact hn))
    omega
   ·simp
 exact key 9 n (Nat.lt_trans h (by decide))
theorem unkB_le(x:Tg):(unkB x).length<=20+(x.val.getD []).length:=by
 rw[unkB,tagB,List.length_append,List.length_append];have h1:(zDA (IntKind.u64.wrap x.key).toNat).length<=10:=Uv_le (by rw[IntKind.wrap_u64];omega);have h2:((x.val.getD []).take Most).length<=(x.val.getD []).length:=by rw[List.length_take];omega
 have h3:(zDA ((x.val.getD []).take Most).length).length<=10:=Uv_le (by rw[List.length_take];simp only[Most];omega);omega
theorem yFL:∀l:List Tg,((l.map unkB).flatten).length<=20*WU l
 | []=>by simp
 | x::l=>by
  have h1:=unkB_le x;have h2:=yFL l;have h3:WU (x::l)=(1+(x.val.getD []).length)+WU l:=by simp[WU]
  rw[List.map_cons,List.flatten_cons,List.length_append];omega
mutual
def cF:Fl->Nat
 | .mk k _ _ _ _ _ of sub=>if k=11 then 10+2*cV of (cS sub) else 1+cV k (cS sub)
def cS:Option (List Fl)->Nat
 | none=>30
 | some l=>cL l+30
def cL:List Fl->Nat
 | []=>0
 | f::r=>cF f+cL r
def cV(k:Int)(s:Nat):Nat:=if k=10 then s else 16
end
theorem yLE(x b:Bool){n k:Nat}(h:n<18446744073709551615)(hk:k<=4):(counted x b n k).length<=10:=by
 cases x <;> cases b <;> simp[counted,zQA]
 ·omega
 ·omega
 ·exact Uv_le (by omega)
theorem xVH(k:Int)(b x:Bool)(t:T)(p:List UInt8)(s:Nat)(hp:p.length<=s*(1+WT t)):(zXA k b x t p).length<=cV k s*(1+WT t):=by
 unfold zXA cV;have hw:=WT_S t;by_cases h10:k=10
 ·subst h10;simp only[show ¬((10:Int)=0) by decide,show ¬((10:Int)=7) by decide,show ¬((10:Int)=8) by decide,show ¬((10:Int)=9) by decide,if_true,if_false];exact hp
 rw[if_neg h10,if_neg h10];have hS:(if b then [] else t.S.take Most).length<=t.S.length/\(if b then [] else t.S.take Most).length<=32767:=by cases b <;> simp[Most] <;> omega
 by_cases h0:k=0
 ·rw[if_pos h0];simp;omega
 rw[if_neg h0];by_cases h7:k=7
 ·rw[if_pos h7,yAB];omega
 rw[if_neg h7];by_cases h8:k=8
 ·rw[if_pos h8]
  have:=yLE x b (n:=(if b then [] else t.S.take Most).length) (k:=2) (by omega) (by omega)
  simp only[List.length_append];omega
 rw[if_neg h8];by_cases h9:k=9
 ·rw[if_pos h9]
  have:=yLE x b (n:=(if b then [] else t.S.take Most).length) (k:=4) (by omega) (by omega)
  simp only[List.length_append];omega
 rw[if_neg h9,zQA]
 have:(qVC k).toNat<=8:=by
  unfold qVC
  repeat (first|decide|split)
 omega
theorem flat_W{A:Type}(g:A->List UInt8)(w:A->Nat)(c:Nat):∀l:List A,(∀y∈l,(g y).length<=c*(1+w y))->(∀y∈l,1<=w y)->((l.map g).flatten).length<=2*c*(l.map w).sum
 | [],_,_=>by simp
 | y::l,h,hw=>by
  have h1:=h y (by simp);have h2:=flat_W g w c l (fun z hz=>h z (by simp[hz])) (fun z hz=>hw z (by simp[hz]));have h3:=hw y (by simp);rw[List.map_cons,List.flatten_cons,List.length_append,List.map_cons,List.sum_cons,Nat.mul_add];have h4:c*(1+w y)<=2*c*w y:=by
   have:1+w y<=2*w y:=by omega
   calc c*(1+w y)<=c*(2*w y):=Nat.mul_le_mul_left _ this
    _=2*c*w y:=by rw[<- Nat.mul_assoc,Nat.mul_comm c 2]
  omega
theorem zYL(fs:Option (List Fl))(v:Int)(x:Bool)(t:T)(hp:zGC fs=true){c:Nat}(h:(outP (fs.getD []) v x t).length<=c*(1+WT t)):(zYA fs v x t).length<=(c+30)*(1+WT t):=by
 have hk:qBA (fs.getD [])=0:=by
  cases fs with
  | none=>rfl
  | some l=>exact qFD hp
 rw[Nat.add_mul];cases x with
 | false=>rw[xYC];omega
 | true =>
  rw[xFB,List.length_append,List.length_append];have e1:qSD (fs.getD []) v true t=[]:=by rw[qSD,hk];rfl
  rw[xJD,e1,List.nil_append,qUJ,List.length_map];have h1:=yFL (zUA (fs.getD []) t.u);have h2:=yEL (fs.getD []) t.u;have h3:=WT_U t;have h4:=zPC (fs.getD []) t.u;have h5:=Uv_le (n:=(zUA (fs.getD []) t.u).length) (by omega);have h6:WU (t.u.getD [])=WU t.U:=rfl;omega
mutual
theorem field_le:∀(f:Fl) (v:Int) (x:Bool) (t:T),xSD f=true->(field f v x t).length<=cF f*(1+WT t)
 | .mk k a b nl g df of sub,v,x,t,hp=>by
  obtain⟨_,_,_,hps⟩:=zFC hp;rw[zEB];simp only[Fl.kind,Fl.null,Fl.of,Fl.sub];generalize Mx.null (.mk k a b nl g df of sub) v t=bn;have hw:=zLK t;unfold yZB;rw[cF];by_cases h:k=11
  ·rw[if_pos h,if_pos h,List.length_append];have hl:(if bn then ([]:List T) else t.L.take Most).length<=32767:=by cases bn <;> simp[Most];omega
   have h1:=yLE x bn (n:=(if bn then ([]:List T) else t.L.take Most).length) (k:=4) (by omega) (by omega);have h2:=flat_W (fun y=>zXA of false x y (zYA sub v x y)) WT (cV of (cS sub)) (if bn then ([]:List T) else t.L.take Most) (fun y _=>xVH of false x y _ _ (xQG sub v x y hps)) (fun y _=>zLK y);have h3:((if bn then ([]:List T) else t.L.take Most).map WT).sum<=WT t:=by
    have:=WT_L t
    have:=qEG WT t.L Most
    cases bn
    ·simp only[Bool.false_eq_true,if_false];omega
    ·simp
   have h4:2*cV of (cS sub)*((if bn then ([]:List T) else t.L.take Most).map WT).sum<=2*cV of (cS sub)*WT t:=Nat.mul_le_mul_left _ h3;have e:(10+2*cV of (cS sub))*(1+WT t)=10*(1+WT t)+2*cV of (cS sub)*(1+WT t):=Nat.add_mul _ _ _;have e2:2*cV of (cS sub)*WT t<=2*cV of (cS sub)*(1+WT t):=Nat.mul_le_mul_left _ (by omega);have h2':((((if bn then ([]:List T) else t.L.take Most)).map fun y=>zXA of false x y (zYA sub v x y)).flatten).length<=2*cV of (cS sub)*((if bn then ([]:List T) else t.L.take Most).map WT).sum:=h2;have h5:((((if bn then ([]:List T) else t.L.take Most)).map fun x_1=>zXA of false x x_1 ((fun x_2=>zYA sub v x x_2) x_1)).flatten).length=((((if bn then ([]:List T) else t.L.take Most)).map fun y=>zXA of false x y (zYA sub v x y)).flatten).length:=rfl;simp only at *;omega
  ·rw[if_neg h,if_neg h];have h1:=xVH k bn x t (zYA sub v x t) (cS sub) (xQG sub v x t hps);have e:(1+cV k (cS sub))*(1+WT t)=(1+WT t)+cV k (cS sub)*(1+WT t):=by rw[Nat.add_mul,Nat.one_mul]
   split
   ·rename_i hc;have h2:(zYA sub v x t).length<=cV k (cS sub)*(1+WT t):=by rw[cV,if_pos hc.1];exact xQG sub v x t hps
    split
    ·rw[zQA];omega
    ·rw[List.length_append,zQA];omega
   ·refine Nat.le_trans h1 ?_;omega
theorem xQG:∀(fs:Option (List Fl)) (v:Int) (x:Bool) (t:T),zGC fs=true->(zYA fs v x t).length<=cS fs*(1+WT t)
 | none,v,x,t,hp=>by
  have h:=zYL (c:=0) none v x t hp (by simp[outP,mapI]);rw[cS];simpa using h
 | some l,v,x,t,hp=>by
  have hl:=zFH l v x t hp 0;have h:=zYL (some l) v x t hp hl;rw[cS];exact h
theorem zFH:∀(l:List Fl) (v:Int) (x:Bool) (t:T),yDB l=true -> ∀i,((mapI (fun i f=>yHC v (rowP v x t i f)) i l).flatten).length<=cL l*(1+WT t)
 | [],_,_,_,_,_=>by simp[mapI]
 | f::r,v,x,t,hp,i=>by
  simp only[yDB,Bool.and_eq_true] at hp;have h1:=field_le f v x (at' t i) hp.1;have h2:=zFH r v x t hp.2 (i+1);have h3:=WT_at t i;have h4:cF f*(1+WT (at' t i))<=cF f*(1+WT t):=Nat.mul_le_mul_left _ (by omega);have h5:(yHC v (rowP v x t i f)).length<=(field f v x (at' t i)).length:=by
   unfold yHC rowP;split
   ·exact Nat.le_refl _
   ·simp
  rw[mapI,List.flatten_cons,List.length_append,cL,Nat.add_mul];omega
end
theorem WU_wDs:∀(l:List Tg),(l.map fun x=>1+(x.val.getD []).length).sum<=wDs (l.map Tg.d)
 | []=>by simp
 | x::r=>by
  have h2:=WU_wDs r;have h1:1+(x.val.getD []).length<=wD x.d:=by
   rw[Tg.d,wD,wDs,wDs,wDs];cases x.val with
   | none=>simp[encB,wD]
   | some s=>simp only[encB,wD,Option.getD_some];omega
  rw[List.map_cons,List.sum_cons,List.map_cons,wDs];omega
mutual
theorem WT_wD:∀t:T,WT t<=wD t.d
 | .mk n s b l u=>by
  have h1:=WTo_wD l;rw[WT,T.d,wD,wDs,wDs,wDs,wDs,wDs,wDs];have h2:((u.getD []).map fun x=>1+(x.val.getD []).length).sum<=wD (encU u):=by
   cases u with
   | none=>simp
   | some u=>have:=WU_wDs u;rw[encU,wD];simp only[Option.getD_some];omega
  have h3:(s.getD []).length<=wD (encB s):=by
   cases s with
   | none=>simp
   | some s=>rw[encB,wD];simp
  have h4:wD (D.int n)=1:=rfl;omega
theorem WTo_wD:∀l:Option (List T),WTo l<=wD (encT l)
 | none=>by rw[WTo];exact Nat.zero_le _
 | some l=>by
  rw[WTo,encT,wD]
  have:=WTs_wD l
  omega
theorem WTs_wD:∀l:List T,WTl l<=wDs (tds l)
 | []=>by rw[WTl,tds,wDs];exact Nat.le_refl _
 | t::r=>by
  have h1:=WT_wD t;have h2:=WTs_wD r;rw[WTl,tds,wDs];omega
end
end Go.Mx
namespace Go.Mx
open Go Go.Dx
def verT(M:Msg):DE:=.f (.ext 58) [.v 0,.k (.int M.most)]
def wrT(M:Msg):DE:=.f (.ext 59) [qPJ M,verT M,.v 1]
def inT(M:Msg)(m:Nat):DE:=.f (.ext m) [verT M,wrT M]
def qKJ(M:Msg)(m:Nat):List Ob:=[.pre 44 [inT M m],.pre m [verT M,wrT M],.pre 59 [qPJ M,verT M,.v 1],.pre 58 [.v 0,.k (.int M.most)]]
end Go.Mx
namespace Go.Mx
open Go Go.Dx
theorem qUI(k:Int)(d:D):∀l:List (Int×D),(l.map (·.1)).Pairwise (· < ·)->((insM k d l).map (·.1)).Pairwise (· < ·) /\ ∀y∈insM k d l,y=(k,d)∨(y∈l/\y.1≠k)
 | [],_=>by simp[insM]
 | x::r,h=>by
  rw[List.map_cons] at h;obtain⟨h1,h2⟩:=List.pairwise_cons.1 h;have hx:∀y∈r,x.1<y.1:=fun y hy=>h1 _ (List.mem_map.2 ⟨y,hy,rfl⟩)
  obtain⟨i1,i2⟩:=qUI k d r h2;rw[insM];split
  ·rename_i hlt;refine⟨?_,fun y hy=>?_⟩
   ·rw[List.map_cons];refine List.pairwise_cons.2 ⟨fun z hz=>?_,i1⟩;obtain⟨y,hy,rfl⟩:=List.mem_map.1 hz;rcases i2 y hy with rfl|⟨hy,_⟩
    ·exact hlt
    ·exact hx y hy
   ·rcases List.mem_cons.1 hy with rfl|hy
    ·exact .inr ⟨by simp,by omega⟩
    ·rcases i2 y hy with h|⟨h,hn⟩
     ·exact .inl h
     ·exact .inr ⟨by simp[h],hn⟩
  ·split
   ·rename_i heq;refine⟨?_,fun y hy=>?_⟩
    ·rw[List.map_cons];exact List.pairwise_cons.2 ⟨fun z hz=>by rw[<- heq];exact h1 z hz,h2⟩
    ·rcases List.mem_cons.1 hy with rfl|hy
     ·exact .inl rfl
     ·exact .inr ⟨by simp[hy],by have:=hx y hy;omega⟩
   ·refine⟨?_,fun y hy=>?_⟩
    ·rw[List.map_cons,List.map_cons];refine List.pairwise_cons.2 ⟨fun z hz=>?_,List.pairwise_cons.2 ⟨h1,h2⟩⟩;rcases List.mem_cons.1 hz with rfl|hz
     ·show k<x.1;omega
     ·have:=h1 z hz;show k<z;omega
    ·rcases List.mem_cons.1 hy with rfl|hy
     ·exact .inl rfl
     ·refine .inr ⟨hy,?_⟩;rcases List.mem_cons.1 hy with rfl|hy
      ·omega
      ·have:=hx y hy;omega
theorem qSI(k:Int)(d:D):∀l:List (Int×D),(∀y∈l,y.1≠k)->((insM k d l).map (·.1)).Perm (k::l.map (·.1))
 | [],_=>by simp[insM]
 | x::r,h=>by
  rw[insM];split
  ·rw[List.map_cons,List.map_cons];exact((qSI k d r (fun y hy=>h y (by simp[hy]))).cons x.1).trans (List.Perm.swap _ _ _)
  ·rw[if_neg (h x (by simp))];exact List.Perm.refl _
theorem qTI(k:Int)(d:D):∀l:List (Int×D),(l.map (·.1)).Pairwise (· < ·)->(∃y∈l,y.1=k)->(insM k d l).map (·.1)=l.map (·.1)
 | [],_,h=>by obtain⟨y,hy,_⟩:=h;cases hy
 | x::r,h,hk=>by
  rw[List.map_cons] at h;obtain⟨h1,h2⟩:=List.pairwise_cons.1 h;obtain⟨y,hy,rfl⟩:=hk;rw[insM];rcases List.mem_cons.1 hy with rfl|hy
  ·rw[if_neg (by omega),if_pos rfl];rfl
  ·have hlt:x.1<y.1:=h1 _ (List.mem_map.2 ⟨y,hy,rfl⟩);rw[if_pos hlt,List.map_cons,List.map_cons,qTI y.1 d r h2 ⟨y,hy,rfl⟩]
section
variable {P:Program} {ok:Nat->Prop} {w:World} {m k e r:Nat} {ds:List (Int×D)} {clock:Nat} {es:Array MapEntry}
theorem zVF(hk:P.underlying k=some (.int .u32))(hkeys:(es.toList.map (·.key)).Perm (ds.map fun d=>Value.int .u32 d.1))(hkw:∀d∈ds,(Lit.int .u32 d.1).wf=true):∀x∈es.toList,∃d∈ds,x.key = .int .u32 d.1/\keyOf P k x.key=some (.int .u32 d.1):=by
 intro x hx;have h1:x.key∈ds.map fun d=>Value.int .u32 d.1:=hkeys.subset (List.mem_map.2 ⟨x,hx,rfl⟩)
 obtain⟨d,hd,he⟩:=List.mem_map.1 h1;refine⟨d,hd,he.symm,?_⟩;rw[<- he];exact Maps.keyOf_int_mk hk (hkw d hd)
theorem zVJ{A:Type}{l:List A}{j:Nat}{a:A}(h:l[j]? = some a):l.set j a=l:=by
 apply List.ext_getElem (by simp);intro i h1 h2;rw[List.getElem_set];split
 ·rename_i e;subst e;exact(List.getElem?_eq_some_iff.1 h).2.symm
 ·rfl
theorem zYI{A:Type}(es:Array A)(j:Nat)(e0:A)(f:A->A)(h:es.toList[j]? = some e0):(es.modify j f).toList=es.toList.set j (f e0):=by
 rw[Array.toList_modify,ChangeMaps.modify_eq_set _ _ _ _ h]
theorem tags_update{n:Int}{v:Value}{dv:D}(h:TagsAt P ok w m (.map (some r)) (.map ds))(hm:P.underlying m=some (.map k e))(hn:(Lit.int .u32 n).wf=true)(hv:Rep P ok w e v dv) :
  ∃es' clock',(Instr.mapUpdate m (.map (some r)) (.int .u32 n) v).run P w = .ok () (ChangeMaps.setBlock w r (.map es' clock')) /\
   ∀(ok':Nat->Prop) (w':World),w'.heap[r]? = some (.map es' clock')->(∀b,ok b->ok' b/\w'.heap[b]? = w.heap[b]?)->TagsAt P ok' w' m (.map (some r)) (.map (insM n dv ds)):=by
 cases h with
 | map hu hk hh hkeys hkw hs hborn hclock hr =>
  rw[hm] at hu;cases hu
  rename_i clock es;have K:=Maps.int_keyed hk;have hkey:=Maps.keyOf_int_mk hk hn;have hkr:=zVF hk hkeys hkw;obtain⟨s1,s2⟩:=qUI n dv ds hs;have hin:∀d'∈ds,d'.1≠n->True:=fun _ _ _=>trivial
  rcases K.find w hkey es.toList (fun x hx=>by obtain⟨d,_,_,h⟩:=hkr x hx;exact⟨_,h⟩) with⟨h1,h2⟩|⟨j,e0,h1,h2,h3⟩
  ·refine⟨es.push ⟨.int .u32 n,v,clock⟩,clock+1,?_,fun ok' w' hw' hok'=>?_⟩
   ·simp[Instr.mapUpdate,run_underlying hm,Go.MapKept.run_getObj_map hh,K.check w false hkey,h1,Go.MapKept.run_setObj_map _ hh,Result.andThen,ChangeMaps.setBlock]
   ·have hnew:∀y∈ds,y.1≠n:=fun y hy he=>by
     have:Value.int .u32 n∈es.toList.map (·.key):=hkeys.symm.subset (List.mem_map.2 ⟨y,hy,by rw[he]⟩)
     obtain⟨x,hx,hxe⟩:=List.mem_map.1 this;exact h2 x hx hxe
    refine .map hm hk hw' ?_ (fun d hd=>?_) s1 ?_ ?_ ?_
    ·have hp:=(qSI n dv ds hnew).map (fun i=>Value.int .u32 i);rw[List.map_map] at hp;have e1:(ds.map fun d=>Value.int .u32 d.1)=(ds.map (·.1)).map (fun i=>Value.int .u32 i):=by rw[List.map_map];rfl
     simp only[Array.toList_push,List.map_append,List.map_cons,List.map_nil];refine List.Perm.trans ?_ hp.symm;rw[List.map_cons,<- e1];exact(hkeys.append_right _).trans (List.perm_append_singleton _ _)
    ·rcases s2 d hd with rfl|⟨hd,_⟩
     ·exact hn
     ·exact hkw d hd
    ·simp only[Array.toList_push,List.map_append,List.map_cons,List.map_nil];refine List.nodup_append.2 ⟨hborn,by simp,fun a ha b hb=>?_⟩;obtain⟨x,hx,rfl⟩:=List.mem_map.1 ha;rw[List.mem_singleton] at hb
     have:=hclock x hx
     omega
    ·intro x hx;simp only[Array.toList_push,List.mem_append,List.mem_singleton] at hx;rcases hx with hx|rfl
     ·have:=hclock x hx;omega
     ·show clock<clock+1;omega
    ·intro x hx n' d' hxn hd';simp only[Array.toList_push,List.mem_append,List.mem_singleton] at hx;rcases hx with hx|rfl
     ·have hne:n'≠n:=fun e1=>h2 x hx (by rw[hxn,e1])
      rcases s2 _ hd' with h4|⟨h4,_⟩
      ·cases h4;exact absurd rfl hne
      ·exact(hr x hx n' d' hxn h4).mono (fun b hb=>(hok' b hb).1) (fun b hb=>(hok' b hb).2)
     ·have hxn:Value.int .u32 n = .int .u32 n':=hxn;cases hxn;rcases s2 _ hd' with h4|⟨_,h4⟩
      ·cases h4;exact hv.mono (fun b hb=>(hok' b hb).1) (fun b hb=>(hok' b hb).2)
      ·exact absurd rfl h4
  ·have hj:es[j]? = some e0:=by simpa using h2
   have hlist:(es.modify j (fun e'=>{ e' with key:=.int .u32 n,val:=v })).toList=es.toList.set j { e0 with key:=.int .u32 n,val:=v }:=zYI es j e0 _ h2;have hjl:j<es.toList.length:=(List.getElem?_eq_some_iff.1 h2).1;have hkeyS:(es.toList.set j { e0 with key:=.int .u32 n,val:=v }).map (·.key)=es.toList.map (·.key):=by
    rw[List.map_set];exact zVJ (by rw[List.getElem?_map,h2];simp[h3])
   have hbornS:(es.toList.set j { e0 with key:=.int .u32 n,val:=v }).map (·.born)=es.toList.map (·.born):=by
    rw[List.map_set];exact zVJ (by rw[List.getElem?_map,h2];rfl)
   have hold:∃y∈ds,y.1=n:=by
    obtain⟨d,hd,he,_⟩:=hkr e0 (List.mem_of_getElem? h2);rw[h3] at he;cases he;exact⟨d,hd,rfl⟩
   refine⟨es.modify j (fun e'=>{ e' with key:=.int .u32 n,val:=v }),clock,?_,fun ok' w' hw' hok'=>?_⟩
   ·simp[Instr.mapUpdate,run_underlying hm,Go.MapKept.run_getObj_map hh,K.check w false hkey,h1,hj,h3,K.stays w hkey,Go.MapKept.run_setObj_map _ hh,Result.andThen,ChangeMaps.setBlock]
   ·refine .map hm hk hw' ?_ (fun d hd=>?_) s1 ?_ ?_ ?_
    ·rw[hlist,hkeyS];have e1:(ds.map fun d=>Value.int .u32 d.1)=(ds.map (·.1)).map (fun i=>Value.int .u32 i):=by rw[List.map_map];rfl
     have e2:((insM n dv ds).map fun d=>Value.int .u32 d.1)=((insM n dv ds).map (·.1)).map (fun i=>Value.int .u32 i):=by rw[List.map_map];rfl
     rw[e2,qTI n dv ds hs hold,<- e1];exact hkeys
    ·rcases s2 d hd with rfl|⟨hd,_⟩
     ·exact hn
     ·exact hkw d hd
    ·rw[hlist,hbornS];exact hborn
    ·intro x hx
     have:x.born∈es.toList.map (·.born):=by
      rw[<- hbornS];rw[hlist] at hx;exact List.mem_map.2 ⟨x,hx,rfl⟩
     obtain⟨y,hy,hye⟩:=List.mem_map.1 this;rw[<- hye];exact hclock y hy
    ·intro x hx n' d' hxn hd';rw[hlist] at hx;obtain⟨i,hi,hxi⟩:=List.mem_iff_getElem.1 hx;rw[List.getElem_set] at hxi;split at hxi
     ·subst hxi;have hxn:Value.int .u32 n = .int .u32 n':=hxn;cases hxn;rcases s2 _ hd' with h4|⟨_,h4⟩
      ·cases h4;exact hv.mono (fun b hb=>(hok' b hb).1) (fun b hb=>(hok' b hb).2)
      ·exact absurd rfl h4
     ·rename_i hne;have hil:i<es.toList.length:=by rw[List.length_set] at hi;exact hi
      have hxm:x∈es.toList:=hxi▸List.getElem_mem hil;have hne2:n'≠n:=fun e1=>by
       have hnd:(es.toList.map (·.key)).Nodup:=by
        refine hkeys.nodup_iff.2 ?_
        have:(ds.map (·.1)).Nodup:=hs.imp (fun {a b} h=>by omega)
        have e1:(ds.map fun d=>Value.int .u32 d.1)=(ds.map (·.1)).map (fun i=>Value.int .u32 i):=by rw[List.map_map];rfl
        rw[e1];exact List.Pairwise.map _ (fun a b (hab:a≠b) hc=>hab (by cases hc;rfl)) this
       have hi2:i<(es.toList.map (·.key)).length:=by rw[List.length_map];exact hil
       have hj2:j<(es.toList.map (·.key)).length:=by rw[List.length_map];exact hjl
       have:(es.toList.map (·.key))[i]=(es.toList.map (·.key))[j]:=by
        rw[List.getElem_map,List.getElem_map,hxi,hxn,e1]
        have:=(List.getElem?_eq_some_iff.1 h2).2
        rw[this,h3]
       exact hne ((List.getElem_inj hnd).1 this).symm
      rcases s2 _ hd' with h4|⟨h4,_⟩
      ·cases h4;exact absurd rfl hne2
      ·exact(hr x hxm n' d' hxn h4).mono (fun b hb=>(hok' b hb).1) (fun b hb=>(hok' b hb).2)
end
end Go.Mx
namespace Go.Mx
open Go Go.Dx
def boxS(tb nt:Nat):St:={ env:=[(0,.i .u32 (.v 0)),(1,.x 1),(2,.oa 0 0)],vars:=[(1,⟨.set tb,.v 1⟩),(2,⟨.own tb,.v 2⟩)],objs:=[(0,[.x 2])],loops:=[],obl:=[],lvl:=3,nx:=3,nt:=nt }
noncomputable def boxOut(tb:Nat)(de:DE)(os:List Ob):List Out->Bool
 | [o]=>qSE [o]&&o.pc.isEmpty&&qOC o.st.obl os&&(match lk 0 o.st.objs with
  | some [.x m]=>(match lk m o.st.vars with
   | some ⟨.own t,d⟩=>decide (t=tb)&&d.beq de
   | _=>false)
  | _=>false)
 | _=>false
noncomputable def boxRun(C:Cfg)(tb f:Nat)(de:DE)(os:List Ob):Bool :=
 match C.P.funcs[f]? with
 | some fn=>match fn.body with
  | some body=>fn.results.isEmpty&&decide (3<=fn.ntmps)&&(match exec C 100000 8 [body] (boxS tb fn.ntmps) with
   | some outs=>boxOut tb de os outs
   | none=>false)
  | none=>false
 | none=>false
section
variable {C:Cfg} {ok:Nat->Prop} {w:World} {tb f B ty:Nat} {key:Int} {v vv:Value} {dv acc:D} {de:DE} {os:List Ob}
theorem box_mem{nt:Nat}(hnt:3<=nt)(hB:w.heap[B]? = some (.cells #[v] ty (0,0)))(hown:yQA C.P ok w tb v acc)(hval:Rep C.P ok w tb vv dv)(hkey:(Lit.int .u32 key).wf=true)(hone:v.oneCell'=true)
  (hok:∀b,ok b->b<w.heap.size/\b≠B/\v.ownBlock≠some b) (hvB:v.ownBlock≠some B) :
  Mem C.P X ⟨w,fun b=>b=B∨v.ownBlock=some b,fun b=>b<w.heap.size /\ ¬ok b /\ ¬(b=B∨v.ownBlock=some b)⟩ [.int key,dv,acc] (boxS tb nt) { rv:=fun i=>if i=1 then vv else v,rb:=fun _=>B,rh:=fun _=>(0,0),ex:=fun b=>b<w.heap.size /\ ¬ok b /\ ¬(b=B∨v.ownBlock=some b) } w /\
   Env X [.int key,dv,acc] (boxS tb nt) { rv:=fun i=>if i=1 then vv else v,rb:=fun _=>B,rh:=fun _=>(0,0),ex:=fun b=>b<w.heap.size /\ ¬ok b /\ ¬(b=B∨v.ownBlock=some b) } { tmps:=#[.int .u32 key,vv,.pointer (some ⟨B,0,none⟩)]++Array.replicate (nt-3) undef,defers:=[] }:=by
 have hvars:∀n vi,lk n (boxS tb nt).vars=some vi->(n=1/\vi=⟨.set tb,.v 1⟩)∨(n=2/\vi=⟨.own tb,.v 2⟩):=fun n vi hn=>by
  simp only[boxS,lk] at hn;split at hn
  ·rename_i h;rw[beq_iff_eq] at h;cases hn;exact .inl ⟨h,rfl⟩
  ·split at hn
   ·rename_i h;rw[beq_iff_eq] at h;cases hn;exact .inr ⟨h,rfl⟩
   ·cases hn
 have hobjs:∀o cs,lk o (boxS tb nt).objs=some cs->o=0/\cs=[.x 2]:=fun o cs ho=>by
  simp only[boxS,lk] at ho;split at ho
  ·rename_i h;rw[beq_iff_eq] at h;cases ho;exact⟨h,rfl⟩
  ·cases ho
 have hact:∀b,Actv (boxS tb nt) { rv:=fun i=>if i=1 then vv else v,rb:=fun _=>B,rh:=fun _=>(0,0),ex:=fun b=>b<w.heap.size /\ ¬ok b /\ ¬(b=B∨v.ownBlock=some b) } b->b=B∨v.ownBlock=some b:=by
  rintro b (⟨o,cs,h1,h2⟩|⟨n,vi,h1,h2⟩)
  ·exact .inl h2.symm
  ·rcases hvars n vi h1 with⟨rfl,rfl⟩|⟨rfl,rfl⟩
   ·simp[zJA] at h2
   ·exact .inr h2
 have hokS:∀b,ok b->okOf (boxS tb nt) { rv:=fun i=>if i=1 then vv else v,rb:=fun _=>B,rh:=fun _=>(0,0),ex:=fun b=>b<w.heap.size /\ ¬ok b /\ ¬(b=B∨v.ownBlock=some b) } w b:=fun b hb=>by
  obtain⟨h1,h2,h3⟩:=hok b hb;exact⟨h1,fun e=>by rcases hact b e with h|h;exact h2 h;exact h3 h,fun e=>e.2.1 hb⟩
 refine⟨⟨fun n vi hn=>?_,fun o cs ho=>?_,fun o o' c c' h1 h2 _=>by rw[(hobjs o c h1).1,(hobjs o' c' h2).1],fun n m vi vj b h1 h2 h3 h4=>?_,fun o n c vi h1 h2 h3=>?_,fun b hb=>.inr (hact b hb),fun l hl=>by simp[boxS] at hl,Fr.refl _ w,rfl,⟨fun b hb=>⟨hb.1,hb.2.2⟩,fun b hb=>hb⟩⟩,⟨fun s sv hs=>?_,rfl,by simp[boxS];omega⟩⟩
 ·rcases hvars n vi hn with⟨rfl,rfl⟩|⟨rfl,rfl⟩
  ·exact hval.mono hokS (fun _ _=>rfl)
  ·exact hown.mono hokS (fun _ _=>rfl) (fun _ _=>rfl)
 ·obtain⟨rfl,rfl⟩:=hobjs o cs ho;exact⟨⟨ty,hB⟩,fun u hu=>by simp[dens,SV.den] at hu;subst hu;exact hone,trivial,trivial⟩
 ·rcases hvars n vi h1 with⟨rfl,rfl⟩|⟨rfl,rfl⟩
  ·simp[zJA] at h3
  ·rcases hvars m vj h2 with⟨rfl,rfl⟩|⟨rfl,rfl⟩
   ·simp[zJA] at h4
   ·rfl
 ·rcases hvars n vi h2 with⟨rfl,rfl⟩|⟨rfl,rfl⟩
  ·simp[zJA] at h3
  ·exact hvB h3
 ·simp only[boxS,lk] at hs;split at hs
  ·rename_i h;rw[beq_iff_eq] at h;cases hs;subst h
   exact⟨(Array.getElem?_append_left (by simp)).trans rfl,key,rfl,hkey⟩
  ·split at hs
   ·rename_i h;rw[beq_iff_eq] at h;cases hs;subst h
    exact⟨(Array.getElem?_append_left (by simp)).trans rfl,trivial⟩
   ·split at hs
    ·rename_i h;rw[beq_iff_eq] at h;cases hs;subst h
     exact⟨(Array.getElem?_append_left (by simp)).trans rfl,trivial⟩
    ·cases hs
theorem box_calls(hnm:xJA C.P)(hord:C.P.follows .mixedOrders=true)(hctr:∀f c,C.ctr f=some c->qRA C.P X side f c)(hrun:boxRun C tb f de os=true)(h8:isBy C.P tb=true)
  (hB:w.heap[B]? = some (.cells #[v] ty (0,0))) (hown:yQA C.P ok w tb v acc) (hval:Rep C.P ok w tb vv dv) (hkey:(Lit.int .u32 key).wf=true)
  (hok:∀b,ok b->b<w.heap.size/\b≠B/\v.ownBlock≠some b) (hvB:v.ownBlock≠some B) (hob:zCA X side os [.int key,dv,acc]) :
  Calls C.P f #[.int .u32 key,vv,.pointer (some ⟨B,0,none⟩)] w fun e w'=>e = .returned (.tuple #[])/\Fr (fun b=>b=B∨v.ownBlock=some b) w w' /\
   ∃v' ty',w'.heap[B]? = some (.cells #[v'] ty' (0,0))/\v'.ownBlock≠some B/\(∀b,v'.ownBlock=some b->b<w'.heap.size/\(w.heap.size<=b∨v.ownBlock=some b)) /\ ∀ok',yQA C.P ok' w' tb v' (de.eval X [.int key,dv,acc]):=by
 unfold boxRun at hrun;split at hrun
 rotate_left
 ·cases hrun
 rename_i fn hf;split at hrun
 rotate_left
 ·cases hrun
 rename_i body hbody;simp only[Bool.and_eq_true,decide_eq_true_eq] at hrun;obtain⟨⟨hres,hnt⟩,hrun⟩:=hrun;split at hrun
 rotate_left
 ·cases hrun
 rename_i outs houts;unfold boxOut at hrun;split at hrun
 rotate_left
 ·cases hrun
 rename_i o;simp only[Bool.and_eq_true] at hrun;obtain⟨⟨⟨hret,hpc⟩,hobl⟩,hfin⟩:=hrun;have hpc:o.pc=[]:=by simpa using hpc
 have hobl:=xTB hobl;split at hfin
 rotate_left
 ·cases hfin
 rename_i m hobj;split at hfin
 rotate_left
 ·cases hfin
 rename_i t d hvar;simp only[Bool.and_eq_true,decide_eq_true_eq] at hfin;obtain⟨rfl,hd⟩:=hfin;have hd:=DE.beq_eq hd;subst hd;have hone:v.oneCell'=true:=by
  obtain⟨e,i,n,xs,hu,hi,⟨_,hr⟩,_⟩:=hown;rcases hr with⟨rfl,_⟩|⟨b,cap,cur,rfl,_⟩ <;> rfl
 obtain⟨hm,he⟩:=box_mem (C:=C) hnt hB hown hval hkey hone hok hvB;have hsound:=yPE hnm hord hctr 100000 8;refine calls_of_wp hf hbody (zWA ?_);refine hsound.sound _ _ [body] _ [o] _ w _ hm he houts (fun o' ho' _=>?_) _ (fun o' ho' _ g' w' a' k1 k2 k3=>?_)
 ·rw[List.mem_singleton] at ho';subst ho'
  rw[hobl];exact hob
 ·rw[List.mem_singleton] at ho';subst ho'
  have hfr:Fr (fun b=>b=B∨v.ownBlock=some b) w w':=k2.fr;have hobO:=k2.ob 0 _ hobj;obtain⟨⟨ty',hcell⟩,_,_⟩:=hobO;have hrb:g'.rb 0=B:=(k1.rb 0 _ rfl).2;rw[hrb] at hcell;have hownv:yQA C.P (okOf o'.st g' w') w' t (g'.rv m) (d.eval X [.int key,dv,acc]):=k2.va m _ hvar;obtain⟨e,hu,hue⟩:=zII h8;have hou:∀ok',yQA C.P ok' w' t (g'.rv m) (d.eval X [.int key,dv,acc]):=fun ok'=>hownv.u8 hu (by simp[isU8,hue])
  have hres0:fn.results = #[]:=by simpa using hres
  have hrun:(results fn a'.tmps).run C.P w' = .ok (.tuple #[]) w':=by
   simp[results,hres0]
  have hpost:a'.defers=[] /\ ∃v1,(results fn a'.tmps).run C.P w' = .ok v1 w'/\(Ending.returned v1 = .returned (.tuple #[])/\Fr (fun b=>b=B∨v.ownBlock=some b) w w' /\
    ∃v' ty',w'.heap[B]? = some (.cells #[v'] ty' (0,0))/\v'.ownBlock≠some B/\(∀b,v'.ownBlock=some b->b<w'.heap.size/\(w.heap.size<=b∨v.ownBlock=some b)) /\ ∀ok',yQA C.P ok' w' t v' (d.eval X [.int key,dv,acc])):=by
   refine⟨k3.df,_,hrun,rfl,hfr,g'.rv m,ty',hcell,?_,fun b hb=>?_,hou⟩
   ·intro e1;exact k2.ov 0 m _ _ hobj hvar (by rw[hrb];exact e1)
   ·have hA:Actv o'.st g' b:=.inr ⟨m,_,hvar,hb⟩;refine⟨k2.act_lt hA,?_⟩;rcases k2.lo b hA with h|h
    ·exact .inl h
    ·rcases h with rfl|h
     ·exact absurd hb (fun e1=>k2.ov 0 m _ _ hobj hvar (by rw[hrb];exact e1))
     ·exact .inr h
  rcases qZC hret o' (by simp) with hx|hx
  ·rw[hx];exact hpost
  ·rw[hx];exact hpost
end
end Go.Mx
namespace Go.Mx
open Go Go.Dx
def qNJ(v:Value):Option (DataW Value×List MemPlace):=some (.held v,[])
section
variable {P:Program} {ok:Nat->Prop} {w:World} {m k e r:Nat} {ds:List (Int×D)}
theorem zRL:∀(l:List Int) (lo hi:Int),l.Pairwise (· < ·)->(∀x∈l,lo<=x/\x<hi)->lo<=hi->(l.length:Int)<=hi-lo
 | [],lo,hi,_,_,h=>by simp;omega
 | x::l,lo,hi,hp,hb,h=>by
  obtain⟨h1,h2⟩:=List.pairwise_cons.1 hp;have hx:=hb x (by simp)
  have:=zRL l (x+1) hi h2 (fun y hy=>⟨by have:=h1 y hy;omega,(hb y (by simp[hy])).2⟩) (by omega)
  simp only[List.length_cons];omega
theorem tags_few(hs:(ds.map (·.1)).Pairwise (· < ·))(hw:∀d∈ds,(Lit.int .u32 d.1).wf=true):ds.length<=4294967296:=by
 have:=zRL (ds.map (·.1)) 0 4294967296 hs (fun x hx=>by
  obtain⟨d,hd,rfl⟩:=List.mem_map.1 hx
  have:=hw d hd
  simp[Lit.wf,IntKind.min,IntKind.max,IntKind.signed,IntKind.bits] at this;omega) (by omega)
 rw[List.length_map] at this;omega
theorem qWJ(h:TagsAt P ok w m (.map (some r)) (.map ds)):(ds.map (·.1)).Pairwise (· < ·)/\(∀d∈ds,(Lit.int .u32 d.1).wf=true)/\ds.length<=4294967296:=by
 cases h with
 | map hu hk hh hkeys hkw hs hborn hclock hr=>exact⟨hs,hkw,tags_few hs hkw⟩
theorem tags_owns(h:TagsAt P ok w m (.map (some r)) (.map ds))(hm:P.underlying m=some (.map k e)):∃D:DataW Value,w.ownsMap P k qNJ r ds.length D/\Maps.size D=ds.length /\ ∀x,x∈ds.map (·.1)↔Maps.has D (.int .u32 x)=true:=by
 obtain⟨_,_,hfew⟩:=qWJ h;cases h with
 | map hu hk hh hkeys hkw hs hborn hclock hr =>
  rw[hm] at hu;cases hu
  rename_i clock es;have hsz:es.size=ds.length:=by
   have:=hkeys.length_eq
   simpa using this
  have hkr:=zVF hk hkeys hkw;have hnd:(es.toList.map (·.key)).Nodup:=by
   refine hkeys.nodup_iff.2 ?_
   have:(ds.map (·.1)).Nodup:=hs.imp (fun {a b} h=>by omega)
   have e1:(ds.map fun d=>Value.int .u32 d.1)=(ds.map (·.1)).map (fun i=>Value.int .u32 i):=by rw[List.map_map];rfl
   rw[e1];exact List.Pairwise.map _ (fun a b (hab:a≠b) hc=>hab (by cases hc;rfl)) this
  have hrd:∀x∈es.toList,∀d,x.key = .int .u32 d->(Lit.int .u32 d).wf=true->WideElems.rd P k qNJ x=some (.int .u32 d,.held x.val):=fun x hx d hd hw=>by
   have:keyOf P k x.key=some (.int .u32 d):=by rw[hd];exact Maps.keyOf_int_mk hk hw
   simp[WideElems.rd,this,qNJ]
  have F:WideElems.Fit P k qNJ es clock:=by
   refine⟨by rw[hsz];unfold maxLen;omega,(MapKept.stamped_iff es clock).2 ⟨hclock,hborn,List.pairwise_map.1 hnd⟩,fun x hx=>?_⟩;obtain⟨d,hd,he,_⟩:=hkr x hx;exact⟨_,hrd x hx d.1 he (hkw d hd)⟩
  refine⟨_,⟨es,clock,hh,F,by rw[hsz];exact Nat.le_refl _,rfl⟩,by simp[Maps.size,length_sorted,hsz],fun x=>?_⟩;have hrg:∀y∈es.toList,∀d,y.key = .int .u32 d->(Lit.int .u32 d).wf=true->(WideElems.rg P k qNJ y).1 = .int .u32 d:=fun y hy d hd hw=>by
   rw[WideElems.rg_of (hrd y hy d hd hw)]
  rw[Maps.has_eq,List.any_eq_true];constructor
  ·intro hx;obtain⟨d,hd,rfl⟩:=List.mem_map.1 hx
   have:Value.int .u32 d.1∈es.toList.map (·.key):=hkeys.symm.subset (List.mem_map.2 ⟨d,hd,rfl⟩)
   obtain⟨y,hy,hye⟩:=List.mem_map.1 this;refine⟨WideElems.rg P k qNJ y,mem_sorted.2 (List.mem_map.2 ⟨y,hy,rfl⟩),?_⟩;rw[hrg y hy d.1 hye (hkw d hd)];exact WideAt.sameKey_self trivial
  ·rintro⟨p,hp,hpk⟩;obtain⟨y,hy,rfl⟩:=List.mem_map.1 (mem_sorted.1 hp);obtain⟨d,hd,he,_⟩:=hkr y hy;rw[hrg y hy d.1 he (hkw d hd)] at hpk
   have:=WideAt.sameKey_eq hpk
   cases this;exact List.mem_map.2 ⟨d,hd,rfl⟩
theorem tags_lookup{n:Int}{d:D}(h:TagsAt P ok w m (.map (some r)) (.map ds))(hm:P.underlying m=some (.map k e))(hn:(n,d)∈ds) :
  ∃v,Rep P ok w e v d /\ ∀w':World,w'.heap[r]? = w.heap[r]? -> (Instr.lookup m (.map (some r)) (.int .u32 n) false).run P w' = .ok v w':=by
 cases h with
 | map hu hk hh hkeys hkw hs hborn hclock hr =>
  rw[hm] at hu;cases hu
  rename_i clock es;have K:=Maps.int_keyed hk;have hkey:=Maps.keyOf_int_mk hk (hkw _ hn);have hkr:=zVF hk hkeys hkw;have hmem:Value.int .u32 n∈es.toList.map (·.key):=hkeys.symm.subset (List.mem_map.2 ⟨(n,d),hn,rfl⟩);obtain⟨y,hy,hye⟩:=List.mem_map.1 hmem;have hfind:=fun w'=>K.find w' hkey es.toList (fun x hx=>by obtain⟨d,_,_,h⟩:=hkr x hx;exact⟨_,h⟩)
  refine⟨y.val,hr y hy n d hye hn,fun w' hw'=>?_⟩;rcases hfind w' with⟨_,h2⟩|⟨j,e0,h1,h2,h3⟩
  ·exact absurd hye (h2 y hy)
  ·have hnd:(es.toList.map (·.key)).Nodup:=by
    refine hkeys.nodup_iff.2 ?_
    have:(ds.map (·.1)).Nodup:=hs.imp (fun {a b} h=>by omega)
    have e1:(ds.map fun d=>Value.int .u32 d.1)=(ds.map (·.1)).map (fun i=>Value.int .u32 i):=by rw[List.map_map];rfl
    rw[e1];exact List.Pairwise.map _ (fun a b (hab:a≠b) hc=>hab (by cases hc;rfl)) this
   have hje:y=e0:=by
    obtain⟨i,hi,hyi⟩:=List.mem_iff_getElem.1 hy;have hj:=(List.getElem?_eq_some_iff.1 h2).1;have hje0:=(List.getElem?_eq_some_iff.1 h2).2
    have:(es.toList.map (·.key))[i]'(by rw[List.length_map];exact hi)=(es.toList.map (·.key))[j]'(by rw[List.length_map];exact hj):=by
     rw[List.getElem_map,List.getElem_map,hyi,hje0,hye,h3]
    have hij:=(List.getElem_inj hnd).1 this;subst hij;rw[<- hyi,<- hje0]
   subst hje;simp[Instr.lookup,run_underlying hm,Go.MapKept.run_getObj_map (hw'.trans hh),K.check w' _ hkey,h1,Result.andThen]
end
def de84:DE:=.f .app [.f (.ext 10) [.f (.ext 10) [.v 2,.v 0],.f (.wrap .u32) [.f .len [.v 1]]],.v 1]
def os84:List Ob:=[.room de84 1,.pre 10 [.f (.ext 10) [.v 2,.v 0],.f (.wrap .u32) [.f .len [.v 1]]],.pre 10 [.v 2,.v 0]]
def tb(y:Int×D):List UInt8:=tagB y.1.toNat y.2.asStr
theorem ev84{key:Int}{val:Option (List UInt8)}{acc:D}(h0:0<=key)(hl:(val.getD []).length<4294967296)(hlen:acc.asStr.length+(tagB key.toNat (val.getD [])).length<=lim) :
  zCA X side os84 [.int key,encB val,acc]/\de84.eval X [.int key,encB val,acc]=appD acc (tb (key,encB val)):=by
 have e1:(DE.f (.ext 10) [.v 2,.v 0]).eval X [.int key,encB val,acc]=app acc (zDA key.toNat):=by
  simp only[ev_f,zAA,zBA,ev_v,List.getD_cons_zero,List.getD_cons_succ,zIA,X_10,zOA]
 have e2:(DE.f (.wrap .u32) [.f .len [.v 1]]).eval X [.int key,encB val,acc] = .int ((val.getD []).length:Nat):=by
  simp only[ev_f,zAA,zBA,ev_v,List.getD_cons_zero,List.getD_cons_succ,yCA,zLA,yRA];rw[yXB (by omega) (by omega)]
 have e3:(DE.f (.ext 10) [.f (.ext 10) [.v 2,.v 0],.f (.wrap .u32) [.f .len [.v 1]]]).eval X [.int key,encB val,acc]=app acc (zDA key.toNat++zDA (val.getD []).length):=by
  rw[ev_f,zAA,zAA,zBA,e1,e2,zIA,X_10,zOA,Int.toNat_natCast];simp[app,D.asStr]
 have e4:de84.eval X [.int key,encB val,acc]=appD acc (tb (key,encB val)):=by
  rw[de84,ev_f,zAA,zAA,zBA,e3,ev_v,List.getD_cons_succ,List.getD_cons_zero,yYA,app_b,tb,xDA,tagB];exact yZA (xSA (xSA qLC))
 have hpos:0<(tagB key.toNat (val.getD [])).length:=by rw[tagB];exact xSA (xSA qLC)
 have hd:(de84.eval X [.int key,encB val,acc]).len<=lim:=by
  rw[e4,tb,xDA,yIG _ hpos];exact hlen
 rw[tagB,List.length_append,List.length_append] at hlen;refine⟨⟨?_,?_,?_,trivial⟩,e4⟩
 ·exact yUB hd
 ·simp only[Ob.holds];rw[zAA,zAA,zBA,e1,e2,qAG,X_10,yKG,zOA,Int.toNat_natCast]
  have:(app acc (zDA key.toNat)).asStr=acc.asStr++zDA key.toNat:=rfl
  rw[this,List.length_append];omega
 ·simp only[Ob.holds,zAA,zBA,ev_v,List.getD_cons_zero,List.getD_cons_succ];rw[qAG,X_10,yKG,zOA];omega
theorem X_25'(m o:D):X 25 [m,o]=appD o ((mapL m).map tb).flatten:=by
 rw[X_25];cases hm:mapL m with
 | nil=>rfl
 | cons a l =>
  rw[if_neg (by simp)];refine yZA ?_;rw[List.map_cons,List.flatten_cons];refine xSA ?_;show 0<(tagB a.1.toNat a.2.asStr).length;rw[tagB];exact xSA (xSA qLC)
end Go.Mx
namespace Go.Mx
open Go Go.Dx
def sp67:DE:=.f (.get 0) [.f (.ext 71) [.v 0,.k (.int 16)]]
def cE67(j:Nat):DE:=.f .ite [.f .ltI [.k (.int j),.f .len [sp67]],.f (.get 0) [.f .at [sp67,.k (.int j)]],.k (.int 0)]
def deR67:DE:=.f .mkrow [.f .mkrow ((List.range 16).map cE67),.f (.get 1) [.f (.ext 71) [.v 0,.k (.int 16)]],.k (.bool false)]
def obR67:List Ob:=[.pre 71 [.v 0,.k (.int 16)]]
theorem evR67(ds:List D)(hk:KsOk [.byts] ds)(h:side 67 ds):zCA X side obR67 ds/\deR67.eval X ds=X 67 ds:=by
 obtain⟨s,rfl⟩:=ks1 hk;rw[side_67] at h;obtain⟨b,rfl,hl⟩:=h;have e71:(DE.f (.ext 71) [.v 0,.k (.int 16)]).eval X [.bytes b]=rowR (.bytes (b.take 16)) (b.drop 16):=by
  rw[ev_f,zAA,zAA,zBA,ev_v,ev_k,List.getD_cons_zero,zIA,X_71,zZA];rfl
 have esp:sp67.eval X [.bytes b] = .bytes (b.take 16):=by
  unfold sp67;rw[ev_f,zAA,zBA,e71,xWA]
 have hlen:(b.take 16).length=16:=by rw[List.length_take];omega
 have ec:∀j:Nat,j<16->(cE67 j).eval X [.bytes b] = .int ((b.take 16).getD j 0).toNat:=fun j hj=>by
  unfold cE67;have hg:(b.take 16)[((j:Nat):Int).toNat]? = some ((b.take 16).getD j 0):=by
   rw[Int.toNat_natCast,List.getElem?_eq_getElem (by omega),List.getD_eq_getElem?_getD,List.getElem?_eq_getElem (by omega)];rfl
  rw[ev_f,zAA,zAA,zAA,zBA,ev_f,zAA,zAA,zBA,ev_k,ev_f,zAA,zBA,esp,yCA,zBC,hlen,qDF (by omega),zKI,ev_f,zAA,zBA,ev_f,zAA,zAA,zBA,esp,ev_k,getB _ _ _ hg]
 refine⟨⟨?_,trivial⟩,?_⟩
 ·simp only[Ob.holds];exact⟨b,rfl,by show (0:Int)<=16;decide,by show (16:Nat)<=b.length;omega⟩
 ·unfold deR67;rw[ev_f,zAA,zAA,zAA,zBA,ev_k,ev_f,ev_f,zAA,zBA,e71,qDA,xNC (zEA _ _ _),yTA,X_67,zZA]
  congr 2
  rw[qUA];apply List.ext_getElem?;intro j;rw[List.getElem?_map,List.getElem?_map];by_cases hj:j<16
  ·rw[List.getElem?_range hj,List.getElem?_eq_getElem (by omega:j<(b.take 16).length),Option.map_some,Option.map_some,ec j hj,List.getD_eq_getElem?_getD,List.getElem?_eq_getElem (by omega:j<(b.take 16).length)];rfl
  ·rw[List.getElem?_eq_none (by simp;omega),List.getElem?_eq_none (by omega)];rfl
end Go.Mx
namespace Go.Mx
open Go Go.Dx
def r8a:DE:=.f (.ext 65) [.v 0]
def r8b:DE:=.f (.ext 71) [.f (.get 1) [r8a],.f (.wrap .i64) [.f (.get 0) [r8a]]]
def deR78:DE:=.f .ite [.f .ltI [.f (.get 0) [r8a],.k (.int 0)],.f .mkrow [.k .nil,.f (.get 1) [r8a],.k (.bool false)],.f .mkrow [.f (.get 0) [r8b],.f (.get 1) [r8b],.k (.bool false)]]
def obR78:List Ob:=[.when (.f .ltI [.f (.get 0) [r8a],.k (.int 0)]) false [.pre 71 [.f (.get 1) [r8a],.f (.wrap .i64) [.f (.get 0) [r8a]]]],.pre 65 [.v 0]]
def r9a:DE:=.f (.ext 70) [.v 0]
def r9l:DE:=.f (.sub .i64) [.f (.wrap .i64) [.f (.get 0) [r9a]],.k (.int 1)]
def r9b:DE:=.f (.ext 71) [.f (.get 1) [r9a],r9l]
def deR79:DE:=.f .ite [.f .ltI [r9l,.k (.int 0)],.f .mkrow [.k .nil,.f (.get 1) [r9a],.k (.bool false)],.f .mkrow [.f (.get 0) [r9b],.f (.get 1) [r9b],.k (.bool false)]]
def obR79:List Ob:=[.when (.f .ltI [r9l,.k (.int 0)]) false [.pre 71 [.f (.get 1) [r9a],r9l]],.pre 70 [.v 0]]
theorem evR78(ds:List D)(hk:KsOk [.byts] ds)(h:side 78 ds):zCA X side obR78 ds/\deR78.eval X ds=X 78 ds:=by
 obtain⟨s,rfl⟩:=ks1 hk;rw[side_78] at h;have hn:IntKind.i32.wrap (-1) = -1:=by decide
 rcases h with⟨r,rfl⟩|⟨v,r,rfl,hv⟩
 ·refine⟨⟨?_,xZG _ _,trivial⟩,?_⟩
  ·simp only[Ob.holds,r8a,r8b,ev_f,zAA,zBA,ev_v,ev_k,List.getD_cons_zero,zIA];rw[X65e,xWA,hn,qDF (by decide)];intro h;cases h
  ·simp only[deR78,r8a,r8b,ev_f,zAA,zBA,ev_v,ev_k,List.getD_cons_zero,zIA];rw[X65e,xWA,qDA,hn,qDF (by decide),zKI,yTA,X_78,zZA,yMH];rfl
 ·have h32:=zVD hv;refine⟨⟨?_,xZG _ _,trivial⟩,?_⟩
  ·simp only[Ob.holds,r8a,r8b,ev_f,zAA,zBA,ev_v,ev_k,List.getD_cons_zero,zIA];intro _;refine⟨?_,trivial⟩;simp only[Ob.holds,ev_f,zAA,zBA,ev_v,ev_k,List.getD_cons_zero,zIA];rw[X65e,xWA,qDA,zLA,xLB hv,w64 h32];exact qFC v r
  ·simp only[deR78,r8a,r8b,ev_f,zAA,zBA,ev_v,ev_k,List.getD_cons_zero,zIA];rw[X65e,xWA,qDA,zLA,xLB hv,w64 h32,xIG (by omega),zSD,X71e,xWA,qDA,yTA,X_78,zZA,yNH r hv];rfl
theorem evR79(ds:List D)(hk:KsOk [.byts] ds)(h:side 79 ds):zCA X side obR79 ds/\deR79.eval X ds=X 79 ds:=by
 obtain⟨s,rfl⟩:=ks1 hk;rw[side_79] at h;rcases h with⟨r,rfl⟩|⟨v,r,rfl,hv⟩
 ·have hn:IntKind.i64.wrap (IntKind.i64.wrap ((0:Nat):Int)-1) = -1:=by decide
  refine⟨⟨?_,yKC _ (by decide),trivial⟩,?_⟩
  ·simp only[Ob.holds,r9a,r9l,r9b,ev_f,zAA,zBA,ev_v,ev_k,List.getD_cons_zero,zIA];rw[X70e,xWA,zLA,xQB,hn,qDF (by decide)];intro h;cases h
  ·simp only[deR79,r9a,r9l,r9b,ev_f,zAA,zBA,ev_v,ev_k,List.getD_cons_zero,zIA];rw[X70e,xWA,qDA,zLA,xQB,hn,qDF (by decide),zKI,yTA,X_79,zZA,xZC];rfl
 ·have h32:=zVD hv;have h33:v.length+1<4294967296:=by simp only[Most] at hv;omega
  have hsub:IntKind.i64.wrap (((v.length+1:Nat):Int)-1)=(v.length:Nat):=by rw[show ((v.length+1:Nat):Int)-1=(v.length:Nat) by omega,w64 h32]
  refine⟨⟨?_,yKC _ h33,trivial⟩,?_⟩
  ·simp only[Ob.holds,r9a,r9l,r9b,ev_f,zAA,zBA,ev_v,ev_k,List.getD_cons_zero,zIA];intro _;refine⟨?_,trivial⟩;simp only[Ob.holds,ev_f,zAA,zBA,ev_v,ev_k,List.getD_cons_zero,zIA];rw[X70e,xWA,qDA,zLA,w64 h33,xQB,hsub];exact qFC v r
  ·simp only[deR79,r9a,r9l,r9b,ev_f,zAA,zBA,ev_v,ev_k,List.getD_cons_zero,zIA];rw[X70e,xWA,qDA,zLA,w64 h33,xQB,hsub,xIG (by omega),zSD,X71e,xWA,qDA,yTA,X_79,zZA,qAC];rfl
end Go.Mx
namespace Go.Mx
open Go Go.Dx
def deK2:Nat->DE
 | 61=>deR61
 | 62=>deR62
 | 63=>deR63
 | 64=>deR64
 | 65=>deR65
 | 66=>deR66
 | 67=>deR67
 | 69=>deR69
 | 70=>deR70
 | 71=>deR71
 | 72=>deR72
 | 73=>deR73
 | 74=>deR74
 | 75=>deR75
 | 76=>deR76
 | 77=>deR77
 | 78=>deR78
 | 79=>deR79
 | 80=>deR80
 | 81=>deR81
 | 82=>deR82
 | _=>.k .nil
def obK2:Nat->List Ob
 | 61=>obR61
 | 62=>obR62
 | 63=>obR63
 | 64=>obR64
 | 65=>obR65
 | 66=>obR66
 | 67=>obR67
 | 69=>obR69
 | 70=>obR70
 | 71=>obR71
 | 72=>obR72
 | 73=>obR73
 | 74=>obR74
 | 75=>obR75
 | 76=>obR76
 | 77=>obR77
 | 78=>obR78
 | 79=>obR79
 | 80=>obR80
 | 81=>obR81
 | 82=>obR82
 | _=>[]
def sig2:Nat->List K
 | 71=>[.byts,.int .i64]
 | _=>[.byts]
def qLK:Nat->Nat
 | 65=>1
 | 66=>2
 | 67=>1
 | 69=>1
 | 72=>1
 | 73=>1
 | 74=>1
 | 75=>1
 | 76=>2
 | 77=>1
 | 78=>2
 | 79=>1
 | 80=>2
 | 81=>1
 | 82=>1
 | _=>0
def known2?:Nat->Bool
 | 61=>true
 | 62=>true
 | 63=>true
 | 64=>true
 | 65=>true
 | 66=>true
 | 67=>true
 | 69=>true
 | 70=>true
 | 71=>true
 | 72=>true
 | 73=>true
 | 74=>true
 | 75=>true
 | 76=>true
 | 77=>true
 | 78=>true
 | 79=>true
 | 80=>true
 | 81=>true
 | 82=>true
 | _=>false
theorem evB61(ds:List D)(hk:KsOk (sig2 61) ds)(h:side 61 ds):zCA X side (obK2 61) ds/\(deK2 61).eval X ds=X 61 ds/\(X 61 ds).cells.getD 2 .nil = .bool false:=by
 have e:=evR61 ds hk h;refine⟨e.1,e.2,?_⟩;obtain⟨s,rfl⟩:=ks1 hk;rfl
theorem evB62(ds:List D)(hk:KsOk (sig2 62) ds)(h:side 62 ds):zCA X side (obK2 62) ds/\(deK2 62).eval X ds=X 62 ds/\(X 62 ds).cells.getD 2 .nil = .bool false:=by
 have e:=evR62 ds hk h;refine⟨e.1,e.2,?_⟩;obtain⟨s,rfl⟩:=ks1 hk;rfl
theorem evB63(ds:List D)(hk:KsOk (sig2 63) ds)(h:side 63 ds):zCA X side (obK2 63) ds/\(deK2 63).eval X ds=X 63 ds/\(X 63 ds).cells.getD 2 .nil = .bool false:=by
 have e:=evR63 ds hk h;refine⟨e.1,e.2,?_⟩;obtain⟨s,rfl⟩:=ks1 hk;rfl
theorem evB64(ds:List D)(hk:KsOk (sig2 64) ds)(h:side 64 ds):zCA X side (obK2 64) ds/\(deK2 64).eval X ds=X 64 ds/\(X 64 ds).cells.getD 2 .nil = .bool false:=by
 have e:=evR64 ds hk h;refine⟨e.1,e.2,?_⟩;obtain⟨s,rfl⟩:=ks1 hk;rfl
theorem evB65(ds:List D)(hk:KsOk (sig2 65) ds)(h:side 65 ds):zCA X side (obK2 65) ds/\(deK2 65).eval X ds=X 65 ds/\(X 65 ds).cells.getD 2 .nil = .bool false:=by
 have e:=evR65 ds hk h;refine⟨e.1,e.2,?_⟩;obtain⟨s,rfl⟩:=ks1 hk;rfl
theorem evB66(ds:List D)(hk:KsOk (sig2 66) ds)(h:side 66 ds):zCA X side (obK2 66) ds/\(deK2 66).eval X ds=X 66 ds/\(X 66 ds).cells.getD 2 .nil = .bool false:=by
 have e:=evR66 ds hk h;refine⟨e.1,e.2,?_⟩;obtain⟨s,rfl⟩:=ks1 hk;rfl
theorem evB67(ds:List D)(hk:KsOk (sig2 67) ds)(h:side 67 ds):zCA X side (obK2 67) ds/\(deK2 67).eval X ds=X 67 ds/\(X 67 ds).cells.getD 2 .nil = .bool false:=by
 have e:=evR67 ds hk h;refine⟨e.1,e.2,?_⟩;obtain⟨s,rfl⟩:=ks1 hk;rfl
theorem evB69(ds:List D)(hk:KsOk (sig2 69) ds)(h:side 69 ds):zCA X side (obK2 69) ds/\(deK2 69).eval X ds=X 69 ds/\(X 69 ds).cells.getD 2 .nil = .bool false:=by
 have e:=evR69 ds hk h;refine⟨e.1,e.2,?_⟩;obtain⟨s,rfl⟩:=ks1 hk;rfl
theorem evB70(ds:List D)(hk:KsOk (sig2 70) ds)(h:side 70 ds):zCA X side (obK2 70) ds/\(deK2 70).eval X ds=X 70 ds/\(X 70 ds).cells.getD 2 .nil = .bool false:=by
 have e:=evR70 ds hk h;refine⟨e.1,e.2,?_⟩;obtain⟨s,rfl⟩:=ks1 hk;rfl
theorem evB71(ds:List D)(hk:KsOk (sig2 71) ds)(h:side 71 ds):zCA X side (obK2 71) ds/\(deK2 71).eval X ds=X 71 ds/\(X 71 ds).cells.getD 2 .nil = .bool false:=by
 have e:=evR71 ds hk h;refine⟨e.1,e.2,?_⟩;obtain @⟨⟩ | @⟨_,d1,_,_,_,hk⟩:=hk;obtain @⟨⟩ | @⟨_,d2,_,_,_,hk⟩:=hk;cases hk;rfl
theorem evB72(ds:List D)(hk:KsOk (sig2 72) ds)(h:side 72 ds):zCA X side (obK2 72) ds/\(deK2 72).eval X ds=X 72 ds/\(X 72 ds).cells.getD 2 .nil = .bool false:=by
 have e:=evR72 ds hk h;refine⟨e.1,e.2,?_⟩;obtain⟨s,rfl⟩:=ks1 hk;rfl
theorem evB73(ds:List D)(hk:KsOk (sig2 73) ds)(h:side 73 ds):zCA X side (obK2 73) ds/\(deK2 73).eval X ds=X 73 ds/\(X 73 ds).cells.getD 2 .nil = .bool false:=by
 have e:=evR73 ds hk h;refine⟨e.1,e.2,?_⟩;obtain⟨s,rfl⟩:=ks1 hk;rfl
theorem evB74(ds:List D)(hk:KsOk (sig2 74) ds)(h:side 74 ds):zCA X side (obK2 74) ds/\(deK2 74).eval X ds=X 74 ds/\(X 74 ds).cells.getD 2 .nil = .bool false:=by
 have e:=evR74 ds hk h;refine⟨e.1,e.2,?_⟩;obtain⟨s,rfl⟩:=ks1 hk;rfl
theorem evB75(ds:List D)(hk:KsOk (sig2 75) ds)(h:side 75 ds):zCA X side (obK2 75) ds/\(deK2 75).eval X ds=X 75 ds/\(X 75 ds).cells.getD 2 .nil = .bool false:=by
 have e:=evR75 ds hk h;refine⟨e.1,e.2,?_⟩;obtain⟨s,rfl⟩:=ks1 hk;rfl
theorem evB76(ds:List D)(hk:KsOk (sig2 76) ds)(h:side 76 ds):zCA X side (obK2 76) ds/\(deK2 76).eval X ds=X 76 ds/\(X 76 ds).cells.getD 2 .nil = .bool false:=by
 have e:=evR76 ds hk h;refine⟨e.1,e.2,?_⟩;obtain⟨s,rfl⟩:=ks1 hk;rfl
theorem evB77(ds:List D)(hk:KsOk (sig2 77) ds)(h:side 77 ds):zCA X side (obK2 77) ds/\(deK2 77).eval X ds=X 77 ds/\(X 77 ds).cells.getD 2 .nil = .bool false:=by
 have e:=evR77 ds hk h;refine⟨e.1,e.2,?_⟩;obtain⟨s,rfl⟩:=ks1 hk;rfl
theorem evB78(ds:List D)(hk:KsOk (sig2 78) ds)(h:side 78 ds):zCA X side (obK2 78) ds/\(deK2 78).eval X ds=X 78 ds/\(X 78 ds).cells.getD 2 .nil = .bool false:=by
 have e:=evR78 ds hk h;refine⟨e.1,e.2,?_⟩;obtain⟨s,rfl⟩:=ks1 hk;rfl
theorem evB79(ds:List D)(hk:KsOk (sig2 79) ds)(h:side 79 ds):zCA X side (obK2 79) ds/\(deK2 79).eval X ds=X 79 ds/\(X 79 ds).cells.getD 2 .nil = .bool false:=by
 have e:=evR79 ds hk h;refine⟨e.1,e.2,?_⟩;obtain⟨s,rfl⟩:=ks1 hk;rfl
theorem evB80(ds:List D)(hk:KsOk (sig2 80) ds)(h:side 80 ds):zCA X side (obK2 80) ds/\(deK2 80).eval X ds=X 80 ds/\(X 80 ds).cells.getD 2 .nil = .bool false:=by
 have e:=evR80 ds hk h;refine⟨e.1,e.2,?_⟩;obtain⟨s,rfl⟩:=ks1 hk;rfl
theorem evB81(ds:List D)(hk:KsOk (sig2 81) ds)(h:side 81 ds):zCA X side (obK2 81) ds/\(deK2 81).eval X ds=X 81 ds/\(X 81 ds).cells.getD 2 .nil = .bool false:=by
 have e:=evR81 ds hk h;refine⟨e.1,e.2,?_⟩;obtain⟨s,rfl⟩:=ks1 hk;rfl
theorem evB82(ds:List D)(hk:KsOk (sig2 82) ds)(h:side 82 ds):zCA X side (obK2 82) ds/\(deK2 82).eval X ds=X 82 ds/\(X 82 ds).cells.getD 2 .nil = .bool false:=by
 have e:=evR82 ds hk h;refine⟨e.1,e.2,?_⟩;obtain⟨s,rfl⟩:=ks1 hk;rfl
theorem evB(k:Nat)(hk:known2? k=true)(ds:List D)(hks:KsOk (sig2 k) ds)(h:side k ds):zCA X side (obK2 k) ds/\(deK2 k).eval X ds=X k ds/\(X k ds).cells.getD 2 .nil = .bool false:=by
 unfold known2? at hk;split at hk
 ·exact evB61 ds hks h
 ·exact evB62 ds hks h
 ·exact evB63 ds hks h
 ·exact evB64 ds hks h
 ·exact evB65 ds hks h
 ·exact evB66 ds hks h
 ·exact evB67 ds hks h
 ·exact evB69 ds hks h
 ·exact evB70 ds hks h
 ·exact evB71 ds hks h
 ·exact evB72 ds hks h
 ·exact evB73 ds hks h
 ·exact evB74 ds hks h
 ·exact evB75 ds hks h
 ·exact evB76 ds hks h
 ·exact evB77 ds hks h
 ·exact evB78 ds hks h
 ·exact evB79 ds hks h
 ·exact evB80 ds hks h
 ·exact evB81 ds hks h
 ·exact evB82 ds hks h
 ·cases hk
def ctrs2(base tab:List (Nat×Ctr))(r:Nat)(f:FuncId):Option Ctr :=
 match lk f tab with
 | some c=>if qLK c.fn<r then some c else none
 | none=>lk f base
def runOk2(P:Program)(base tab:List (Nat×Ctr))(f:FuncId)(c:Ctr):Bool :=
 match P.funcs[f]? with
 | some fn =>
  match runF ⟨P,ctrs2 base tab (qLK c.fn),fun _ _ _=>none⟩ 100000 8 c fn with
  | some (d,os)=>d.beq (deK2 c.fn)&&qOC os (obK2 c.fn)
  | none=>false
 | none=>false
def ctrOk2?(P:Program)(base tab:List (Nat×Ctr))(f:FuncId)(c:Ctr):Bool :=
 known2? c.fn&&areA P (sig2 c.fn) c.args&&c.pre&&runOk2 P base tab f c
theorem one_ok2{P:Program}{base tab:List (Nat×Ctr)}(hnm:xJA P)(hord:P.follows .mixedOrders=true){f:FuncId}{c:Ctr}(h:ctrOk2? P base tab f c=true)
  (hc:∀g d,ctrs2 base tab (qLK c.fn) g=some d->qRA P X side g d):qRA P X side f c:=by
 simp only[ctrOk2?,Bool.and_eq_true] at h;obtain⟨⟨⟨hk,hsig⟩,hpre⟩,hrun⟩:=h;unfold runOk2 at hrun;split at hrun
 rotate_left
 ·cases hrun
 rename_i fn hf;split at hrun
 rotate_left
 ·cases hrun
 rename_i d os hr;simp only[Bool.and_eq_true] at hrun;have e1:=DE.beq_eq hrun.1;have e2:=xTB hrun.2;subst e1;subst e2
 exact zGD (C:=⟨P,ctrs2 base tab (qLK c.fn),fun _ _ _=>none⟩) hnm hord hc hf hr (fun ok w vs ds hA hp=>by
  obtain⟨q1,q2,q3⟩:=evB c.fn hk ds (qTE hsig hA) (hp hpre);exact⟨q1,q2,fun _ _=>q3⟩)
def hand2(k:Nat):Bool:=k==86 || k==87
theorem all_ok2{P:Program}{base tab:List (Nat×Ctr)}(hnm:xJA P)(hord:P.follows .mixedOrders=true)(hb:∀f c,lk f base=some c->qRA P X side f c)
  (hh:∀f c,lk f tab=some c->hand2 c.fn=true->qRA P X side f c) (hchk:∀f c,lk f tab=some c->hand2 c.fn=false->ctrOk2? P base tab f c=true):∀f c,lk f tab=some c->qRA P X side f c:=by
 have key:∀r f c,lk f tab=some c->qLK c.fn=r->qRA P X side f c:=by
  intro r
  induction r using Nat.strongRecOn with
  | ind r ih =>
   intro f c hl hr;cases h86:hand2 c.fn with
   | true=>exact hh f c hl h86
   | false =>
    refine one_ok2 hnm hord (hchk f c hl h86) (fun g d hg=>?_);unfold ctrs2 at hg;split at hg
    ·rename_i c' hc';split at hg
     ·rename_i hlt;cases hg;exact ih _ (by omega) g _ hc' rfl
     ·cases hg
    ·exact hb g d hg
 exact fun f c h=>key _ f c h rfl
end Go.Mx
namespace Go.Mx
open Go Go.Dx
def deK3:Nat->DE
 | 16=>de16
 | 18=>de18
 | 309=>yMK
 | _=>.k .nil
def obK3:Nat->List Ob
 | 16=>ob16
 | 18=>ob18
 | 309=>ob309
 | _=>[]
def sig3:Nat->List K
 | 16=>[.byts,.byts]
 | 18=>[.byts,.byts]
 | 309=>[.int .i64,.int .i64,.int .i32,.bool,.byts,.bool,.byts]
 | _=>[]
def xTG:Nat->Nat
 | 18=>1
 | _=>0
def known3?:Nat->Bool
 | 16=>true
 | 18=>true
 | 309=>true
 | _=>false
theorem evC(k:Nat)(hk:known3? k=true)(hr:qQC k=false):∀(ds:List D),KsOk (sig3 k) ds->side k ds->zCA X side (obK3 k) ds/\(deK3 k).eval X ds=X k ds:=by
 unfold known3? at hk;split at hk
 ·intro ds hk h;obtain @⟨⟩ | @⟨_,d1,_,_,k1,hk⟩:=hk;obtain @⟨⟩ | @⟨_,d2,_,_,k2,hk⟩:=hk;cases hk;obtain⟨x1,rfl⟩:=k1;obtain⟨x2,rfl⟩:=k2;exact ev16 x1 x2 h
 ·intro ds hk h;obtain @⟨⟩ | @⟨_,d1,_,_,k1,hk⟩:=hk;obtain @⟨⟩ | @⟨_,d2,_,_,k2,hk⟩:=hk;cases hk;obtain⟨x1,rfl⟩:=k1;obtain⟨x2,rfl⟩:=k2;exact ev18 x1 x2 h
 ·intro ds hk h;obtain @⟨⟩ | @⟨_,d1,_,_,k1,hk⟩:=hk;obtain @⟨⟩ | @⟨_,d2,_,_,k2,hk⟩:=hk;obtain @⟨⟩ | @⟨_,d3,_,_,k3,hk⟩:=hk;obtain @⟨⟩ | @⟨_,d4,_,_,k4,hk⟩:=hk;obtain @⟨⟩ | @⟨_,d5,_,_,k5,hk⟩:=hk;obtain @⟨⟩ | @⟨_,d6,_,_,k6,hk⟩:=hk;obtain @⟨⟩ | @⟨_,d7,_,_,k7,hk⟩:=hk;cases hk;obtain⟨x1,rfl,_⟩:=k1;obtain⟨x2,rfl,_⟩:=k2;obtain⟨x3,rfl,_⟩:=k3;obtain⟨x4,rfl⟩:=k4;obtain⟨x5,rfl⟩:=k5;obtain⟨x6,rfl⟩:=k6;obtain⟨x7,rfl⟩:=k7;exact ev309 x1 x2 x3 x4 x5 x6 x7 h
 ·cases hk
theorem evCR(k:Nat)(hk:known3? k=true)(hr:qQC k=true)(n:Nat):∀(ds:List D),KsOk (sig3 k) ds->Pre3 (n+1) k ds->zCA X (Pre3 n) (obK3 k) ds/\(deK3 k).eval X ds=X k ds:=by
 unfold known3? at hk;split at hk
 ·simp[qQC] at hr
 ·simp[qQC] at hr
 ·simp[qQC] at hr
 ·cases hk
def yIK(base tab:List (Nat×Ctr))(r:Nat)(f:FuncId):Option Ctr :=
 match lk f tab with
 | some c=>if xTG c.fn<r || (r==5&&qQC c.fn) then some c else none
 | none=>lk f base
def hn3(k:Nat):List (Nat×Nat×Nat×Hint):=if k==301 then [(0,999999,0,([],0)),(45,0,1,([],0))] else [(120,0,5,([(.slot 2,.bool)],1)),(120,2,5,([],1))]
def yUH(P:Program)(base tab:List (Nat×Ctr))(f:FuncId)(c:Ctr):Bool :=
 match P.funcs[f]? with
 | some fn =>
  match runF ⟨P,yIK base tab (xTG c.fn),lookH (hn3 c.fn)⟩ 100000 8 c fn with
  | some (d,os)=>noRd c.res&&(d.beq (deK3 c.fn)&&qOC os (obK3 c.fn))
  | none=>false
 | none=>false
def ctrOk3?(P:Program)(base tab:List (Nat×Ctr))(f:FuncId)(c:Ctr):Bool :=
 known3? c.fn&&areA P (sig3 c.fn) c.args&&c.pre&&yUH P base tab f c
theorem qMK{k:Nat}(hk:known3? k=true):xTG k=5↔qQC k=true:=by
 unfold known3? at hk;split at hk
 all_goals first|cases hk;done|decide
theorem yME{base tab:List (Nat×Ctr)}{r:Nat}{f:FuncId}{c:Ctr}(h:yIK base tab r f=some c):(lk f tab=some c/\(xTG c.fn<r∨(r=5/\qQC c.fn=true)))∨(lk f tab=none/\lk f base=some c):=by
 unfold yIK at h;split at h
 ·rename_i c' hc;split at h
  ·rename_i hb;cases h;simp only[Bool.or_eq_true,decide_eq_true_eq,Bool.and_eq_true,beq_iff_eq] at hb;exact .inl ⟨hc,hb⟩
  ·cases h
 ·rename_i hn;exact .inr ⟨hn,h⟩
theorem yCI{P:Program}{A B:Nat->List D->Prop}{base tab:List (Nat×Ctr)}(hnm:xJA P)(hord:P.follows .mixedOrders=true){f:FuncId}{c:Ctr}(hrun:yUH P base tab f c=true)(hsig:areA P (sig3 c.fn) c.args=true)(hpre:c.pre=true)
  (hc:∀g d,yIK base tab (xTG c.fn) g=some d->qRA P X A g d) (hX:∀ds,KsOk (sig3 c.fn) ds->B c.fn ds->zCA X A (obK3 c.fn) ds/\(deK3 c.fn).eval X ds=X c.fn ds):qRA P X B f c:=by
 unfold yUH at hrun;split at hrun
 rotate_left
 ·cases hrun
 rename_i fn hf;split at hrun
 rotate_left
 ·cases hrun
 rename_i d os hr;simp only[Bool.and_eq_true] at hrun;have e1:=DE.beq_eq hrun.2.1;have e2:=xTB hrun.2.2;subst e1;subst e2
 exact zGD (C:=⟨P,yIK base tab (xTG c.fn),lookH (hn3 c.fn)⟩) hnm hord hc hf hr (fun ok w vs ds hA hp=>by
  obtain⟨q1,q2⟩:=hX ds (qTE hsig hA) (hp hpre);exact⟨q1,q2,zJE hrun.1 _⟩)
theorem all_ok3{P:Program}{base tab:List (Nat×Ctr)}(hnm:xJA P)(hord:P.follows .mixedOrders=true)(hb:∀f c,lk f base=some c->qRA P X side f c)
  (hchk:∀f c,lk f tab=some c->ctrOk3? P base tab f c=true):∀f c,lk f tab=some c->qRA P X side f c:=by
 have key:∀r f c,lk f tab=some c->xTG c.fn=r->qRA P X side f c:=by
  intro r
  induction r using Nat.strongRecOn with
  | ind r ih =>
   intro f c hl hr;have h:=hchk f c hl;unfold ctrOk3? at h;simp only[Bool.and_eq_true] at h;obtain⟨⟨⟨hk,hsig⟩,hpre⟩,hrun⟩:=h;cases hrec:qQC c.fn with
   | false =>
    refine yCI hnm hord hrun hsig hpre (A:=side) (fun g d hg=>?_) (evC c.fn hk hrec);rcases yME hg with⟨h1,h2⟩|⟨_,h1⟩
    ·rcases h2 with h2|⟨h2,_⟩
     ·exact ih _ (by omega) g d h1 rfl
     ·have:=(qMK hk).1 h2
      rw[hrec] at this;cases this
    ·exact hb g d h1
   | true =>
    have h5:r=5:=by rw[<- hr];exact(qMK hk).2 hrec
    have main:∀n f c,lk f tab=some c->known3? c.fn=true->qQC c.fn=true->areA P (sig3 c.fn) c.args=true->c.pre=true->yUH P base tab f c=true->qRA P X (Pre3 n) f c:=by
     intro n
     induction n with
     | zero =>
      intro f c hl hk hrec hsig hpre hrun;refine yCI hnm hord hrun hsig hpre (A:=fun _ _=>False) (fun g d hg=>?_) (fun ds _ hB=>?_)
      ·rcases yME hg with⟨h1,_⟩|⟨_,h1⟩
       ·have h:=hchk g d h1;unfold ctrOk3? at h;simp only[Bool.and_eq_true] at h;obtain⟨⟨⟨_,_⟩,hp⟩,hr⟩:=h;unfold yUH at hr;split at hr
        ·rename_i fn hf;split at hr
         ·rename_i d' os hr';unfold runF at hr';split at hr'
          ·rename_i body q hb' _;exact⟨⟨fn,body,hf,hb'⟩,fun ok w vs ds _ _ _ h4=>(h4 hp).elim⟩
          ·cases hr'
         ·cases hr
        ·cases hr
       ·exact yOD (fun _ h=>h.elim) (hb g d h1)
      ·exact absurd (hB.1 hrec) (by omega)
     | succ n ihn =>
      intro f c hl hk hrec hsig hpre hrun;refine yCI hnm hord hrun hsig hpre (A:=Pre3 n) (fun g d hg=>?_) (evCR c.fn hk hrec n);rcases yME hg with⟨h1,h2⟩|⟨_,h1⟩
      ·have hr5:=(qMK hk).2 hrec;by_cases hd:xTG d.fn<5
       ·exact yOD (fun _ h=>h.2) (ih (xTG d.fn) (by omega) g d h1 rfl)
       ·have hdr:qQC d.fn=true:=by
         rcases h2 with h2|h2
         ·omega
         ·exact h2.2
        have h:=hchk g d h1;unfold ctrOk3? at h;simp only[Bool.and_eq_true] at h;obtain⟨⟨⟨q1,q2⟩,q3⟩,q4⟩:=h;exact ihn g d h1 q1 hdr q2 q3 q4
      ·exact yOD (fun _ h=>h.2) (hb g d h1)
    have hfin:=fun n=>main n f c hl hk hrec hsig hpre hrun
    refine⟨(hfin 0).1,fun ok w vs ds h1 h2 h3 h4=>?_⟩;exact(hfin (meas3 c.fn ds+1)).2 ok w vs ds h1 h2 h3 (fun hp=>⟨fun _=>by omega,h4 hp⟩)
 exact fun f c h=>key _ f c h rfl
end Go.Mx
