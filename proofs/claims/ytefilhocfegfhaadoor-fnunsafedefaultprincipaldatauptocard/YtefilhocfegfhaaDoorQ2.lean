/- Part of a verified symbolic run of the program's code (no condition of its own). -/
import Derived.Test.YtefilhocfegfhaaDoorQ1
import Derived.Lib.AppendZeros
set_option linter.unusedVariables false
set_option linter.unusedSimpArgs false
noncomputable section
namespace Go.Dx
open Go
section
variable {P:Program} {X:Nat->List D->D} {Pre:Nat->List D->Prop} {w0:Base} {J:List D} {st:St} {g:Gh} {w:World} {a:Act}
theorem xGA{vi:VI}{n:Nat}{st st':St}(h:newV st vi n=some st'):st'.obl=st.obl:=by
 unfold newV at h;split at h
 ·cases h;rfl
 ·cases h
theorem xFB{α:Type}{p:α->Prop}{z:List α}(h:∀v∈z,p v)(n:Nat):∀v∈(List.replicate n z).flatten,p v:=by
 intro v hv;obtain⟨l,hl,hv⟩:=List.mem_flatten.1 hv;rw[(List.mem_replicate.1 hl).2] at hv;exact h v hv
theorem qMC(z:Array Value)(n size:Nat)(hs:z.size=size)(hp:0<size):madeCells z (n*size)=((List.replicate n z.toList).flatten).toArray:=xBC z n size hs hp
mutual
theorem qOI:∀ {e:DE} {d:D},e.toD=some d->e.eval X J=d
 | .k d',d,h=>by simp only[DE.toD,Option.some.injEq] at h;simp[DE.eval,h]
 | .f n as,d,h=>by
  cases n <;> simp only[DE.toD,reduceCtorEq] at h
  obtain⟨l,hl,rfl⟩:=Option.map_eq_some_iff.1 h;simp only[DE.eval,yUH hl,Fn.eval]
 | .v i,d,h=>by simp[DE.toD] at h
 | .fold ..,d,h=>by simp[DE.toD] at h
 | .wh ..,d,h=>by simp[DE.toD] at h
theorem yUH:∀ {es:List DE} {ds:List D},toDs es=some ds->zDA X es J=ds
 | [],ds,h=>by simp only[toDs,Option.some.injEq] at h;simp[zDA,<- h]
 | a::as,ds,h=>by
  simp only[toDs] at h;split at h
  ·rename_i d ds' h1 h2;cases h;simp only[zDA,qOI h1,yUH h2]
  ·cases h
end
theorem zAK(hX:∀l,(X 399 l).asInt=0)(w:World):Mem P X ⟨w,fun _=>False,fun _=>False⟩ [] (qSB 0) { rv:=fun _=>undef,rb:=fun _=>0,rh:=fun _=>(0,0),ex:=fun b=>b<w.heap.size } w:=by
 have hact:∀b,¬Actv (qSB 0) { rv:=fun _=>undef,rb:=fun _=>0,rh:=fun _=>(0,0),ex:=fun b=>b<w.heap.size } b:=by
  rintro b (⟨o,cs,h,_⟩|⟨n,vi,h,_⟩) <;> simp[qSB,yTA,yLA] at h
 exact⟨fun n vi h=>by simp[qSB,yTA,yLA] at h,fun n vi h=>by simp[qSB,yTA,yLA] at h,fun o o' c c' h=>by simp[qSB,yTA,yLA] at h,fun n m vi vj b h=>by simp[qSB,yTA,yLA] at h,fun o n c vi h=>by simp[qSB,yTA,yLA] at h,fun b hb=>absurd hb (hact b),fun l h=>by simp[qSB] at h,Fr.refl _ w,rfl,⟨fun b hb=>⟨hb,fun e=>e⟩,fun b hb=>hb.elim⟩,fun k hk=>absurd (hX _) hk⟩
theorem xIF{e:TypeId}{d:D}(h:zeroD P e=some d):∃i z zv,P.info? e=some i/\i.zero=some z/\zv.cells.toList=z.cells.toList /\ ∀ok w,Rep P ok w e zv d:=by
 unfold zeroD at h;split at h
 rotate_left
 ·cases h
 rename_i cs hcs;split at h
 rotate_left
 ·cases h
 rename_i v hg;split at h
 rotate_left
 ·cases h
 rename_i de hs;obtain⟨i,z,hi,hz,_,_,_⟩:=zHB (X:=fun _ _=>.nil) (J:=[]) (g:={ rv:=fun _=>undef,rb:=fun _=>0,rh:=fun _=>(0,0),ex:=fun _=>False }) hcs;have main:∀w:World,∃dd,P.underlying e=some dd /\ ∀ok,Rep P ok w e (if zGA dd then .agg z.cells else z.cells.toList.getD 0 undef) d/\(zGA dd=false->z.cells.toList.length=1):=fun w=>by
  have hm:=zAK (P:=P) (X:=fun _ _=>.nil) (fun _=>rfl) w;obtain⟨i',z',hi',hz',hd,hoks,hlen⟩:=zHB (X:=fun _ _=>.nil) (J:=[]) (g:={ rv:=fun _=>undef,rb:=fun _=>0,rh:=fun _=>(0,0),ex:=fun b=>b<w.heap.size }) hcs;rw[hi] at hi';cases hi'
  rw[hz] at hz';cases hz'
  obtain⟨dd,i2,hu,hi2,hl2,hden,hok⟩:=qZA hm hoks hg;have hr:=yYA hm hok hs;rw[qOI h,hden,hd] at hr;refine⟨dd,hu,fun ok=>⟨hr.mono (fun b hb=>absurd hb.1 hb.2.2) (fun b hb=>absurd hb.1 hb.2.2),fun ha=>?_⟩⟩;rw[ha] at hl2;rw[<- hd,yKA];simpa using hl2
 obtain⟨dd,hu,hmain⟩:=main default;refine⟨i,z,if zGA dd then .agg z.cells else z.cells.toList.getD 0 undef,hi,hz,?_,fun ok w=>?_⟩
 ·cases ha:zGA dd with
  | true=>rfl
  | false =>
   have h1:=(hmain (fun _=>True)).2 ha;have h2:=(hmain (fun _=>True)).1;rw[ha] at h2;have h3:=(h2.notAgg hu ha).1;simp only[bfZ,if_false] at h3 ⊢;rw[h3]
   match hz':z.cells.toList,h1 with
   | [x],_=>rfl
 ·obtain⟨dd',hu',hr⟩:=main w;rw[hu] at hu';cases hu'
  exact(hr ok).1
theorem qEI:∀n:Nat,(List.replicate n (Value.int .u8 0)).flatMap (fun u=>u.cells.toList)=(List.replicate n (0:UInt8)).map fun x=>Value.int .u8 x.toNat
 | 0=>rfl
 | n+1=>by simp only[List.replicate_succ,List.flatMap_cons,List.map_cons,qEI n];rfl
theorem qWH(h:Mem P X w0 J st g w)(he:Env X J st g a){n:Nat}{t:TypeId}{l c r:SV}{st':St}(hc:c.ok X J)(hm:mkslS P st n t l c=some (r,st'))(hob:zCA X Pre st'.obl J) :
  qMA P X w0 J st g a (Instr.makeSlice t (l.den X J g) (c.den X J g)) w r st':=by
 unfold mkslS at hm;split at hm
 ·rename_i e hu;simp only[Option.bind_eq_bind,Option.bind_eq_some_iff] at hm;obtain⟨i,hi,hm⟩:=hm;split at hm
  ·rename_i hgo;obtain⟨z,hz,hzs,hsz,hu8⟩:=qJC hgo;split at hm
   ·rename_i f d;have hobl:∀ {vi:VI} {y:St},newV (addOb st (.cap d i.bytes)) vi n=some y->y=st' -> ∃mn:Nat,d.eval X J = .int (mn:Int)/\mn*i.bytes<=140737488355328/\mn<=maxLen:=fun {vi y} hn hy=>by
     subst hy;rw[xGA hn] at hob;have ho:=hob.1;simp only[Ob.holds] at ho;obtain⟨m,hm1,hm2⟩:=hc;rw[hm1] at ho;simp only[D.asInt] at ho;obtain⟨ho1,ho2,ho3⟩:=ho;obtain⟨mn,rfl⟩:=Int.eq_ofNat_of_zero_le ho1;simp only[Int.toNat_natCast] at ho2 ho3;exact⟨mn,hm1,ho2,ho3⟩
    have hu8e:isU8 P e=true↔P.underlying e=some (.int .u8):=by
     unfold isU8;split
     ·rename_i hh;simp[hh]
     ·rename_i hh;simp only[bfZ,false_iff];exact hh
    split at hm
    ·rename_i hx0;split at hm
     rotate_left
     ·cases hm
     rename_i st1 hn;have hst:st1=st':=by cases hm;rfl
     cases hm;have hf:=DE.beq_eq hx0;subst hf;obtain⟨mn,hm1,ho2,ho3⟩:=hobl hn hst;have hrun:=run_make (P:=P) w t e i z hu hi hz .i64 .i64 0 (mn:Int) (by omega) (by omega) (by
      have:i.bytes*mn<=281474976710656:=by rw[Nat.mul_comm];omega
      rw[<- Int.natCast_mul];omega) (by simp only[maxLen] at ho3;omega)
     simp only[Int.toNat_natCast,Int.toNat_zero] at hrun;obtain⟨k1,k2,k3,k4,_⟩:=xEH h he (st1:=addOb st (.cap d i.bytes)) (cells:=madeCells z.cells (mn*i.size)) (e:=e) ⟨rfl,rfl,rfl,rfl,rfl,rfl⟩ hn (v:=.slice (some ⟨w.heap.size,0,none⟩) 0 mn) rfl (fun ok' h1=>by
      refine⟨e,i,0,[],hu,hi,World.ownsRow_made w _ mn (Nat.zero_le _) ho3 (size_madeCells _ _),?_⟩;have hob':Value.ownBlock (.slice (some ⟨w.heap.size,0,none⟩) 0 mn)≠none:=by simp[Value.ownBlock]
      by_cases h8:P.underlying e=some (.int .u8)
      ·have:=hu8e.2 h8
       simp only[this,if_true];exact OwnD.bytes (s:=[]) hob' h8 (hu8 h8)
      ·have:isU8 P e=false:=by
        cases hh:isU8 P e with
        | true=>exact absurd (hu8e.1 hh) h8
        | false=>rfl
       simp only[this];exact OwnD.list (vs:=[]) (ds:=[]) hob' h8 rfl (by simp) (by simp))
     refine⟨_,_,?_,k3,k1,k2,trivial⟩;rw[k4];simp only[SV.den,DE.eval,D.asInt,hm1];exact hrun
    ·split at hm
     ·rename_i hfd;have hf:=DE.beq_eq hfd;subst hf;split at hm
      rotate_left
      ·cases hm
      rename_i zd hzd;split at hm
      rotate_left
      ·cases hm
      rename_i hz8;split at hm
      rotate_left
      ·cases hm
      rename_i st1 hn;have hst:st1=st':=by cases hm;rfl
      cases hm;obtain⟨mn,hm1,ho2,ho3⟩:=hobl hn hst;obtain⟨i',z',zv,hi',hz',hzc,hzr⟩:=xIF hzd;rw[hi] at hi';cases hi'
      rw[hz] at hz';cases hz'
      have hrun:=run_make (P:=P) w t e i z hu hi hz .i64 .i64 (mn:Int) (mn:Int) (by omega) (by omega) (by
       have:i.bytes*mn<=281474976710656:=by rw[Nat.mul_comm];omega
       rw[<- Int.natCast_mul];omega) (by simp only[maxLen] at ho3;omega)
      simp only[Int.toNat_natCast] at hrun;have hcells:madeCells z.cells (mn*i.size)=((List.replicate mn zv).flatMap fun u=>u.cells.toList).toArray:=by
       rw[qMC z.cells _ i.size hzs hsz,<- hzc]
       congr 1
       clear hrun ho2 ho3 hm1
       induction mn with
       | zero=>rfl
       | succ k ih=>simp[List.replicate_succ,ih]
      have hzsz:zv.cells.size=i.size:=by rw[<- Array.length_toList,hzc,Array.length_toList,hzs]
      obtain⟨k1,k2,k3,k4,_⟩:=xEH h he (st1:=addOb st (.cap f i.bytes)) (cells:=madeCells z.cells (mn*i.size)) (e:=e) ⟨rfl,rfl,rfl,rfl,rfl,rfl⟩ hn (v:=.slice (some ⟨w.heap.size,0,none⟩) mn mn) rfl (fun ok' h1=>by
       have hob':Value.ownBlock (.slice (some ⟨w.heap.size,0,none⟩) mn mn)≠none:=by simp[Value.ownBlock]
       refine⟨e,i,mn,(List.replicate mn zv).flatMap fun u=>u.cells.toList,hu,hi,?_,?_⟩
       ·have hl1:((List.replicate mn zv).flatMap fun u=>u.cells.toList).length=mn*i.size:=by
         rw[xPE (size:=i.size) (fun u hu'=>by rw[(List.mem_replicate.1 hu').2];exact hzsz),List.length_replicate]
        refine⟨hl1,.inr ⟨w.heap.size,mn,_,rfl,Nat.zero_le _,heap_alloc_new w _,Nat.le_refl _,ho3,size_madeCells _ _,?_⟩⟩;rw[hcells];show List.take _ ((List.replicate mn zv).flatMap fun u=>u.cells.toList)=_;rw[List.take_of_length_le (Nat.le_of_eq hl1)]
       by_cases h8:P.underlying e=some (.int .u8)
       ·have:=hu8e.2 h8
        rw[this] at hz8;have hz0:zd = .int 0:=by
         have:zd.beq (.int 0)=true:=by simpa using hz8
         exact D.beq_eq this
        subst hz0;have hzv:zv = .int .u8 0:=by
         have hr:=hzr (fun _=>False) w;cases hr with
         | int hu' hw' =>
          rw[h8] at hu';cases hu';rfl
        simp only[this,if_true,DE.eval,zDA,Fn.eval,hm1,D.asInt,Int.toNat_natCast]
        have:=OwnD.bytes (P:=P) (ok:=ok') (w:=w.alloc (.cells (madeCells z.cells (mn*i.size)) e)) (s:=List.replicate mn 0) hob' h8 (hu8 h8)
        rw[List.length_replicate] at this;have e1:(List.replicate mn zv).flatMap (fun u=>u.cells.toList)=(List.replicate mn (0:UInt8)).map fun x=>Value.int .u8 x.toNat:=by
         rw[hzv];exact qEI mn
        rw[e1];exact this
       ·have:isU8 P e=false:=by
         cases hh:isU8 P e with
         | true=>exact absurd (hu8e.1 hh) h8
         | false=>rfl
        simp only[this,bfZ,if_false,DE.eval,zDA,Fn.eval,hm1,D.asInt,Int.toNat_natCast]
        have:=OwnD.list (P:=P) (ok:=ok') (w:=w.alloc (.cells (madeCells z.cells (mn*i.size)) e)) (size:=i.size) (vs:=List.replicate mn zv) (ds:=List.replicate mn zd) hob' h8 (by simp) (fun u hu'=>by rw[(List.mem_replicate.1 hu').2];exact hzsz) (fun j u d h1 h2=>by
         rw[(List.mem_replicate.1 (List.mem_of_getElem? h1)).2,(List.mem_replicate.1 (List.mem_of_getElem? h2)).2];exact hzr _ _)
        rw[List.length_replicate] at this;exact this)
      refine⟨_,_,?_,k3,k1,k2,trivial⟩;rw[k4];simp only[SV.den,DE.eval,D.asInt,hm1];exact hrun
     ·cases hm
   ·cases hm
  ·cases hm
 ·cases hm
theorem xBH(z:Array Value)(n:Nat){size:Nat}(hs:z.size=size)(hp:0<size):Builtin.zeroCells z n=((List.replicate n z.toList).flatten).toArray:=by
 have:=qMC z n size hs hp
 rw[<- this];subst hs;simp only[Builtin.zeroCells,madeCells]
theorem xCI(zv:Value):∀n:Nat,(List.replicate n zv.cells.toList).flatten=(List.replicate n zv).flatMap fun u=>u.cells.toList
 | 0=>rfl
 | n+1=>by rw[List.replicate_succ,List.replicate_succ,List.flatten_cons,List.flatMap_cons,xCI zv n]
theorem xXF(h:Mem P X w0 J st g w)(he:Env X J st g a){n:Nat}{t u ty:TypeId}{s x r:SV}{st':St}(hx:x.ok X J)(ha:appZ P st n t u s x=some (r,st'))(hob:zCA X Pre st'.obl J) :
  qMA P X w0 J st g a (Builtin.append_ #[t,u] ty #[s.den X J g,x.den X J g]) w r st':=by
 unfold appZ at ha;split at ha
 rotate_left
 ·cases ha
 rename_i e kn kx d hu hun;split at ha
 rotate_left
 ·cases ha
 rename_i i zd hi hzd;split at ha
 rotate_left
 ·cases ha
 rename_i hgo;simp only[baZ,Bool.not_eq_true'] at hgo;obtain⟨hgo,h8⟩:=hgo;obtain⟨z,hz,hzs,hsz,hu8⟩:=qJC hgo;split at ha
 rotate_left
 ·cases ha
 rename_i st1 hn;cases ha;have h8n:P.underlying e≠some (.int .u8):=fun hh=>by simp[isU8,hh] at h8
 rw[xGA hn] at hob;have ho:=hob.1;simp only[Ob.holds] at ho;obtain⟨m,hm1,hm2⟩:=hx;rw[hm1] at ho;simp only[D.asInt] at ho;obtain⟨ho1,ho2,ho3⟩:=ho;obtain⟨mn,rfl⟩:=Int.eq_ofNat_of_zero_le ho1;simp only[Int.toNat_natCast] at ho2 ho3;obtain⟨i',z',zv,hi',hz',hzc,hzr⟩:=xIF hzd;rw[hi] at hi';cases hi'
 rw[hz] at hz';cases hz'
 have hzsz:zv.cells.size=i.size:=by rw[<- Array.length_toList,hzc,Array.length_toList,hzs]
 have hev:(DE.f .app [.k .nil,.f .repl [d,.k zd]]).eval X J=D.appd .nil (.list (List.replicate mn zd)):=by
  simp only[DE.eval,zDA,Fn.eval,hm1,D.asInt,Int.toNat_natCast]
 have hs0:(SV.c CV.nils).den X J g = .slice none 0 0:=rfl;have hx0:(SV.i kx d).den X J g = .int kx (mn:Int):=by simp only[SV.den,hm1,D.asInt]
 rw[hs0,hx0];by_cases h0:mn=0
 ·subst h0;have hrun:(Builtin.append_ #[t,u] ty #[.slice none 0 0,.int kx ((0:Nat):Int)]).run P w = .ok (.slice none 0 0) w:=by
   have hw:IntKind.i64.wrap (0:Int)=0:=by decide
   simp[Builtin.append_,run_underlying hu,run_underlying hun,sizeOf,typeInfo,hi,asInt,asIntOf,hw]
  obtain⟨k1,k2,k3,k4,_⟩:=qOB h he (Fr.refl (fun _=>False) w) (fun _ _ e=>e.elim) (Drops.addOb (Drops.same st g) (.cap d i.bytes)) hn (v:=.slice none 0 0) (fun b hb=>by simp[zFA,Value.ownBlock] at hb) (fun ok' h1 _=>by
   simp only[qUA];rw[hev]
   exact yRA.nilv hu hi)
  exact⟨w,_,by rw[k4];exact hrun,k3,k1,k2,trivial⟩
 ·have hbytes:mn*i.bytes<=281474976710656:=Nat.le_trans ho2 (by decide);have hrun:=Go.Lib.run_append_nil_zeros (P:=P) w t u ty e i z kx kn hu hun hi hz mn (by omega) hsz (by simp only[maxLen] at ho3;omega) hbytes;have hge:=grownCap_ge w mn 0 e;have hcm:=grownCap_le_maxLen w mn 0 e ho3;have hl1:((List.replicate mn zv).flatMap fun u=>u.cells.toList).length=mn*i.size:=by
   rw[xPE (size:=i.size) (fun u hu'=>by rw[(List.mem_replicate.1 hu').2];exact hzsz),List.length_replicate]
  have hzc2:(Builtin.zeroCells z.cells mn).toList=(List.replicate mn zv).flatMap fun u=>u.cells.toList:=by
   rw[xBH z.cells mn hzs hsz,<- hzc];exact xCI zv mn
  generalize hcells:Builtin.zeroCells z.cells mn++Builtin.zeroCells z.cells (grownCap w mn 0 e-mn)=cells at hrun;have hfr:Fr (fun _=>False) w (w.drew.alloc (.cells cells e)):=(Fr.drew (fun _=>False) w).trans (Fr.alloc (fun _=>False) w.drew (.cells cells e)) (fun _ _ e=>e);obtain⟨k1,k2,k3,k4,_⟩:=qOB h he hfr (fun _ _ e=>e.elim) (Drops.addOb (Drops.same st g) (.cap d i.bytes)) hn (v:=.slice (some ⟨w.heap.size,0,none⟩) mn (grownCap w mn 0 e)) (fun b hb=>by
    have:b=w.heap.size:=by simpa[zFA,Value.ownBlock] using hb.symm
    subst this;exact⟨.inl (Nat.le_refl _),by have:=hfr.size;show w.heap.size<(w.drew.alloc (.cells cells e)).heap.size;simp⟩) (fun ok' h1 _=>by
   simp only[qUA];rw[hev]
   have hob':Value.ownBlock (.slice (some ⟨w.heap.size,0,none⟩) mn (grownCap w mn 0 e))≠none:=by simp[Value.ownBlock]
   refine⟨e,i,mn,(List.replicate mn zv).flatMap fun u=>u.cells.toList,hu,hi,?_,?_⟩
   ·refine⟨hl1,.inr ⟨w.heap.size,grownCap w mn 0 e,cells,rfl,Nat.zero_le _,heap_alloc_new w.drew _,hge,hcm,?_,?_⟩⟩
    ·rw[<- hcells];simp only[Array.size_append,size_zeroCells,hzs,<- Nat.add_mul]
     congr 1;omega
    ·rw[<- hcells,Array.toList_append,hzc2,<- hl1];exact List.take_left
   ·have hd:D.appd .nil (.list (List.replicate mn zd)) = .list (List.replicate mn zd):=by
     cases mn with
     | zero=>exact absurd rfl h0
     | succ k=>rfl
    rw[hd]
    have:=OwnD.list (P:=P) (ok:=ok') (w:=w.drew.alloc (.cells cells e)) (size:=i.size) (vs:=List.replicate mn zv) (ds:=List.replicate mn zd) hob' h8n (by simp) (fun u hu'=>by rw[(List.mem_replicate.1 hu').2];exact hzsz) (fun j u d h1 h2=>by
     rw[(List.mem_replicate.1 (List.mem_of_getElem? h1)).2,(List.mem_replicate.1 (List.mem_of_getElem? h2)).2];exact hzr _ _)
    rw[List.length_replicate] at this;exact this)
  exact⟨_,_,by rw[k4];exact hrun,k3,k1,k2,trivial⟩
theorem xGH(h:Mem P X w0 J st g w)(he:Env X J st g a){n:Nat}{t u ty:TypeId}{s x r:SV}{st':St}(hx:x.ok X J)(ha:appZ2 P st n t u s x=some (r,st'))(hob:zCA X Pre st'.obl J) :
  qMA P X w0 J st g a (Builtin.append_ #[t,u] ty #[s.den X J g,x.den X J g]) w r st':=by
 unfold appZ2 at ha;split at ha
 rotate_left
 ·cases ha
 rename_i m;split at ha
 rotate_left
 ·cases ha
 rename_i t' d0 hl;split at ha
 rotate_left
 ·cases ha
 rename_i ht;subst ht;split at ha
 rotate_left
 ·cases ha
 rename_i r1 st1 hz;cases ha;have ho:=hob.1;simp only[Ob.holds,zCA] at ho;have hnil:d0.eval X J = .nil:=by
  cases hd:d0.eval X J with
  | nil=>rfl
  | _ =>
   have:=(ho (by simp only[DE.eval,zDA,hd];rfl)).1
   exact absurd rfl this
 obtain⟨w',g',k1,k2,k3,k4,k5⟩:=xXF (ty:=ty) h he (s:=.c .nils) hx hz hob.2;have hv:=h.va m _ hl;simp only[qUA] at hv;rw[hnil] at hv;have hden:(SV.x m).den X J g=(SV.c CV.nils).den X J g:=by
  obtain⟨_,_,_,_,_,_,_,ho⟩:=hv;cases ho with
  | nil hv=>exact hv
 rw[hden];exact⟨w',g',k1,⟨k2.rv,k2.rb⟩,⟨k3.va,k3.ob,k3.oo,k3.vv,k3.ov,k3.lo,k3.lp,k3.fr,k3.lv,k3.ex,k3.gl⟩,⟨k4.tm,k4.df,k4.sz⟩,k5⟩
theorem zEJ(h:Mem P X w0 J st g w)(he:Env X J st g a){n:Nat}{t u ty:TypeId}{s x r:SV}{st':St}(hx:x.ok X J)(ha:appA P st n t u s x=some (r,st'))(hob:zCA X Pre st'.obl J) :
  qMA P X w0 J st g a (Builtin.append_ #[t,u] ty #[s.den X J g,x.den X J g]) w r st':=by
 unfold appA at ha;split at ha
 ·rename_i q hq;cases ha;exact zGJ h he hx hq hob
 ·split at ha
  ·rename_i q hq;cases ha;exact xXF h he hx hq hob
  ·exact xGH h he hx ha hob
theorem xEC{t e:TypeId}{i:TypeInfo}(hu:P.underlying t=some (.slice e))(hi:P.info? e=some i)(b off len cap:Nat)(k:IntKind)(x:Int)(h0:0<=x)(hlt:x<len)(w:World) :
  (Instr.indexAt t (.slice (some ⟨b,off,none⟩) len cap) (.int k x)).run P w = .ok (.pointer (some ⟨b,off+x.toNat*i.size,none⟩)) w:=by
 simp[Instr.indexAt,asIntOf,run_underlying hu,h0,hlt,xAA hi,zWB]
theorem qPF(h:Mem P X w0 J st g w){t:TypeId}{x ix r:SV}(hi:idxS P st t x ix=some r) :
  (Instr.indexAt t (x.den X J g) (ix.den X J g)).run P w = .ok (r.den X J g) w/\r.ok X J:=by
 unfold idxS at hi;split at hi
 ·rename_i e hu;simp only[Option.bind_eq_bind,Option.bind_eq_some_iff] at hi;obtain⟨i,hinf,hi⟩:=hi;split at hi
  ·rename_i o n a;split at hi
   ·rename_i hc;cases hi;refine⟨?_,trivial⟩
    have:=xEC hu hinf (g.rb o) 0 n n .i64 a hc.1 hc.2 w
    simpa[SV.den,DE.eval,D.asInt] using this
   ·cases hi
  ·rename_i l;obtain⟨lp,hlp,hi⟩:=(by simpa only[Option.bind_eq_bind,Option.bind_eq_some_iff] using hi:∃lp,st.loops.find? (fun(lp:Lp)=>lp.lvl==l)=some lp/\(if lp.src.beq x&&lp.el==e then some (SV.ra lp.row 0) else none)=some r);split at hi
   ·rename_i hc;cases hi;simp only[baZ,beq_iff_eq] at hc;have hsrc:=SV.beq_eq hc.1;have hmem:=List.mem_of_find?_eq_some hlp;have hl:=List.find?_some hlp;simp only[beq_iff_eq] at hl;obtain⟨b,off,len,cap,k,i',h1,h2,h3,h4,h5⟩:=h.lp lp hmem;rw[hc.2,hinf] at h4;cases h4
    refine⟨?_,trivial⟩;rw[<- hsrc,h1];subst hl;have hev:(DE.v lp.lvl).eval X J = .int (k:Nat):=by simp[DE.eval,List.getD,h2]
    have:=xEC hu hinf b off len cap .i64 (k:Int) (by omega) (by omega) w
    simp only[SV.den,hev,D.asInt,h5,Nat.add_zero];simpa using this
   ·cases hi
  ·cases hi
 ·cases hi
theorem yGJ{l:List SV}{r:SV}(hl:oks X J l)(hm:minS l=some r)(ts:Array TypeId)(ty:TypeId)(w:World) :
  (Builtin.min_ ts ty (dens X J g l).toArray).run P w = .ok (r.den X J g) w/\r.ok X J:=by
 unfold minS at hm;split at hm
 ·rename_i k e k' e';split at hm
  ·rename_i hk;subst hk;cases hm;obtain⟨⟨n,h1,h2⟩,⟨m,h3,h4⟩,_⟩:=hl;refine⟨?_,⟨if m<n then m else n,by rw[zEA];simp only[zDA,Fn.eval,h1,h3,D.asInt];congr 1,by split <;> assumption⟩⟩;simp[Builtin.min_,dens,SV.den,Builtin.min2,zEA,zDA,Fn.eval,h1,h3,D.asInt]
   congr
  ·cases hm
 ·cases hm
theorem yCJ(h:Mem P X w0 J st g w){t:TypeId}{x:SV}{k:Kd}{d:DE}(hx:x.ok X J)(hd:yNE P st x=some (k,d))(hk:kdT P t=some k)(hkk:k = .sl∨k = .sr)(ty:TypeId) :
  (Builtin.len_ #[t] ty #[x.den X J g]).run P w = .ok ((SV.i .i64 (mkf .len [d])).den X J g) w/\(SV.i .i64 (mkf .len [d])).ok X J:=by
 have hsh:=qDC h hx hd;unfold kdT at hk;cases hu:P.underlying t with
 | none=>rw[hu] at hk;simp at hk
 | some td =>
  rw[hu] at hk;have hwf:∀n:Nat,n<=maxLen->(Lit.int .i64 (n:Int)).wf=true:=by
   intro n hn
   have:n<=9223372036854775807:=hn
   apply zJC;simp[IntKind.min,IntKind.max,IntKind.signed,IntKind.bits];omega
  have he:(mkf Fn.len [d]).eval X J = .int (d.eval X J).len:=by rw[zEA];rfl
  generalize hv:x.den X J g=v at hsh;generalize hdd:d.eval X J=dd at hsh;cases hsh with
  | slice hn ha hm h0 =>
   cases td <;> simp[kdOf] at hk
   refine⟨?_,⟨_,he,hwf _ (by rw[hdd,<- hn];exact hm)⟩⟩;simp[Builtin.len_,run_underlying hu,goInt,SV.den,he,hdd,D.asInt,hn]
  | str hn hm =>
   cases td <;> simp[kdOf] at hk
   refine⟨?_,⟨_,he,hwf _ (by rw[hdd,<- hn];exact hm)⟩⟩;simp[Builtin.len_,run_underlying hu,goInt,SV.den,he,hdd,D.asInt,hn]
  | ptr ha=>simp at hkk
  | map ha hl=>simp at hkk
theorem lenS_any(h:Mem P X w0 J st g w){t:TypeId}{x:SV}{k:Kd}{d:DE}(hx:x.ok X J)(hd:yNE P st x=some (k,d))(hk:kdT P t=some k)(hkk:k = .sl∨k = .sr)(ty:TypeId)(w2:World) :
  (Builtin.len_ #[t] ty #[x.den X J g]).run P w2 = .ok ((SV.i .i64 (mkf .len [d])).den X J g) w2/\(SV.i .i64 (mkf .len [d])).ok X J:=by
 have hsh:=qDC h hx hd;unfold kdT at hk;cases hu:P.underlying t with
 | none=>rw[hu] at hk;simp at hk
 | some td =>
  rw[hu] at hk;have hwf:∀n:Nat,n<=maxLen->(Lit.int .i64 (n:Int)).wf=true:=by
   intro n hn
   have:n<=9223372036854775807:=hn
   apply zJC;simp[IntKind.min,IntKind.max,IntKind.signed,IntKind.bits];omega
  have he:(mkf Fn.len [d]).eval X J = .int (d.eval X J).len:=by rw[zEA];rfl
  generalize hv:x.den X J g=v at hsh;generalize hdd:d.eval X J=dd at hsh;cases hsh with
  | slice hn ha hm h0 =>
   cases td <;> simp[kdOf] at hk
   refine⟨?_,⟨_,he,hwf _ (by rw[hdd,<- hn];exact hm)⟩⟩;simp[Builtin.len_,run_underlying hu,goInt,SV.den,he,hdd,D.asInt,hn]
  | str hn hm =>
   cases td <;> simp[kdOf] at hk
   refine⟨?_,⟨_,he,hwf _ (by rw[hdd,<- hn];exact hm)⟩⟩;simp[Builtin.len_,run_underlying hu,goInt,SV.den,he,hdd,D.asInt,hn]
  | ptr ha=>simp at hkk
  | map ha hl=>simp at hkk
end
end Go.Dx
namespace Go.Dx
open Go
section
variable {P:Program} {X:Nat->List D->D} {Pre:Nat->List D->Prop} {w0:Base} {J:List D} {st:St} {g:Gh} {w:World} {a:Act}
theorem qJG(l:List SV)(n:Nat):dens X J g (l.take n)=(dens X J g l).take n:=by simp[zRA]
theorem qIG(l:List SV)(n:Nat):dens X J g (l.drop n)=(dens X J g l).drop n:=by simp[zRA]
theorem xTI{l:List SV}(h:oks X J l)(n:Nat):oks X J (l.take n):=yHA.2 fun s hs=>yHA.1 h s (List.mem_of_mem_take hs)
theorem xSI{l:List SV}(h:oks X J l)(n:Nat):oks X J (l.drop n):=yHA.2 fun s hs=>yHA.1 h s (List.mem_of_mem_drop hs)
theorem xGD(h:Mem P X w0 J st g w){e:TypeId}{i:TypeInfo}(hi:P.info? e=some i):∀ {n:Nat} {cs:List SV} {ds:List DE},oks X J cs->cs.length=n*i.size->zLI P st e i.size n cs=some ds ->
  ∃vs:List Value,vs.length=n/\ds.length=n/\(vs.flatMap fun u=>u.cells.toList)=dens X J g cs/\(∀v∈vs,v.cells.size=i.size) /\
   ∀(j:Nat) (u:Value) (d:DE),vs[j]? = some u->ds[j]? = some d->Rep P (okOf st g w) w e u (d.eval X J)
 | 0,cs,ds,hok,hl,hr=>by
  have:cs=[]:=List.eq_nil_of_length_eq_zero (by simpa using hl)
  subst this;simp only[zLI,Option.some.injEq] at hr;subst hr;exact⟨[],rfl,rfl,by simp[dens],by simp,by simp⟩
 | n+1,cs,ds,hok,hl,hr=>by
  simp only[zLI,Option.bind_eq_bind,Option.bind_eq_some_iff,Option.some.injEq] at hr;obtain⟨v,hg,d,hd,ds',hr',rfl⟩:=hr;have hlt:i.size<=cs.length:=by rw[hl,Nat.add_mul];omega
  obtain⟨td,i',hu,hi',hlen,hden,hvok⟩:=qZA h (xTI hok i.size) hg;rw[hi] at hi';cases hi'
  have hrep:=yYA h hvok hd;obtain⟨vs,h1,h2,h3,h4,h5⟩:=xGD h hi (n:=n) (xSI hok i.size) (by rw[List.length_drop,hl,Nat.add_mul];omega) hr';have htl:(cs.take i.size).length=i.size:=by rw[List.length_take];omega
  have hcells:(v.den X J g).cells.toList=dens X J g (cs.take i.size):=by
   cases had:zGA td with
   | true =>
    rw[had] at hden;simp only[if_true] at hden;rw[hden];rfl
   | false =>
    rw[had] at hden hlen;simp only[bfZ,if_false] at hden hlen;obtain⟨s,hs⟩:=List.length_eq_one_iff.1 hlen;rw[(hrep.notAgg hu had).1];rw[hs] at hden ⊢;simp only[dens] at hden ⊢;rw[hden];rfl
  refine⟨v.den X J g::vs,by simp[h1],by simp[h2],?_,?_,?_⟩
  ·rw[List.flatMap_cons,h3,hcells,<- qPE,List.take_append_drop]
  ·intro u hu';rcases List.mem_cons.1 hu' with rfl|hu'
   ·rw[<- Array.length_toList,hcells,yKA,htl]
   ·exact h4 u hu'
  ·intro j u x hj hx;cases j with
   | zero=>simp at hj hx;subst hj;subst hx;exact hrep
   | succ j=>simp at hj hx;exact h5 j u x hj hx
theorem qNG{l:List DE}{j:Nat}{d:D}(h:(zDA X l J)[j]? = some d):∃e,l[j]? = some e/\e.eval X J=d:=by
 rw[qTB,List.getElem?_map] at h;cases he:l[j]? with
 | none=>rw[he] at h;cases h
 | some e=>rw[he] at h;simp at h;exact⟨e,rfl,h⟩
theorem yAA(l:List DE):(zDA X l J).length=l.length:=by simp[qTB]
theorem xVK{ok:Nat->Prop}{e:TypeId}(h8:P.underlying e=some (.int .u8)):∀ {vs:List Value} {ds:List D},vs.length=ds.length->(∀(j:Nat) (u:Value) (d:D),vs[j]? = some u->ds[j]? = some d->Rep P ok w e u d) ->
  (vs.flatMap fun u=>u.cells.toList)=(ds.map fun d=>UInt8.ofNat d.asInt.toNat).map fun x=>Value.int .u8 x.toNat
 | [],[],_,_=>rfl
 | [],_::_,h,_=>by simp at h
 | _::_,[],h,_=>by simp at h
 | v::vs,d::ds,h,hr=>by
  obtain⟨n,rfl,rfl,hw⟩:=(hr 0 v d rfl rfl).isInt h8;have ih:=xVK h8 (vs:=vs) (ds:=ds) (by simpa using h) (fun j u d h1 h2=>hr (j+1) u d (by simpa using h1) (by simpa using h2));have hb:=zZC hw;simp only[IntKind.min,IntKind.max,IntKind.signed,IntKind.bits,bfZ,if_false] at hb;have hn:0<=n/\n<=255:=by constructor <;> omega
  obtain⟨m,rfl⟩:=Int.eq_ofNat_of_zero_le hn.1;simp only[List.flatMap_cons,List.map_cons,D.asInt,Int.toNat_natCast];rw[ih];have hm:m%256=m:=Nat.mod_eq_of_lt (by omega);simp[Value.cells,D.asInt,UInt8.toNat_ofNat',hm]
theorem yBG(h:Mem P X w0 J st g w)(he:Env X J st g a){n len:Nat}{t:TypeId}{parts:List (Nat×SV)}{r:SV}{st':St}(hp:∀p∈parts,p.2.ok X J)(hb:xNH P st n t len parts=some (r,st'))(pv:Array (Nat×Value))
  (hpv:pv.toList=parts.map fun p=>(p.1,p.2.den X J g)) :
  qMA P X w0 J st g a (Instr.buildSlice t len pv) w r st':=by
 unfold xNH at hb;split at hb
 ·rename_i e hu;simp only[Option.bind_eq_bind,Option.bind_eq_some_iff] at hb;obtain⟨i,hi,hb⟩:=hb;split at hb
  ·rename_i hgo;obtain⟨hgo,hlen,h24⟩:=hgo;obtain⟨z,hz,hzs,hsz,hu8⟩:=qJC hgo;obtain⟨zl,hzl,cells,hf,ds,hrow,st2,hn,hb⟩:=(by simpa only[Option.bind_eq_bind,Option.bind_eq_some_iff] using hb :
    ∃zl,xLE P e=some zl /\ ∃cells,yLG P (Dx.settles st (parts.map (·.2))) (fun j=>if j<len then some (j*i.size,e) else none) (List.flatten (List.replicate len zl)) parts=some cells /\
     ∃ds,zLI P (Dx.settles st (parts.map (·.2))) e i.size len cells=some ds /\ ∃st2,newV (Dx.settles st (parts.map (·.2))) ⟨.own t,if isU8 P e then mkf .mkbytes ds else mkf .mklist ds⟩ n=some st2/\some (SV.x n,st2)=some (r,st'))
   cases hb;obtain⟨i',z',hi',hz',hden,hoks,hzlen⟩:=zHB (X:=X) (J:=J) (g:=g) hzl;rw[hi] at hi';cases hi'
   rw[hz] at hz';cases hz'
   obtain⟨hm1,_⟩:=Mem.settles (parts.map (·.2)) h;have he1:=he.settles (parts.map (·.2));obtain⟨f1,f2,f3,f4⟩:=ySC hm1 (place':=fun j=>some (j*i.size,i.size)) (fun j off t' ti h1 h2=>by
    split at h1
    ·cases h1;rw[hi] at h2;cases h2;rfl
    ·cases h1) hp (by rw[yHA];exact xFB (yHA.1 hoks) _) (by rw[qRB];exact xFB (zFD hzl) _) hf
   have hcl:cells.length=len*i.size:=by rw[f3];simp[hzlen]
   obtain⟨vs,r1,r2,r3,r4,r5⟩:=xGD hm1 hi f2 hcl hrow;have hev:∀(j:Nat) (u:Value) (d:D),vs[j]? = some u->(zDA X ds J)[j]? = some d->Rep P (okOf (Dx.settles st (parts.map (·.2))) g w) w e u d:=fun j u d h1 h2=>by
    obtain⟨x,hx,rfl⟩:=qNG h2;exact r5 j u x h1 hx
   obtain⟨k1,k2,k3,k4,_⟩:=xEH hm1 he1 (cells:=(dens X J g cells).toArray) (e:=e) ⟨rfl,rfl,rfl,rfl,rfl,rfl⟩ hn (v:=.slice (some ⟨w.heap.size,0,none⟩) len len) rfl (fun ok' h1=>by
    refine⟨e,i,len,dens X J g cells,hu,hi,⟨by rw[yKA,hcl],.inr ⟨w.heap.size,len,_,rfl,Nat.zero_le _,heap_alloc_new w _,Nat.le_refl _,by simp[maxLen];omega,by simp[yKA,hcl],by simp;rw[List.take_of_length_le (by rw[yKA,hcl];exact Nat.le_refl _)]⟩⟩,?_⟩;have hob':Value.ownBlock (.slice (some ⟨w.heap.size,0,none⟩) len len)≠none:=by simp[Value.ownBlock]
    by_cases h8:P.underlying e=some (.int .u8)
    ·have h8':isU8 P e=true:=by simp[isU8,h8]
     simp only[h8',if_true];rw[zEA];simp only[Fn.eval];have hxs:=xVK h8 (vs:=vs) (ds:=zDA X ds J) (by rw[yAA,r1,r2]) hev;rw[r3] at hxs;have hl2:((zDA X ds J).map fun d=>UInt8.ofNat d.asInt.toNat).length=len:=by rw[List.length_map,yAA,r2]
     have:=OwnD.bytes (P:=P) (ok:=ok') (w:=w.alloc (.cells (dens X J g cells).toArray e)) (e:=e) (size:=i.size) (s:=(zDA X ds J).map fun d=>UInt8.ofNat d.asInt.toNat) hob' h8 (hu8 h8)
     rw[hl2,<- hxs] at this;exact this
    ·have h8':isU8 P e=false:=by
      unfold isU8;split
      ·rename_i hh;exact absurd hh h8
      ·rfl
     simp only[h8'];have hlen':(zDA X ds J).length=len:=by rw[yAA,r2]
     have:=OwnD.list (P:=P) (ok:=ok') (w:=w.alloc (.cells (dens X J g cells).toArray e)) (e:=e) (size:=i.size) (v:=.slice (some ⟨w.heap.size,0,none⟩) len len) (vs:=vs) (ds:=zDA X ds J) hob' h8 (by rw[hlen',r1]) r4 (fun j u d h2 h3=>(hev j u d h2 h3).mono h1 (fun b hb=>Go.RowKit.Below.heap_alloc w _ b hb.1))
     rw[hlen',r3] at this;have e1:(if false=true then mkf Fn.mkbytes ds else mkf Fn.mklist ds).eval X J = .list (zDA X ds J):=by rw[if_neg (by simp),zEA];rfl
     rw[e1];exact this)
   refine⟨_,_,?_,(Ext.settles st g _).trans k3,k1,k2,trivial⟩;rw[k4];unfold Instr.buildSlice;simp only[Sem.run_bind,run_underlying hu,Result.andThen_ok,xAA hi];have h24':¬(len*i.size>2 ^ 24):=by omega
   simp only[h24',if_false,Sem.run_pure,Result.andThen_ok,Sem.run_bind];have hc0:((Array.range (len*i.size)).map fun x=>(if len*i.size=0 then (#[]:Array Value) else z.cells)[x%(if len*i.size=0 then (#[]:Array Value) else z.cells).size]!)=(dens X J g (List.replicate len zl).flatten).toArray:=by
    by_cases h0:len*i.size=0
    ·have:len=0:=by
      rcases Nat.mul_eq_zero.1 h0 with h|h
      ·exact h
      ·omega
     subst this;simp[dens]
    ·simp only[h0,if_false];rw[qRB,hden];exact xBC z.cells len i.size hzs hsz
   by_cases h0:len*i.size=0
   ·simp only[h0,if_true,Sem.run_bind,Sem.run_pure,Result.andThen_ok] at hc0 ⊢;rw[hc0,hpv,f1];simp[qNB]
   ·simp only[h0,if_false,Sem.run_bind,Sem.run_pure,Result.andThen_ok,qKB hi hz] at hc0 ⊢;rw[hc0,hpv,f1];simp[qNB]
  ·cases hb
 ·cases hb
end
end Go.Dx
namespace Go.Dx
open Go
section
variable {P:Program} {X:Nat->List D->D} {Pre:Nat->List D->Prop} {w0:Base} {J:List D} {st:St} {g:Gh} {w:World} {a:Act}
theorem qBF:∀s:List UInt8,(s.map fun x=>Value.int .u8 x.toNat)=(s.map fun x=>Value.int .u8 (x.toNat:Int)).flatMap fun u=>u.cells.toList
 | []=>rfl
 | x::s=>by simp only[List.map_cons,List.flatMap_cons];rw[<- qBF s];rfl
theorem Mem.withOb(h:Mem P X w0 J st g w)(o:List Ob):Mem P X w0 J { st with obl:=o } g w:=⟨h.va,h.ob,h.oo,h.vv,h.ov,h.lo,h.lp,h.fr,h.lv,h.ex,h.gl⟩
theorem Mem.withOb1(h:Mem P X w0 J st g w)(o:Ob):Mem P X w0 J (addOb st o) g w:=h.withOb _
theorem yRA.rowAt{ok:Nat->Prop}{t e:TypeId}{i:TypeInfo}{v:Value}{d:D}(h:yRA P ok w t v d)(hu:P.underlying t=some (.slice e))(hi:P.info? e=some i) :
  d.len=d.rows.length/\d.len<=maxLen /\ ∀k,k<d.rows.length -> ∃b cap cur rv,v = .slice (some ⟨b,0,none⟩) d.len cap/\w.heap[b]? = some (.cells cur e (0,0))/\cur.size=cap*i.size/\d.len<=cap /\
   Rep P ok w e rv (d.rows.getD k .nil)/\rv.cells.size=i.size/\xQA w b (k*i.size) rv.cells.toList:=by
 obtain⟨e',i',n,xs,hu',hi',hown,hd⟩:=h;rw[hu] at hu';cases hu'
 rw[hi] at hi';cases hi'
 obtain⟨hlen,hrow⟩:=hown;have hcur:∀(b:Nat) (cur:Array Value) (vs:List Value) (k:Nat) (rv:Value),w.heap[b]? = some (.cells cur e (0,0))->cur.toList.take (n*i.size)=(vs.flatMap fun u=>u.cells.toList)->(∀u∈vs,u.cells.size=i.size)->vs[k]? = some rv->xQA w b (k*i.size) rv.cells.toList:=by
  intro b cur vs k rv hg htk hsz hk j u hj;have h1:=yNG hsz k rv j u hk hj;rw[<- htk,List.getElem?_take] at h1;split at h1
  ·have h2:cur[k*i.size+j]? = some u:=by rw[<- Array.getElem?_toList];exact h1
   simp[World.cell?,hg,h2]
  ·cases h1
 cases hd with
 | nil hv=>exact⟨rfl,by simp[D.len],fun k hk=>by simp[D.rows] at hk⟩
 | bytes hv he hs =>
  rename_i s;rcases hrow with⟨h1,_⟩|⟨b,cap,cur,h1,_,hg,hn,hcap,hcs,htk⟩
  ·rw[h1] at hv;simp[Value.ownBlock] at hv
  ·have hl:(D.bytes s).len=(D.bytes s).rows.length:=by simp[D.len,D.rows]
   refine⟨hl,by simp only[D.len];omega,fun k hk=>?_⟩;simp only[D.rows,List.length_map] at hk;have hget:(D.bytes s).rows.getD k .nil = .int (s[k].toNat):=by simp[D.rows,List.getD,hk]
   refine⟨b,cap,cur,.int .u8 s[k].toNat,h1,hg,hcs,hn,?_,by rw[hs];rfl,?_⟩
   ·rw[hget];refine .int he (zJC ?_)
    have:=s[k].toNat_lt
    simp[IntKind.min,IntKind.max,IntKind.signed,IntKind.bits];omega
   ·refine hcur b cur (s.map fun x=>.int .u8 x.toNat) k _ hg ?_ (fun u hu'=>?_) (by simp[hk])
    ·rw[htk];exact qBF s
    ·obtain⟨x,_,rfl⟩:=List.mem_map.1 hu';rw[hs];rfl
 | list hv he hl hsz hr =>
  rename_i vs ds;rcases hrow with⟨h1,_⟩|⟨b,cap,cur,h1,_,hg,hn,hcap,hcs,htk⟩
  ·rw[h1] at hv;simp[Value.ownBlock] at hv
  ·refine⟨rfl,by simp only[D.len];omega,fun k hk=>?_⟩;simp only[D.rows] at hk;have h3:vs[k]? = some vs[k]:=List.getElem?_eq_getElem (by omega);have h4:ds[k]? = some ds[k]:=List.getElem?_eq_getElem hk;have hget:(D.list ds).rows.getD k .nil=ds[k]:=by simp[D.rows,List.getD,hk]
   refine⟨b,cap,cur,vs[k],h1,hg,hcs,hn,?_,hsz _ (List.mem_of_getElem? h3),hcur b cur vs k _ hg htk hsz h3⟩;rw[hget];exact hr k _ _ h3 h4
theorem Mem.setOwn(h:Mem P X w0 J st g w){n:Nat}{t:TypeId}{d d':DE}{w':World}(hn:lk n st.vars=some ⟨.own t,d⟩)(hf:Fr (fun b=>(g.rv n).ownBlock=some b) w w')
  (hv:∀ok':Nat->Prop,(∀b,okOf st g w b->ok' b)->yRA P ok' w' t (g.rv n) (d'.eval X J)) (obl:List Ob) :
  Mem P X w0 J { st with vars:=upd n ⟨.own t,d'⟩ st.vars,obl:=obl } g w':=by
 have hact:∀b,Actv { st with vars:=upd n ⟨.own t,d'⟩ st.vars,obl:=obl } g b↔Actv st g b:=by
  intro b;constructor
  ·rintro(⟨o,cs,h1,h2⟩|⟨m,vj,h1,h2⟩)
   ·exact .inl ⟨o,cs,h1,h2⟩
   ·by_cases hm:n=m
    ·subst hm;rw[zZA] at h1;cases h1
     exact .inr ⟨n,_,hn,h2⟩
    ·rw[yJA hm] at h1;exact .inr ⟨m,vj,h1,h2⟩
  ·rintro(⟨o,cs,h1,h2⟩|⟨m,vj,h1,h2⟩)
   ·exact .inl ⟨o,cs,h1,h2⟩
   ·by_cases hm:n=m
    ·subst hm;rw[hn] at h1;cases h1
     exact .inr ⟨n,_,zZA,h2⟩
    ·exact .inr ⟨m,vj,by rw[yJA hm];exact h1,h2⟩
 have hna:∀b,(g.rv n).ownBlock=some b->Actv st g b:=fun b hb=>.inr ⟨n,_,hn,hb⟩
 have hok:∀b,okOf st g w b->okOf { st with vars:=upd n ⟨.own t,d'⟩ st.vars,obl:=obl } g w' b/\w'.heap[b]? = w.heap[b]?:=fun b hb =>
  ⟨⟨Nat.lt_of_lt_of_le hb.1 hf.size,fun e=>hb.2.1 ((hact b).1 e),hb.2.2⟩,hf.block b hb.1 (fun e=>hb.2.1 (hna b e))⟩
 have hold:∀m vj,lk m (upd n ⟨.own t,d'⟩ st.vars)=some vj -> ∃vk,lk m st.vars=some vk/\vk.vt=vj.vt:=fun m vj hm=>by
  by_cases hmn:n=m
  ·subst hmn;rw[zZA] at hm;cases hm;exact⟨_,hn,rfl⟩
  ·rw[yJA hmn] at hm;exact⟨vj,hm,rfl⟩
 refine⟨?_,?_,h.oo,?_,?_,fun b hb=>h.lo b ((hact b).1 hb),h.lp,?_,h.lv,h.ex,h.gl⟩
 ·intro m vj hm;by_cases hmn:n=m
  ·subst hmn;simp only at hm;rw[zZA] at hm;cases hm
   exact hv _ (fun b hb=>(hok b hb).1)
  ·simp only at hm;rw[yJA hmn] at hm;have hvv:=h.va m vj hm;exact hvv.mono (fun b hb=>(hok b hb).1) (fun b hb=>(hok b hb).2) (fun b hb=>hf.block b (hvv.lt b hb) (fun e=>hmn (h.vv n m _ vj b hn hm e hb)))
 ·intro o cs ho;have hc:=h.ob o cs ho;exact hc.frame (hf.block _ hc.lt (fun e=>h.ov o n cs _ ho hn e))
 ·intro m k vj vk b h1 h2 h3 h4;obtain⟨u1,e1,f1⟩:=hold m vj h1;obtain⟨u2,e2,f2⟩:=hold k vk h2;exact h.vv m k u1 u2 b e1 e2 (by rw[f1];exact h3) (by rw[f2];exact h4)
 ·intro o m c vj h1 h2;obtain⟨u1,e1,f1⟩:=hold m vj h2;rw[<- f1];exact h.ov o m c u1 h1 e1
 ·refine h.fr.trans hf (fun b hb hm=>?_);rcases h.lo b (hna b hm) with h1|h1
  ·omega
  ·exact h1
theorem zWJ(h:Mem P X w0 J st g w)(he:Env X J st g a){t:TypeId}{x ix r:SV}{st':St}(hix:ix.ok X J)(hi:idxE P st t x ix=some (r,st'))(hob:zCA X Pre st'.obl J) :
  qMA P X w0 J st g a (Instr.indexAt t (x.den X J g) (ix.den X J g)) w r st':=by
 unfold idxE at hi;split at hi
 ·rename_i e m kk k hu;split at hi
  ·rename_i u d i hm hinf;split at hi
   ·rename_i hc;obtain⟨rfl,hgo⟩:=hc;cases hi;have ho:=hob.1;simp only[Ob.holds,if_true] at ho;obtain⟨q,hq1,hq2⟩:=hix;rw[hq1] at ho;simp only[D.asInt] at ho;obtain⟨r1,r2,r3⟩:=yRA.rowAt (h.va m _ hm) hu hinf;obtain⟨b,cap,cur,rv,e1,e2,e3,e4,e5,e6,e7⟩:=r3 q.toNat (by rw[<- r1];exact ho.2);refine⟨w,g,?_,Ext.keys (fun n vi hn=>⟨vi,hn⟩) (fun o cs ho=>⟨cs,ho⟩),h.withOb1 _,he.of_env rfl rfl,trivial⟩
    have:=xEC hu hinf b 0 (d.eval X J).len cap kk q ho.1 (by have:=ho.2;omega) w
    simp only[SV.den,hq1,D.asInt,e1,qFC] at this ⊢;simpa using this
   ·cases hi
  ·cases hi
 ·cases hi
theorem qRC{e t:TypeId}{off:Nat}{p:Option Nat}(h:xXI P e t off=some p):(p=none/\off=0/\t=e)∨(p=some off /\ ∃de,P.underlying e=some de/\zGA de=true/\((tys P e).drop off).take (tys P t).length=tys P t/\tys P t≠[]):=by
 unfold xXI at h;split at h
 ·rename_i hc;cases h;exact .inl ⟨rfl,hc⟩
 ·split at h
  ·rename_i de hu;split at h
   ·rename_i hc;cases h;exact .inr ⟨rfl,de,hu,hc⟩
   ·cases h
  ·cases h
theorem qKH(h:Mem P X w0 J st g w)(he:Env X J st g a){n:Nat}{t:TypeId}{p s:SV}{st':St}(hl:loadE P st n t p=some (s,st'))(hob:zCA X Pre st'.obl J) :
  qMA P X w0 J st g a (Instr.loadAt t (p.den X J g)) w s st':=by
 unfold loadE at hl;split at hl
 rotate_left
 ·cases hl
 rename_i m k off sz;split at hl
 rotate_left
 ·cases hl
 rename_i u d hm;split at hl
 rotate_left
 ·cases hl
 rename_i e hu;split at hl
 rotate_left
 ·cases hl
 rename_i i dt p hinf hut hp;split at hl
 rotate_left
 ·cases hl
 rename_i hc;obtain⟨rfl,hgo⟩:=hc;split at hl
 rotate_left
 ·cases hl
 rename_i de hde;have hidx:0<=(k.eval X J).asInt/\(k.eval X J).asInt.toNat<(d.eval X J).len:=by
  have ho:zCA X Pre (addOb st (.idx k d true)).obl J:=by
   split at hl
   ·cases hl;exact hob
   ·split at hl
    ·rename_i st1 hn;cases hl;rw[xGA hn] at hob;exact hob
    ·cases hl
  have:=ho.1
  simpa[Ob.holds] using this
 obtain⟨r1,r2,r3⟩:=yRA.rowAt (h.va m _ hm) hu hinf;obtain⟨b,cap,cur,rv,e1,e2,e3,e4,e5,e6,e7⟩:=r3 (k.eval X J).asInt.toNat (by rw[<- r1];exact hidx.2);have hptr:(SV.ea m k off i.size).den X J g = .pointer (some ⟨b,(k.eval X J).asInt.toNat*i.size+off,none⟩):=by
  simp only[SV.den,e1,qFC,Nat.zero_add]
 have hval:∃u:Value,(Instr.loadAt t ((SV.ea m k off i.size).den X J g)).run P w = .ok u w/\Rep P (okOf st g w) w t u (de.eval X J):=by
  rw[hptr];rcases qRC hp with⟨rfl,rfl,rfl⟩|⟨rfl,ed,hue,hagg,htys,hne⟩
  ·simp only[Option.some.injEq] at hde;subst hde;refine⟨rv,?_,by simpa only[DE.eval,zDA,Fn.eval] using e5⟩;generalize (d.eval X J).rows.getD (k.eval X J).asInt.toNat .nil=rd at e5
   have:=yLB (P:=P) hut hinf e7 (by
    cases hd:zGA dt with
    | true=>simp[e6]
    | false=>have:=(e5.notAgg hut hd).1;simp[this])
   simp only[Instr.loadAt,Instr.sureAddr,Sem.run_bind,Sem.run_pure,Result.andThen_ok,Nat.add_zero];rw[this]
   congr 1
   cases hd:zGA dt with
   | true =>
    cases e5 with
    | row hu' hd' hl1 hl2 h1 hr =>
     rename_i vs ds;simp[Value.cells]
    | int hu'=>rw[hut] at hu';cases hu';cases hd
    | bool hu'=>rw[hut] at hu';cases hu';cases hd
    | str hu'=>rw[hut] at hu';cases hu';cases hd
    | flt hu'=>rw[hut] at hu';cases hu';cases hd
    | snil hu'=>rw[hut] at hu';cases hu';cases hd
    | bytes hu'=>rw[hut] at hu';cases hu';cases hd
    | list hu'=>rw[hut] at hu';cases hu';cases hd
    | pnil hu'=>rw[hut] at hu';cases hu';cases hd
    | ptr hu'=>rw[hut] at hu';cases hu';cases hd
    | mnil hu'=>rw[hut] at hu';cases hu';cases hd
    | map hu'=>rw[hut] at hu';cases hu';cases hd
   | false =>
    have:=(e5.notAgg hut hd).1
    simp[this]
  ·simp only at hde;split at hde
   ·cases hde
   ·rename_i hnag;cases hde;have hnag':zGA dt=false:=by simpa using hnag
    have ht:tys P t=[t]:=yNC hut hnag' 6;rw[ht] at htys;have hcell:(tys P e)[off]? = some t:=by
     have:=congrArg (fun l:List TypeId=>l[0]?) htys
     simpa[List.getElem?_take,List.getElem?_drop] using this
    obtain⟨cv,cd,c1,c2,c3⟩:=e5.cell hcell;have hc1:=(c3.notAgg hut hnag').1;obtain⟨it,hit⟩:=qID hut;have hcells:xQA w b ((k.eval X J).asInt.toNat*i.size+off) [cv]:=fun j u hj=>by
     cases j with
     | zero =>
      simp at hj;subst hj
      exact e7 off _ (by rw[<- c1];simp)
     | succ j=>simp at hj
    have:=yLB (P:=P) hut hit hcells (by simp[hnag'])
    refine⟨cv,?_,?_⟩
    ·simp only[Instr.loadAt,Instr.sureAddr,Sem.run_bind,Sem.run_pure,Result.andThen_ok];rw[this,hnag'];rfl
    ·rw[zEA];simp only[zDA,Fn.eval,DE.eval];rw[List.getD_eq_getElem?_getD,c2];exact c3
 obtain⟨uv,hrun,hrep⟩:=hval;split at hl
 ·cases hl;obtain⟨q1,q2⟩:=zDE (X:=X) (J:=J) (g:={ g with rv:=fun _=>uv }) n hrep rfl;have hsc:(zCD P n t de).den X J g=uv:=by
   rw[<- q1];rename_i hs;unfold zCD;rw[hut];cases dt <;> simp[qUB] at hs <;> first|rfl|skip
   cases ‹FloatKind› <;> simp at hs
   rfl
  refine⟨w,g,by rw[hsc];exact hrun,Ext.keys (fun n vi hn=>⟨vi,hn⟩) (fun o cs ho=>⟨cs,ho⟩),h.withOb1 _,he.of_env rfl rfl,q2⟩
 ·split at hl
  ·rename_i st1 hn;cases hl;have hm':Mem P X w0 J (addOb st (.idx k d true)) g w:=h.withOb1 _;have he':Env X J (addOb st (.idx k d true)) g a:=he.of_env rfl rfl;obtain⟨k1,k2,k3,k4,_⟩:=xJC hm' he' (Fr.refl _ w) hn (v:=uv) (fun ok' h1 _=>hrep.mono h1 (fun _ _=>rfl));exact⟨w,_,by rw[k4];exact hrun,⟨k3.rv,k3.rb⟩,k1,k2,trivial⟩
  ·cases hl
end
end Go.Dx
namespace Go.Dx
open Go
def yQA{α:Type}(l:List α)(off:Nat)(cs:List α):List α:=l.take off++cs++l.drop (off+cs.length)
theorem yMB{α:Type}{l cs:List α}{off:Nat}(h:off+cs.length<=l.length):(yQA l off cs).length=l.length:=by
 simp only[yQA,List.length_append,List.length_take,List.length_drop];omega
theorem yUF{α:Type}{l r cs:List α}{off:Nat}(h:off+cs.length<=l.length):yQA (l++r) off cs=yQA l off cs++r:=by
 simp only[yQA];rw[List.take_append_of_le_length (by omega),List.drop_append_of_le_length h]
 simp
theorem yJH{α:Type}{l r cs:List α}{off:Nat}:yQA (l++r) (l.length+off) cs=l++yQA r off cs:=by
 simp only[yQA,Nat.add_assoc,List.take_length_add_append,List.drop_length_add_append,List.append_assoc]
theorem xJD{α:Type}{l cs:List α}{off n:Nat}(h:off+cs.length<=n)(hn:n<=l.length):(yQA l off cs).take n=yQA (l.take n) off cs:=by
 have hl:(l.take n).length=n:=by rw[List.length_take];omega
 have h1:yQA l off cs=yQA (l.take n) off cs++l.drop n:=by
  rw[<- yUF (by omega),List.take_append_drop]
 have h2:(yQA (l.take n) off cs).length=n:=by rw[yMB (by omega),hl]
 rw[h1,List.take_append_of_le_length (by omega),List.take_of_length_le (by omega)]
theorem zUD{α:Type}{l cs:List α}{off j:Nat}{x:α}(h:off+cs.length<=l.length)(hj:(yQA l off cs)[j]? = some x):(off<=j/\cs[j-off]? = some x)∨((j<off∨off+cs.length<=j)/\l[j]? = some x):=by
 simp only[yQA] at hj;have h1:(l.take off).length=off:=by rw[List.length_take];omega
 by_cases h2:j<off
 ·rw[List.append_assoc,List.getElem?_append_left (by omega),List.getElem?_take,if_pos h2] at hj;exact .inr ⟨.inl h2,hj⟩
 ·rw[List.append_assoc,List.getElem?_append_right (by omega),h1] at hj;by_cases h3:j-off<cs.length
  ·rw[List.getElem?_append_left h3] at hj;exact .inl ⟨by omega,hj⟩
  ·rw[List.getElem?_append_right (by omega),List.getElem?_drop] at hj;rw[show off+cs.length+(j-off-cs.length)=j by omega] at hj;exact .inr ⟨.inr (by omega),hj⟩
theorem qUE{size:Nat}:∀ {vs:List Value} {k off:Nat} {rv rv':Value} {cs:List Value},(∀v∈vs,v.cells.size=size)->vs[k]? = some rv->off+cs.length<=size->rv'.cells.toList=yQA rv.cells.toList off cs ->
  ((vs.set k rv').flatMap fun u=>u.cells.toList)=yQA (vs.flatMap fun u=>u.cells.toList) (k*size+off) cs
 | [],k,_,_,_,_,_,hk,_,_=>by simp at hk
 | x::vs,0,off,rv,rv',cs,hsz,hk,ho,hc=>by
  simp at hk;subst hk
  have hx:x.cells.toList.length=size:=by rw[Array.length_toList];exact hsz x (by simp)
  simp only[List.set_cons_zero,List.flatMap_cons,Nat.zero_mul,Nat.zero_add];rw[yUF (by omega),hc]
 | x::vs,k+1,off,rv,rv',cs,hsz,hk,ho,hc=>by
  simp at hk;have hx:x.cells.toList.length=size:=by rw[Array.length_toList];exact hsz x (by simp)
  simp only[List.set_cons_succ,List.flatMap_cons];rw[qUE (fun v hv=>hsz v (List.mem_cons_of_mem _ hv)) hk ho hc];rw[show (k+1)*size+off=x.cells.toList.length+(k*size+off) by rw[hx,Nat.add_mul];omega,yJH]
section
variable {P:Program} {X:Nat->List D->D} {Pre:Nat->List D->Prop} {w0:Base} {J:List D} {st:St} {g:Gh} {w:World} {a:Act}
theorem Rep.put{ok:Nat->Prop}{e t:TypeId}{rv v:Value}{rd d:D}(he:Rep P ok w e rv rd)(hv:Rep P ok w t v d){de:TypeDesc}(hu:P.underlying e=some de)(hag:zGA de=true){off:Nat}
  (htys:((tys P e).drop off).take (tys P t).length=tys P t) (hne:tys P t≠[]) :
  ∃rv',rv'.cells.toList=yQA rv.cells.toList off v.cells.toList/\Rep P ok w e rv' (rd.putCells off d.cells)/\off+v.cells.toList.length<=rv.cells.toList.length:=by
 cases he with
 | row hu' hd hl1 hl2 h1 hr =>
  rename_i vs ds;have hsz:=hv.size;have hlt:off+(tys P t).length<=(tys P e).length:=by
   have:=congrArg List.length htys
   rw[List.length_take,List.length_drop] at this
   have:0<(tys P t).length:=by cases hq:tys P t with
    | nil=>exact absurd hq hne
    | cons=>simp
   omega
  have hvl:v.cells.toList.length=(tys P t).length:=by rw[Array.length_toList];exact hsz.1
  have htat:∀j u,(tys P e)[off+j]? = some u->j<(tys P t).length->(tys P t)[j]? = some u:=fun j u hj hlt'=>by
   have:=congrArg (fun l:List TypeId=>l[j]?) htys
   simp only[List.getElem?_take,List.getElem?_drop,hlt',if_true] at this;rw[<- this];exact hj
  refine⟨.agg (yQA vs off v.cells.toList).toArray,by simp[Value.cells],?_,by show _<=vs.toArray.toList.length;simp only[List.toList_toArray];omega⟩;show Rep P ok w e _ (.row (yQA ds off d.cells));have hdl:d.cells.length=(tys P t).length:=hsz.2;refine .row hu hag (by rw[yMB (by omega),hl1]) (by rw[yMB (by omega),hl2]) (fun u hu''=>?_) (fun j ct u x hct hju hjx=>?_)
  ·obtain⟨j,hj⟩:=List.mem_iff_getElem?.1 hu'';rcases zUD (by omega) hj with⟨h2,h3⟩|⟨_,h3⟩
   ·have hlt':=(List.getElem?_eq_some_iff.1 h3).1;have hlt2:j-off<(tys P t).length:=by omega
    obtain⟨cv,cd,c1,c2,c3⟩:=hv.cell (List.getElem?_eq_getElem hlt2)
    have:u=cv:=by
     have h4:v.cells[j-off]? = some u:=by rw[<- Array.getElem?_toList];exact h3
     rw[h4] at c1;cases c1;rfl
    subst this;obtain⟨dd,hdd⟩:=c3.desc;have hn:zGA dd=false:=by
     have h5:=htat (j-off) (tys P t)[j-off] (by
      have h6:=congrArg (fun l:List TypeId=>l[j-off]?) htys;simp only[List.getElem?_take,List.getElem?_drop,hlt2,if_true] at h6;rw[h6];exact List.getElem?_eq_getElem hlt2) hlt2
     cases hh:zGA dd with
     | false=>rfl
     | true =>
      have hj2:off+(j-off)<vs.length:=by omega
      have hj3:(tys P e)[off+(j-off)]? = some (tys P t)[j-off]:=by
       have h6:=congrArg (fun l:List TypeId=>l[j-off]?) htys;simp only[List.getElem?_take,List.getElem?_drop,hlt2,if_true] at h6;rw[h6];exact List.getElem?_eq_getElem hlt2
      have hj4:vs[off+(j-off)]? = some vs[off+(j-off)]:=List.getElem?_eq_getElem hj2;have hj5:ds[off+(j-off)]? = some (ds[off+(j-off)]'(by omega)):=List.getElem?_eq_getElem (by omega);have hrr:=hr _ _ _ _ hj3 hj4 hj5;have hone:=h1 _ (List.mem_of_getElem? hj4);generalize vs[off+(j-off)]=y at hrr hone;generalize (ds[off+(j-off)]'(by omega))=yd at hrr;cases hrr with
      | row q1 q2 q3 q4 h1' q6 =>
       rename_i vs' ds'
       have:(Value.agg vs'.toArray).cells = #[Value.agg vs'.toArray]:=hone
       simp only[Value.cells] at this;have h7:=congrArg Array.toList this;simp only[List.toList_toArray] at h7;have h8:=congrArg (fun l:List Value=>SizeOf.sizeOf l) h7;simp only[List.cons.sizeOf_spec,Value.agg.sizeOf_spec,Array.mk.sizeOf_spec,List.nil.sizeOf_spec] at h8;omega
      | int hq=>rw[hdd] at hq;cases hq;cases hh
      | bool hq=>rw[hdd] at hq;cases hq;cases hh
      | str hq=>rw[hdd] at hq;cases hq;cases hh
      | flt hq=>rw[hdd] at hq;cases hq;cases hh
      | snil hq=>rw[hdd] at hq;cases hq;cases hh
      | bytes hq=>rw[hdd] at hq;cases hq;cases hh
      | list hq=>rw[hdd] at hq;cases hq;cases hh
      | pnil hq=>rw[hdd] at hq;cases hq;cases hh
      | ptr hq=>rw[hdd] at hq;cases hq;cases hh
      | mnil hq=>rw[hdd] at hq;cases hq;cases hh
      | map hq=>rw[hdd] at hq;cases hq;cases hh
    exact(c3.notAgg hdd hn).1
   ·exact h1 u (List.mem_of_getElem? h3)
  ·rcases zUD (by omega) hju with⟨h2,h3⟩|⟨h2,h3⟩
   ·have hlt':=(List.getElem?_eq_some_iff.1 h3).1;have hlt2:j-off<(tys P t).length:=by omega
    have h5:=htat (j-off) ct (by rw[show off+(j-off)=j by omega];exact hct) hlt2;obtain⟨cv,cd,c1,c2,c3⟩:=hv.cell h5;have e1:u=cv:=by
     have h4:v.cells[j-off]? = some u:=by rw[<- Array.getElem?_toList];exact h3
     rw[h4] at c1;cases c1;rfl
    rcases zUD (by omega) hjx with⟨_,h4⟩|⟨h4,_⟩
    ·rw[c2] at h4;cases h4
     rw[e1];exact c3
    ·omega
   ·rcases zUD (by omega) hjx with⟨h4,h5⟩|⟨_,h5⟩
    ·have:=(List.getElem?_eq_some_iff.1 h5).1
     omega
    ·exact hr j ct u x hct h3 h5
 | int hq=>rw[hu] at hq;cases hq;cases hag
 | bool hq=>rw[hu] at hq;cases hq;cases hag
 | str hq=>rw[hu] at hq;cases hq;cases hag
 | flt hq=>rw[hu] at hq;cases hq;cases hag
 | snil hq=>rw[hu] at hq;cases hq;cases hag
 | bytes hq=>rw[hu] at hq;cases hq;cases hag
 | list hq=>rw[hu] at hq;cases hq;cases hag
 | pnil hq=>rw[hu] at hq;cases hq;cases hag
 | ptr hq=>rw[hu] at hq;cases hq;cases hag
 | mnil hq=>rw[hu] at hq;cases hq;cases hag
 | map hq=>rw[hu] at hq;cases hq;cases hag
theorem set_map{α β:Type}(f:α->β)(l:List α)(k:Nat)(x:α):(l.set k x).map f=(l.map f).set k (f x):=by
 rw[List.map_set]
theorem yCF(X:Nat->List D->D)(J:List D)(d k x:DE)(p:Option Nat):(putS d k x p).eval X J=(zCI d k x p).eval X J:=by
 unfold putS;split
 ·rename_i d0 z d1;split
  ·rename_i h;have h:=DE.beq_eq h;subst h;simp only[zCI,DE.eval,zDA,Fn.eval,D.asInt];generalize d1.eval X J=u;cases u with
   | list l=>simp[D.appd,D.setAtD,D.len]
   | bytes l=>simp[D.appd,D.setAtD,D.len,List.set_eq_of_length_le]
   | nil=>simp[D.appd,D.setAtD,D.len]
   | _=>rfl
  ·rfl
 ·rfl
theorem yOH(h:Mem P X w0 J st g w)(he:Env X J st g a){t:TypeId}{p v:SV}{st':St}(hv:v.ok X J)(hs:qSK P st t p v=some st')(hob:zCA X Pre st'.obl J) :
  ∃w',(Instr.storeAt t (p.den X J g) (v.den X J g)).run P w = .ok () w'/\Mem P X w0 J st' g w'/\st'.env=st.env/\st'.nt=st.nt/\Ext st g st' g:=by
 unfold qSK at hs;split at hs
 rotate_left
 ·cases hs
 rename_i m k off sz;split at hs
 rotate_left
 ·cases hs
 rename_i x u d hx hm;split at hs
 rotate_left
 ·cases hs
 rename_i e hu;split at hs
 rotate_left
 ·cases hs
 rename_i i it p hinf hit hp;split at hs
 rotate_left
 ·cases hs
 rename_i hc;obtain⟨rfl,hgo,hits⟩:=hc;cases hs;obtain⟨hm1,_⟩:=Mem.settle v h;have hkeys:=zGB st v;have hrv:Rep P (okOf (Dx.settle st v) g w) w t (v.den X J g) (x.eval X J):=yYA hm1 hv hx;have hidx:0<=(k.eval X J).asInt/\(k.eval X J).asInt.toNat<(d.eval X J).len:=by
  have:=hob.1
  simpa[Ob.holds] using this
 have hownAt:=hm1.va m _ hm;obtain⟨e',i',n,xs,hu',hi',hown,hD⟩:=hownAt;rw[hu] at hu';cases hu'
 rw[hinf] at hi';cases hi'
 obtain⟨hxl,hrow⟩:=hown;generalize hkk:(k.eval X J).asInt.toNat=kk at hidx;have hD:OwnD P (okOf (Dx.settle st v) g w) w e i.size (g.rv m) n xs (d.eval X J):=hD;have hvsz:=hrv.size;have hcone:=hrv.cells_one;have main:∀(b cap:Nat) (cur:Array Value),g.rv m = .slice (some ⟨b,0,none⟩) n cap->w.heap[b]? = some (.cells cur e (0,0))->n<=cap->cap<=maxLen->cur.size=cap*i.size->cur.toList.take (n*i.size)=xs ->
   kk<n->off+(v.den X J g).cells.toList.length<=i.size -> ∀d':DE,
   (∀(ok':Nat->Prop) (w':World),(∀b',okOf (Dx.settle st v) g w b'->ok' b'/\w'.heap[b']? = w.heap[b']?)->OwnD P ok' w' e i.size (g.rv m) n (yQA xs (kk*i.size+off) (v.den X J g).cells.toList) (d'.eval X J)) ->
   ∃w',(Instr.storeAt t ((SV.ea m k off i.size).den X J g) (v.den X J g)).run P w = .ok () w'/\Mem P X w0 J { addOb (Dx.settle st v) (.idx k d true) with vars:=upd m ⟨.own u,d'⟩ (Dx.settle st v).vars } g w':=by
  intro b cap cur hgv hg hn hcap hcs htk hlt hfit d' hD';have hle:kk*i.size+i.size<=n*i.size:=by
   have:(kk+1)*i.size<=n*i.size:=Nat.mul_le_mul_right _ hlt
   rw[Nat.add_mul] at this;omega
  have hle2:n*i.size<=cap*i.size:=Nat.mul_le_mul_right _ hn;have hrun:=qXD (P:=P) (t:=t) (b:=b) (off:=kk*i.size+off) (v:=v.den X J g) hit hg rfl (by rw[Array.length_toList,hvsz.1];exact hits.symm) (by omega) hcone;have hcl:cur.toList.length=cap*i.size:=by rw[Array.length_toList,hcs]
  refine⟨w.setRow b (yQA cur.toList (kk*i.size+off) (v.den X J g).cells.toList).toArray,?_,?_⟩
  ·simp only[SV.den,hgv,qFC,hkk,Nat.zero_add,Instr.storeAt,Instr.sureAddr,Sem.run_bind,Sem.run_pure,Result.andThen_ok];exact hrun
  ·have hfr:Fr (fun b'=>(g.rv m).ownBlock=some b') w (w.setRow b (yQA cur.toList (kk*i.size+off) (v.den X J g).cells.toList).toArray) :=
    (qXC _ _ _).mono (fun b' _ hb'=>by rw[hgv];simp only[Value.ownBlock];rw[hb'])
   refine hm1.setOwn hm hfr (fun ok' hok'=>?_) (.idx k d true::(Dx.settle st v).obl);refine⟨e,i,n,yQA xs (kk*i.size+off) (v.den X J g).cells.toList,hu,hinf,⟨?_,?_⟩,?_⟩
   ·rw[yMB (by omega),hxl]
   ·refine .inr ⟨b,cap,_,hgv,Nat.zero_le _,setRow_heap w _ _ _ _ _ hg,hn,hcap,?_,?_⟩
    ·show (yQA _ _ _).toArray.size=_;rw[List.size_toArray,yMB (by omega),hcl]
    ·show (yQA _ _ _).take _=_;rw[xJD (by omega) (by omega),htk]
   ·exact hD' ok' _ (fun b' hb'=>⟨hok' b' hb',hfr.block b' hb'.1 (fun e=>hb'.2.1 (.inr ⟨m,_,hm,e⟩))⟩)
 have fin:(∃w',(Instr.storeAt t ((SV.ea m k off i.size).den X J g) (v.den X J g)).run P w = .ok () w'/\Mem P X w0 J { addOb (Dx.settle st v) (.idx k d true) with vars:=upd m ⟨.own u,putS d k x p⟩ (Dx.settle st v).vars } g w') ->
   ∃w',(Instr.storeAt t ((SV.ea m k off i.size).den X J g) (v.den X J g)).run P w = .ok () w'/\Mem P X w0 J { addOb (Dx.settle st v) (.idx k d true) with vars:=upd m ⟨.own u,putS d k x p⟩ (Dx.settle st v).vars } g w'/\(Dx.settle st v).env=st.env/\(Dx.settle st v).nt=st.nt /\
    Ext st g { addOb (Dx.settle st v) (.idx k d true) with vars:=upd m ⟨.own u,putS d k x p⟩ (Dx.settle st v).vars } g:=by
  intro hh;obtain⟨w',h1,h2⟩:=hh;refine⟨w',h1,h2,hkeys.1,hkeys.2.2.2.2.1,Ext.keys (fun n vi hn=>?_) (fun o cs ho=>⟨cs,?_⟩)⟩
  ·obtain⟨vj,hj⟩:=hkeys.2.2.2.2.2.2 n vi hn;exact qOA n vj hj
  ·show lk o (Dx.settle st v).objs=some cs;rw[hkeys.2.1];exact ho
 refine fin ?_;generalize hdd:d.eval X J=dd at hD hidx;cases hD with
 | nil hvv=>simp[D.len] at hidx
 | bytes hvv he8 hs1 =>
  rename_i s;rcases hrow with⟨h1,_⟩|⟨b,cap,cur,h1,_,hg,hn,hcap,hcs,htk⟩
  ·rw[h1] at hvv;simp[Value.ownBlock] at hvv
  simp only[D.len] at hidx;rcases qRC hp with⟨rfl,rfl,rfl⟩|⟨rfl,ed,hue,hagg,_⟩
  ·have hint:∃q,v.den X J g = .int .u8 q/\x.eval X J = .int q/\(Lit.int .u8 q).wf=true:=by
    clear main fin hdd
    generalize v.den X J g=vv at hrv;generalize x.eval X J=xx at hrv;cases hrv with
    | int hq hw=>rw[he8] at hq;cases hq;exact⟨_,rfl,rfl,hw⟩
    | bool hq=>rw[he8] at hq;cases hq
    | str hq=>rw[he8] at hq;cases hq
    | flt hq=>rw[he8] at hq;cases hq
    | snil hq=>rw[he8] at hq;cases hq
    | bytes hq=>rw[he8] at hq;cases hq
    | list hq=>rw[he8] at hq;cases hq
    | row hq hd=>rw[he8] at hq;cases hq;simp[zGA] at hd
    | pnil hq=>rw[he8] at hq;cases hq
    | ptr hq=>rw[he8] at hq;cases hq
    | mnil hq=>rw[he8] at hq;cases hq
    | map hq=>rw[he8] at hq;cases hq
   obtain⟨q,hq1,hq2,hq3⟩:=hint;have hqb:=zZC hq3;simp[IntKind.min,IntKind.max,IntKind.signed,IntKind.bits] at hqb;refine main b cap cur h1 hg hn hcap hcs htk hidx.2 (by rw[hq1,hs1];simp[Value.cells]) _ (fun ok' w' _=>?_);have hnew:yQA (s.map fun x=>Value.int .u8 (x.toNat:Int)) (kk*i.size+0) (v.den X J g).cells.toList=(s.set kk (UInt8.ofNat q.toNat)).map fun x=>Value.int .u8 (x.toNat:Int):=by
    rw[set_map,hq1,hs1]
    have:((UInt8.ofNat q.toNat).toNat:Int)=q:=by
     rw[UInt8.toNat_ofNat'];omega
    rw[this];simp only[Value.cells,yQA,Nat.mul_one,Nat.add_zero,List.length_singleton];rw[List.set_eq_take_append_cons_drop,if_pos (by simp;exact hidx.2)]
    simp
   rw[hnew];rw[yCF];simp only[zCI,DE.eval,zDA,Fn.eval,hdd,D.setAtD,hkk,hq2]
   simp only[D.asInt]
   have:=OwnD.bytes (P:=P) (ok:=ok') (w:=w') (size:=i.size) (s:=s.set kk (UInt8.ofNat q.toNat)) hvv he8 hs1
   rw[List.length_set] at this;exact this
  ·rw[he8] at hue;cases hue;simp[zGA] at hagg
 | list hvv he8 hl hsz hr =>
  rename_i vs ds;rcases hrow with⟨h1,_⟩|⟨b,cap,cur,h1,_,hg,hn,hcap,hcs,htk⟩
  ·rw[h1] at hvv;simp[Value.ownBlock] at hvv
  simp only[D.len] at hidx;have hvk:vs[kk]? = some vs[kk]:=List.getElem?_eq_getElem (by omega);have hdk:ds[kk]? = some (ds[kk]'hidx.2):=List.getElem?_eq_getElem hidx.2;have hrk:=hr kk _ _ hvk hdk;have hszk:=hsz _ (List.mem_of_getElem? hvk);have hnew:∃rv' rd',rv'.cells.toList=yQA (vs[kk]).cells.toList off (v.den X J g).cells.toList/\Rep P (okOf (Dx.settle st v) g w) w e rv' rd'/\off+(v.den X J g).cells.toList.length<=(vs[kk]).cells.toList.length /\
    (putS d k x p).eval X J = .list (ds.set kk rd'):=by
   rcases qRC hp with⟨rfl,rfl,rfl⟩|⟨rfl,ed,hue,hagg,htys,hne⟩
   ·have hsame:(v.den X J g).cells.toList.length=(vs[kk]).cells.toList.length:=by
     rw[Array.length_toList,Array.length_toList,hvsz.1,hrk.size.1]
    refine⟨v.den X J g,x.eval X J,?_,hrv,by omega,?_⟩
    ·simp only[yQA,List.take_zero,List.nil_append,Nat.zero_add];rw[List.drop_of_length_le (by omega),List.append_nil]
    ·rw[yCF];simp only[zCI,DE.eval,zDA,Fn.eval,hdd,D.setAtD,hkk]
   ·obtain⟨rv',q1,q2,q3⟩:=hrk.put hrv hue hagg htys hne;refine⟨rv',_,q1,q2,q3,?_⟩;rw[yCF];simp only[zCI,DE.eval,zDA,Fn.eval,hdd,D.setCellsD,hkk]
    rw[List.getD_eq_getElem?_getD,hdk];rfl
  obtain⟨rv',rd',q1,q2,q3,q4⟩:=hnew;have hfit:off+(v.den X J g).cells.toList.length<=i.size:=by simp only[Array.length_toList] at q3 ⊢;omega
  refine main b cap cur h1 hg hn hcap hcs htk hidx.2 hfit _ (fun ok' w' hok'=>?_);rw[<- qUE hsz hvk hfit q1,q4]
  have:=OwnD.list (P:=P) (ok:=ok') (w:=w') (size:=i.size) (vs:=vs.set kk rv') (ds:=ds.set kk rd') hvv he8 (by rw[List.length_set,List.length_set,hl]) (fun u hu'=>by
   rcases List.mem_or_eq_of_mem_set hu' with h2|rfl
   ·exact hsz u h2
   ·rw[<- Array.length_toList,q1,yMB q3,Array.length_toList,hszk]) (fun j u y hj hy=>by
   rw[List.getElem?_set] at hj hy;split at hj
   ·rename_i hjk;rw[if_pos hjk] at hy;split at hj
    ·cases hj;split at hy
     ·cases hy;exact q2.mono (fun b hb=>(hok' b hb).1) (fun b hb=>(hok' b hb).2)
     ·cases hy
    ·cases hj
   ·rename_i hjk;rw[if_neg hjk] at hy;exact(hr j u y hj hy).mono (fun b hb=>(hok' b hb).1) (fun b hb=>(hok' b hb).2))
  rw[List.length_set] at this;exact this
theorem yNH(h:Mem P X w0 J st g w)(he:Env X J st g a){t:TypeId}{p v:SV}{st':St}(hv:v.ok X J)(hs:qMI P st t p v=some st')(hob:zCA X Pre st'.obl J) :
  ∃w',(Instr.storeAt t (p.den X J g) (v.den X J g)).run P w = .ok () w'/\Mem P X w0 J st' g w'/\st'.env=st.env/\st'.nt=st.nt/\Ext st g st' g:=by
 unfold qMI at hs;split at hs
 ·rename_i s hss;cases hs;obtain⟨w',k1,k2,k3,k4,k5,k6⟩:=yPH h hv hss;exact⟨w',k1,k2,k3,k4,k6⟩
 ·exact yOH h he hv hs hob
theorem qLH(h:Mem P X w0 J st g w)(he:Env X J st g a){n:Nat}{t:TypeId}{p s:SV}{st':St}(hl:loadG P st n t p=some (s,st'))(hob:zCA X Pre st'.obl J) :
  qMA P X w0 J st g a (Instr.loadAt t (p.den X J g)) w s st':=by
 unfold loadG at hl;split at hl
 rotate_left
 ·cases hl
 rename_i k ms i hu hi;split at hl
 rotate_left
 ·cases hl
 rename_i st1 hn;cases hl;rw[xGA hn] at hob;have ho:=hob.1;simp only[Ob.holds] at ho;have hev:(DE.f (.ext 399) [.k (.int (k:Nat))]).eval X J=X 399 [.int (k:Nat)]:=by simp[DE.eval,zDA,Fn.eval]
 rw[hev] at ho;obtain⟨hM,t',x,ty,fz,hcell⟩:=h.gl k ho;have hlt:k<w0.w.heap.size:=(Array.getElem?_eq_some_iff.1 hcell).1;have hw:w.heap[k]? = some (.cells #[.iface t' x] ty fz):=by rw[h.fr.block k hlt hM];exact hcell
 obtain⟨k1,k2,k3,k4,_⟩:=qOB h he (Fr.refl (fun _=>False) w) (fun _ _ e=>e.elim) (Drops.addOb (Drops.same st g) (.nz (.f (.ext 399) [.k (.int (k:Nat))]))) hn (v:=.iface t' x) (fun b hb=>by simp[zFA] at hb) (fun ok' _ _=>.inl ⟨t',x,rfl,rfl⟩);refine⟨w,_,?_,k3,k1,k2,trivial⟩;rw[k4];have hc:xQA w k 0 [.iface t' x]:=fun j v hj=>by
  cases j with
  | zero =>
   simp at hj;subst hj
   simp[World.cell?,hw]
  | succ j=>simp at hj
 have:=yLB hu hi hc (by rfl)
 simpa[Instr.loadAt,Instr.sureAddr,SV.den,CV.den,zGA] using this
theorem qJH(h:Mem P X w0 J st g w)(he:Env X J st g a){n:Nat}{t:TypeId}{p s:SV}{st':St}(hl:loadA P st n t p=some (s,st'))(hob:zCA X Pre st'.obl J) :
  qMA P X w0 J st g a (Instr.loadAt t (p.den X J g)) w s st':=by
 unfold loadA at hl;split at hl
 ·rename_i v hv;cases hl;obtain⟨k1,k2⟩:=xBD h hv;exact qMA.quiet h he k1 k2
 ·split at hl
  ·rename_i r hr;cases hl;exact qKH h he hr hob
  ·exact qLH h he hl hob
theorem xWH(h:Mem P X w0 J st g w)(he:Env X J st g a){t u ty:TypeId}{x y r:SV}{st':St}(hy:y.ok X J)(hc:copyS P st t u x y=some (r,st')) :
  qMA P X w0 J st g a (Builtin.copy_ #[t,u] ty #[x.den X J g,y.den X J g]) w r st':=by
 unfold copyS at hc;split at hc
 rotate_left
 ·cases hc
 rename_i m;split at hc
 rotate_left
 ·cases hc
 rename_i t' d e hm hu;split at hc
 rotate_left
 ·cases hc
 rename_i hcc;obtain⟨rfl,rfl,h8,hs1i⟩:=hcc;split at hc
 rotate_left
 ·cases hc
 rename_i s hs;cases hc;have he8:P.underlying e=some (.int .u8):=by
  unfold isU8 at h8;split at h8
  ·assumption
  ·cases h8
 have hsrc:=(yYA h hy hs).bytesAt hu he8;generalize hsd:s.eval X J=sd at hsrc;generalize hyv:y.den X J g=yv at hsrc;obtain⟨e',i,n,xs,hu',hi,hown,hD⟩:=h.va m _ hm;rw[hu] at hu';cases hu'
 obtain⟨hxl,hrow⟩:=hown;have hsrclen:∃sl:List UInt8,sd.asStr=sl/\sd.len=sl.length/\sl.length<=maxLen/\(Builtin.lenOf yv).run P w = .ok sl.length w /\ ∀q,q<=sl.length->(Builtin.firstCells 1 q yv).run P w = .ok ((sl.take q).map fun x=>Value.int .u8 (x.toNat:Int)).toArray w:=by
  cases hsrc with
  | nil=>exact⟨[],rfl,rfl,Nat.zero_le _,by simp[Builtin.lenOf],fun q hq=>by simp[Builtin.firstCells]⟩
  | some hsp hcl h1 h2 =>
   rename_i ad cap sl;refine⟨sl,rfl,rfl,by omega,by simp[Builtin.lenOf],fun q hq=>?_⟩;simp only[Builtin.firstCells,Nat.mul_one]
   have:=run_loadCells_list (P:=P) w ad ((sl.take q).map fun x=>Value.int .u8 (x.toNat:Int)) (fun j v hj=>by
    have h0:=(List.getElem?_eq_some_iff.1 hj).1;rw[List.length_map,List.length_take] at h0;rw[yBD (hsp (by omega))];refine hcl j v ?_;rw[List.getElem?_map] at hj ⊢;rw[List.getElem?_take] at hj;split at hj
    ·exact hj
    ·cases hj)
   rw[List.length_map,List.length_take,Nat.min_eq_left hq] at this;exact this
 obtain⟨sl,hs1,hs2,hs3,hlen,hfirst⟩:=hsrclen;have hres:∀q:Nat,q=min (d.eval X J).len sl.length->(d.eval X J).len<=maxLen->(SV.i .i64 (mkf .imin [mkf .len [d],mkf .len [s]])).den X J g=goInt q/\(SV.i .i64 (mkf .imin [mkf .len [d],mkf .len [s]])).ok X J:=fun q hq hml=>by
  have hev:(mkf Fn.imin [mkf .len [d],mkf .len [s]]).eval X J = .int (q:Int):=by
   rw[zEA];simp only[zDA,zEA];show D.int (if ((s.eval X J).len:Int)<((d.eval X J).len:Int) then ((s.eval X J).len:Int) else ((d.eval X J).len:Int))=_;rw[hsd,hs2];by_cases hc:(sl.length:Int)<((d.eval X J).len:Int)
   ·rw[if_pos hc];congr 1;omega
   ·rw[if_neg hc];congr 1;omega
  refine⟨by simp[SV.den,hev,D.asInt,goInt],⟨_,hev,zJC ?_⟩⟩
  have:q<=9223372036854775807:=by simp only[maxLen] at hml;omega
  simp[IntKind.min,IntKind.max,IntKind.signed,IntKind.bits];omega
 have hD:OwnD P (okOf st g w) w e i.size (g.rv m) n xs (d.eval X J):=hD;generalize hdd:d.eval X J=dd at hD hres;cases hD with
 | nil hvv =>
  have hgv:g.rv m = .slice none 0 0:=hvv;have hr:=hres 0 (by simp[D.len]) (by simp[D.len]);refine⟨w,g,?_,Ext.keys (fun n vi hn=>qOA n vi hn) (fun o cs ho=>⟨cs,ho⟩),?_,he.of_env rfl rfl,hr.2⟩
  ·rw[hr.1];have hf:=hfirst 0 (Nat.zero_le _);have hi1:i.size=1:=by rw[hi] at hs1i;simpa using hs1i
   have hsz:=xAA hi w;rw[hi1] at hsz;simp only[SV.den,hgv];simp[Builtin.copy_,run_underlying hu,hlen,hsz,hf]
  ·exact h.setOwn hm (Fr.refl _ w) (fun ok' hok'=>⟨e,i,0,[],hu,hi,⟨by simp,.inl ⟨hgv,rfl⟩⟩,by
    simp only[DE.eval,zDA,Fn.eval,hdd,D.copyD];exact .nil hgv⟩) st.obl
 | bytes hvv he8' hsz1 =>
  rename_i s8;rcases hrow with⟨h1,_⟩|⟨b,cap,cur,h1,_,hg,hn,hcap,hcs,htk⟩
  ·rw[h1] at hvv;simp[Value.ownBlock] at hvv
  have hr:=hres (min s8.length sl.length) (by simp[D.len]) (by simp only[D.len];omega);generalize hq:min s8.length sl.length=q at hr;have hql:(sl.take q).length=q:=by rw[List.length_take];omega
  have hcl:cur.toList.length=cap*i.size:=by rw[Array.length_toList,hcs]
  rw[hsz1] at hcl htk hcs;simp only[Nat.mul_one] at hcl htk hcs;have hst:=run_storeCells_at P b 0 e ((sl.take q).map fun x=>Value.int .u8 (x.toNat:Int)) 0 cur w hg (by simp;omega) (fun v hv=>by
   obtain⟨x,_,rfl⟩:=List.mem_map.1 hv;rfl)
  have hfr:Fr (fun b'=>(g.rv m).ownBlock=some b') w (w.setRow b (yQA cur.toList 0 ((sl.take q).map fun x=>Value.int .u8 (x.toNat:Int))).toArray) :=
   (qXC _ _ _).mono (fun b' _ hb'=>by rw[h1];simp only[Value.ownBlock];rw[hb'])
  refine⟨w.setRow b (yQA cur.toList 0 ((sl.take q).map fun x=>Value.int .u8 (x.toNat:Int))).toArray,g,?_,Ext.keys (fun n vi hn=>qOA n vi hn) (fun o cs ho=>⟨cs,ho⟩),?_,he.of_env rfl rfl,hr.2⟩
  ·rw[hr.1];have hf:=hfirst q (by omega);have hsz:=xAA hi w;rw[hsz1] at hsz;have hmin:Nat.min sl.length s8.length=q:=by show min sl.length s8.length=q;omega
   simp only[SV.den,h1];simp only[Builtin.copy_,List.size_toArray,List.getElem?_toArray,List.getElem?_cons_zero,List.getElem?_cons_succ,Sem.run_bind,run_underlying hu,hlen,hsz,hmin,hf,Result.andThen_ok,Sem.run_pure];rw[hst];rfl
  ·have hco:(D.copyD (.bytes s8) sd).asStr=sl.take s8.length++s8.drop sl.length:=by
    simp only[D.copyD];rw[hs1];rfl
   refine h.setOwn hm hfr (fun ok' hok'=>⟨e,i,s8.length,(D.copyD (.bytes s8) sd).asStr.map fun x=>Value.int .u8 (x.toNat:Int),hu,hi,⟨?_,.inr ⟨b,cap,_,h1,Nat.zero_le _,setRow_heap w _ _ _ _ _ hg,hn,hcap,?_,?_⟩⟩,?_⟩) st.obl
   ·rw[hco];simp only[List.length_map,List.length_append,List.length_take,List.length_drop,hsz1];omega
   ·show (yQA _ _ _).toArray.size=_;rw[List.size_toArray,yMB (by simp;omega),hcl,hsz1,Nat.mul_one]
   ·show (yQA _ _ _).take _=_;rw[hsz1,Nat.mul_one,xJD (by simp;omega) (by omega),htk];rw[hco];simp only[yQA,List.take_zero,List.nil_append,Nat.zero_add,List.length_map,hql,List.map_append,List.map_take,List.map_drop]
    congr 1
    ·rw[List.take_eq_take_iff];simp only[List.length_map];omega
    ·by_cases hle:s8.length<=sl.length
     ·rw[List.drop_of_length_le (by simp only[List.length_map,List.length_take];omega),List.drop_of_length_le (by simp only[List.length_map];omega)]
     ·congr 1;simp only[List.length_map,List.length_take];omega
   ·simp only[DE.eval,zDA,Fn.eval,hdd,hsd]
    have:=OwnD.bytes (P:=P) (ok:=ok') (w:=w.setRow b (yQA cur.toList 0 ((sl.take q).map fun x=>Value.int .u8 (x.toNat:Int))).toArray) (size:=i.size) (s:=(D.copyD (.bytes s8) sd).asStr) hvv he8 hsz1
    have e1:(D.copyD (.bytes s8) sd).asStr.length=s8.length:=by
     rw[hco];simp only[List.length_append,List.length_take,List.length_drop];omega
    rw[e1] at this;exact this
 | list hvv he8'=>exact absurd he8 he8'
theorem xJF{d:DE}{j:Nat}{c:SV}{cs cs':List SV}(h:ySB d j (c::cs)=some cs'):∃e r,c = .i .u8 e/\ySB d (j+1) cs=some r /\
  cs' = .i .u8 (mkf .ite [mkf .ltI [.k (.int (j:Nat)),mkf .len [d]],mkf (.get 0) [mkf .at [d,.k (.int (j:Nat))]],e])::r:=by
 cases c with
 | i k e =>
  cases k with
  | u8 =>
   simp only[ySB] at h;split at h
   ·rename_i r hr;cases h;exact⟨e,r,rfl,hr,rfl⟩
   ·cases h
  | _=>simp[ySB] at h
 | _=>simp[ySB] at h
theorem qCC{d:DE}{sl:List UInt8}(hr:(d.eval X J).rows=sl.map fun x=>.int (x.toNat:Int))(hl:(d.eval X J).len=sl.length):∀(cs cs':List SV) (j:Nat),ySB d j cs=some cs'->oks X J cs ->
  dens X J g cs'=((sl.drop j).take cs.length).map (fun x=>Value.int .u8 (x.toNat:Int))++(dens X J g cs).drop (sl.length-j)/\oks X J cs'/\cs'.length=cs.length
 | [],cs',j,h,ho=>by
  simp only[ySB,Option.some.injEq] at h;subst h;exact⟨by simp[dens],trivial,rfl⟩
 | c::cs,cs',j,h,ho=>by
  ·obtain⟨e,r,rfl,hrr,rfl⟩:=xJF h;obtain⟨k1,k2,k3⟩:=qCC hr hl cs r (j+1) hrr ho.2;obtain⟨m,hm1,hm2⟩:=ho.1;have hev:∀c a b:D,(mkf Fn.ite [mkf .ltI [.k (.int (j:Nat)),mkf .len [d]],mkf (.get 0) [mkf .at [d,.k (.int (j:Nat))]],e]).eval X J=if j<sl.length then (D.int (((sl.getD j 0).toNat:Nat):Int)) else .int m:=fun _ _ _=>by
    rw[zEA];simp only[zDA,zEA,hm1];show (if (D.bool (decide (((j:Nat):Int)<(((d.eval X J).len:Nat):Int)))).asBool then Fn.eval X (.get 0) [((d.eval X J).rows.getD ((j:Int).toNat) .nil)] else D.int m)=_;rw[hl,hr];by_cases hj:j<sl.length
    ·rw[if_pos hj,if_pos (by simp[D.asBool];omega)]
     have:(sl.map fun x=>D.int (x.toNat:Int)).getD ((j:Int).toNat) .nil = .int ((sl.getD j 0).toNat:Int):=by
      simp only[Int.toNat_natCast,List.getD_eq_getElem?_getD,List.getElem?_map,List.getElem?_eq_getElem hj];rfl
     rw[this];rfl
    ·rw[if_neg hj,if_neg (by simp[D.asBool];omega)]
   have hev:=hev .nil .nil .nil;by_cases hj:j<sl.length
   ·rw[if_pos hj] at hev;refine⟨?_,⟨⟨_,hev,?_⟩,k2⟩,by simp[k3]⟩
    ·have hd:sl.drop j=sl.getD j 0::sl.drop (j+1):=by
      rw[List.drop_eq_getElem_cons hj];simp[List.getD_eq_getElem?_getD,List.getElem?_eq_getElem hj]
     rw[show sl.length-j=(sl.length-(j+1))+1 by omega,hd];simp only[dens,SV.den,hev,D.asInt,k1,List.length_cons,List.take_succ_cons,List.map_cons,List.cons_append,List.drop_succ_cons]
    ·have hb:=(sl.getD j 0).toNat_lt;generalize (sl.getD j 0).toNat=q at hb ⊢;refine zJC ?_;simp[IntKind.min,IntKind.max,IntKind.signed,IntKind.bits];omega
   ·rw[if_neg hj] at hev;refine⟨?_,⟨⟨_,hev,hm2⟩,k2⟩,by simp[k3]⟩;rw[List.drop_of_length_le (by omega:sl.length<=j)];rw[List.drop_of_length_le (by omega:sl.length<=j+1)] at k1;rw[show sl.length-(j+1)=0 by omega] at k1;rw[show sl.length-j=0 by omega];simp only[dens,SV.den,hev,D.asInt,k1,hm1]
    simp
theorem xVH(h:Mem P X w0 J st g w)(he:Env X J st g a){t u ty:TypeId}{x y r:SV}{st':St}(hy:y.ok X J)(hc:copyO P st t u x y=some (r,st')) :
  qMA P X w0 J st g a (Builtin.copy_ #[t,u] ty #[x.den X J g,y.den X J g]) w r st':=by
 unfold copyO at hc;split at hc
 rotate_left
 ·cases hc
 rename_i o n;split at hc
 rotate_left
 ·cases hc
 rename_i cs e ho hu;split at hc
 rotate_left
 ·cases hc
 rename_i hcc;obtain⟨rfl,h8,hs1i,hcl⟩:=hcc;split at hc
 rotate_left
 ·cases hc
 rename_i s hs;split at hc
 rotate_left
 ·cases hc
 rename_i cs' hcs;cases hc;have he8:P.underlying e=some (.int .u8):=by
  unfold isU8 at h8;split at h8
  ·assumption
  ·cases h8
 have hsrc:=(yYA h hy hs).bytesAt hu he8;generalize hyv:y.den X J g=yv at hsrc;have hsrclen:∃sl:List UInt8,(s.eval X J).rows=sl.map (fun x=>.int (x.toNat:Int))/\(s.eval X J).len=sl.length/\sl.length<=maxLen/\(Builtin.lenOf yv).run P w = .ok sl.length w /\ ∀q,q<=sl.length->(Builtin.firstCells 1 q yv).run P w = .ok ((sl.take q).map fun x=>Value.int .u8 (x.toNat:Int)).toArray w:=by
  generalize hsd:s.eval X J=sd at hsrc;cases hsrc with
  | nil=>exact⟨[],rfl,rfl,Nat.zero_le _,by simp[Builtin.lenOf],fun q hq=>by simp[Builtin.firstCells]⟩
  | some hsp hcl h1 h2 =>
   rename_i ad cap sl;refine⟨sl,rfl,rfl,by omega,by simp[Builtin.lenOf],fun q hq=>?_⟩;simp only[Builtin.firstCells,Nat.mul_one]
   have:=run_loadCells_list (P:=P) w ad ((sl.take q).map fun x=>Value.int .u8 (x.toNat:Int)) (fun j v hj=>by
    have h0:=(List.getElem?_eq_some_iff.1 hj).1;rw[List.length_map,List.length_take] at h0;rw[yBD (hsp (by omega))];refine hcl j v ?_;rw[List.getElem?_map] at hj ⊢;rw[List.getElem?_take] at hj;split at hj
    ·exact hj
    ·cases hj)
   rw[List.length_map,List.length_take,Nat.min_eq_left hq] at this;exact this
 obtain⟨sl,hr1,hs2,hs3,hlen,hfirst⟩:=hsrclen;obtain⟨⟨tyo,hg⟩,ho1,ho2⟩:=h.ob o cs ho;obtain⟨k1,k2,k3⟩:=qCC (g:=g) hr1 hs2 cs cs' 0 hcs ho2;have hn:n=cs.length:=hcl.symm;subst hn;generalize hq:min cs.length sl.length=q;have hql:(sl.take q).length=q:=by rw[List.length_take];omega
 have hdl:(dens X J g cs).length=cs.length:=yKA ..;have hst:=run_storeCells_at P (g.rb o) 0 tyo ((sl.take q).map fun x=>Value.int .u8 (x.toNat:Int)) 0 (dens X J g cs).toArray w hg (by simp;omega) (fun v hv=>by
   obtain⟨x,_,rfl⟩:=List.mem_map.1 hv;rfl)
 change _=Result.ok () (w.setRow (g.rb o) (yQA (dens X J g cs) 0 ((sl.take q).map fun x=>Value.int .u8 (x.toNat:Int))).toArray) at hst;have hev:(mkf Fn.imin [.k (.int (cs.length:Nat)),mkf .len [s]]).eval X J = .int (q:Int):=by
  rw[zEA];simp only[zDA,zEA];show D.int (if ((s.eval X J).len:Int)<((cs.length:Nat):Int) then ((s.eval X J).len:Int) else ((cs.length:Nat):Int))=_;rw[hs2];by_cases hc:(sl.length:Int)<(cs.length:Int)
  ·rw[if_pos hc];congr 1;omega
  ·rw[if_neg hc];congr 1;omega
 have hspl:yQA (dens X J g cs) 0 ((sl.take q).map fun x=>Value.int .u8 (x.toNat:Int))=dens X J g cs':=by
  rw[k1];simp only[yQA,List.take_zero,List.nil_append,Nat.zero_add,List.length_map,hql,List.drop_zero,Nat.sub_zero]
  congr 1
  ·congr 1
   rw[List.take_eq_take_iff];omega
  ·by_cases hle:cs.length<=sl.length
   ·rw[List.drop_of_length_le (by omega),List.drop_of_length_le (by omega)]
   ·congr 1;omega
 rw[hspl] at hst;refine⟨w.setRow (g.rb o) (dens X J g cs').toArray,g,?_,Ext.keys (fun n vi hn=>⟨vi,hn⟩) (fun p c hp=>qOA p c hp),?_,he.of_env rfl rfl,⟨_,hev,zJC ?_⟩⟩
 ·have hf:=hfirst q (by omega);obtain⟨i,hi,hi1⟩:∃i,P.info? e=some i/\i.size=1:=by
   cases hh:P.info? e with
   | none=>rw[hh] at hs1i;cases hs1i
   | some i=>rw[hh] at hs1i;exact⟨i,rfl,by simpa using hs1i⟩
  have hsz:=xAA hi w;rw[hi1] at hsz;have hmin:Nat.min sl.length cs.length=q:=by show min sl.length cs.length=q;omega
  simp only[SV.den,hev,D.asInt];simp only[Builtin.copy_,List.size_toArray,List.getElem?_toArray,List.getElem?_cons_zero,List.getElem?_cons_succ,Sem.run_bind,run_underlying hu,hlen,hsz,hmin,hf,Result.andThen_ok,Sem.run_pure];rw[hst];rfl
 ·refine h.setObj (t:=tyo) ho ?_ (qXC _ _ _) ?_ k2
  ·exact setRow_heap w _ _ _ _ _ hg
  ·intro v hv;rw[k1,List.mem_append] at hv;rcases hv with hv|hv
   ·obtain⟨x,_,rfl⟩:=List.mem_map.1 hv;rfl
   ·exact ho1 v (List.mem_of_mem_drop hv)
 ·have:q<=9223372036854775807:=by simp only[maxLen] at hs3;omega
  simp[IntKind.min,IntKind.max,IntKind.signed,IntKind.bits];omega
theorem xUH(h:Mem P X w0 J st g w)(he:Env X J st g a){t u ty:TypeId}{x y r:SV}{st':St}(hy:y.ok X J)(hc:copyA P st t u x y=some (r,st')) :
  qMA P X w0 J st g a (Builtin.copy_ #[t,u] ty #[x.den X J g,y.den X J g]) w r st':=by
 unfold copyA at hc;split at hc
 ·rename_i q hq;cases hc;exact xWH h he hy hq
 ·exact xVH h he hy hc
end
end Go.Dx
namespace Go.Dx
open Go
section
variable {P:Program} {X:Nat->List D->D} {Pre:Nat->List D->Prop} {w0:Base} {J:List D} {st:St} {g:Gh} {w:World} {a:Act}
theorem Rep.rowAt{ok:Nat->Prop}{t e:TypeId}{i:TypeInfo}{v:Value}{d:D}(h:Rep P ok w t v d)(hu:P.underlying t=some (.slice e))(hi:P.info? e=some i)(hu8:P.underlying e=some (.int .u8)->i.size=1) :
  d.len=d.rows.length/\d.len<=maxLen /\ ∀k,k<d.rows.length -> ∃b off len cap rv,v = .slice (some ⟨b,off,none⟩) len cap/\k<len/\Rep P ok w e rv (d.rows.getD k .nil)/\ok b/\xQA w b (off+k*i.size) rv.cells.toList:=by
 cases h with
 | snil=>exact⟨rfl,by simp[D.len],fun k hk=>by simp[D.rows] at hk⟩
 | bytes hu' he hok hcap hmax hc =>
  rename_i e' cap ad s;rw[hu] at hu';cases hu'
  refine⟨by simp[D.len,D.rows],by simp only[D.len];omega,fun k hk=>?_⟩;simp only[D.rows,List.length_map] at hk;obtain⟨hsp,hok⟩:=hok (by omega);refine⟨ad.block,ad.off,_,_,.int .u8 (s[k].toNat),by rw[<- at_eq hsp],hk,?_,hok,?_⟩
  ·have:(D.bytes s).rows.getD k .nil = .int (s[k].toNat):=by simp[D.rows,List.getD,hk]
   rw[this];refine .int he (zJC ?_)
   have:=s[k].toNat_lt
   simp[IntKind.min,IntKind.max,IntKind.signed,IntKind.bits];omega
  ·intro j u hj;cases j with
   | zero =>
    simp[Value.cells] at hj;subst hj;rw[hu8 he,Nat.mul_one,Nat.add_zero];exact hc k _ (by simp[hk])
   | succ j=>simp[Value.cells] at hj
 | list hu' he hi' hok hlen hcap hmax hsz hc hr =>
  rename_i e' cap ad i' vs ds;rw[hu] at hu';cases hu'
  rw[hi] at hi';cases hi'
  refine⟨by simp[D.len,D.rows],by simp only[D.len];omega,fun k hk=>?_⟩;simp only[D.rows] at hk;obtain⟨hsp,hok⟩:=hok (by omega);have h1:vs[k]? = some vs[k]:=List.getElem?_eq_getElem (by omega);have h2:ds[k]? = some ds[k]:=List.getElem?_eq_getElem hk;refine⟨ad.block,ad.off,_,_,vs[k],by rw[<- at_eq hsp],hk,?_,hok,hc k _ h1⟩
  have:(D.list ds).rows.getD k .nil=ds[k]:=by simp[D.rows,List.getD,hk]
  rw[this];exact hr k _ _ h1 h2
 | int hu'=>rw[hu] at hu';cases hu'
 | bool hu'=>rw[hu] at hu';cases hu'
 | str hu'=>rw[hu] at hu';cases hu'
 | flt hu'=>rw[hu] at hu';cases hu'
 | row hu' hd=>rw[hu] at hu';cases hu';simp[zGA] at hd
 | pnil hu'=>rw[hu] at hu';cases hu'
 | ptr hu'=>rw[hu] at hu';cases hu'
 | mnil hu'=>rw[hu] at hu';cases hu'
 | map hu'=>rw[hu] at hu';cases hu'
theorem zYI{e:TypeId}{i:TypeInfo}(h:(!isU8 P e || i.size==1)=true):P.underlying e=some (.int .u8)->i.size=1:=fun h8=>by
 simp only[Bool.or_eq_true,Bool.not_eq_true',beq_iff_eq] at h;rcases h with h|h
 ·simp[isU8,h8] at h
 ·exact h
theorem zXJ(h:Mem P X w0 J st g w)(he:Env X J st g a){n:Nat}{t:TypeId}{x ix r:SV}{st':St}(hx:x.ok X J)(hix:ix.ok X J)(hi:idxO P st n t x ix=some (r,st'))(hob:zCA X Pre st'.obl J) :
  qMA P X w0 J st g a (Instr.indexAt t (x.den X J g) (ix.den X J g)) w r st':=by
 unfold idxO at hi;split at hi
 ·rename_i e d kk k hu hd;split at hi
  ·rename_i i hinf;split at hi
   ·rename_i h8;split at hi
    ·rename_i st1 hn;cases hi;rw[xGA hn] at hob;have ho:=hob.1;simp only[Ob.holds,if_true] at ho;obtain⟨m,hm1,hm2⟩:=hix;rw[hm1] at ho;simp only[D.asInt] at ho;have hrep:=yYA h hx hd;obtain⟨l1,l2,l3⟩:=hrep.rowAt hu hinf (zYI h8);obtain⟨b,off,len,cap,rv,e1,e2,e3,e4,e5⟩:=l3 m.toNat (by rw[<- l1];exact ho.2);unfold newV at hn;split at hn
     ·rename_i hf;cases hn;have hM:=h.change (Fr.refl (fun _=>False) w) (fun b _ e=>e.elim) (addOb st (.idx k d true)) rfl (fun l hl=>hl) (fun o cs ho=>⟨ho,fun e=>e⟩) (fun m vi hm=>.inr ⟨hm,fun b _ e=>e⟩) n ⟨.row e,mkf .at [d,k]⟩ rv (b,off+m.toNat*i.size) hf
       (by simp[zFA]) (fun ok' h1 h2=>by
        simp only[qUA,zEA,zDA,Fn.eval,hm1,D.asInt];exact⟨e3.mono h1 (fun _ _=>rfl),h1 b e4,e5⟩)
      refine⟨w,g.setV n rv (b,off+m.toNat*i.size),?_,Ext.setV (show lk n st.vars=none from qNA hf) _ _ (fun m vi hm=>xVB m vi hm) (fun o cs ho=>⟨cs,ho⟩),hM,(he.setV hf rv _).of_env rfl rfl,trivial⟩;rw[e1];have hlt:m<len:=by omega
      have:=xEC hu hinf b off len cap kk m ho.1 hlt w
      simpa[SV.den,hm1,D.asInt,Gh.setV] using this
     ·cases hn
    ·cases hi
   ·cases hi
  ·cases hi
 ·cases hi
theorem Rep.home{ok:Nat->Prop}{t e:TypeId}{v:Value}{d:D}(h:Rep P ok w t v d)(hu:P.underlying t=some (.slice e)) :
  ∃ad len cap,v = .slice ad len cap/\len=d.len/\len<=cap/\cap<=maxLen/\(cap≠0 -> ∀b,ad=some b -> ∃c o,b=⟨c,o,none⟩/\ok c):=by
 cases h with
 | snil=>exact⟨none,0,0,rfl,rfl,Nat.le_refl _,Nat.zero_le _,by simp⟩
 | bytes hu' he hok hcap hmax hc=>exact⟨_,_,_,rfl,rfl,hcap,hmax,fun h0 b hb=>by cases hb;obtain⟨hsp,hok⟩:=hok (by omega);exact⟨_,_,at_eq hsp,hok⟩⟩
 | list hu' he hi hok hlen hcap hmax=>exact⟨_,_,_,rfl,rfl,hcap,hmax,fun h0 b hb=>by cases hb;obtain⟨hsp,hok⟩:=hok (by omega);exact⟨_,_,at_eq hsp,hok⟩⟩
 | int hu'=>rw[hu] at hu';cases hu'
 | bool hu'=>rw[hu] at hu';cases hu'
 | str hu'=>rw[hu] at hu';cases hu'
 | flt hu'=>rw[hu] at hu';cases hu'
 | row hu' hd=>rw[hu] at hu';cases hu';simp[zGA] at hd
 | pnil hu'=>rw[hu] at hu';cases hu'
 | ptr hu'=>rw[hu] at hu';cases hu'
 | mnil hu'=>rw[hu] at hu';cases hu'
 | map hu'=>rw[hu] at hu';cases hu'
theorem Rep.takeD{ok:Nat->Prop}{t e:TypeId}{ad:Option Addr}{len cap:Nat}{d:D}(h:Rep P ok w t (.slice ad len cap) d)(hu:P.underlying t=some (.slice e)){k:Nat}(hk:k<=len):Rep P ok w t (.slice ad k cap) (d.takeD k):=by
 generalize hv:Value.slice ad len cap=v at h;cases h with
 | snil =>
  cases hv
  have:k=0:=by omega
  subst this;exact .snil hu
 | bytes hu' he hok hcap hmax hc =>
  rename_i e' cap' ad' s;cases hv;have hl:(s.take k).length=k:=by rw[List.length_take];omega
  have:=Rep.bytes (ok:=ok) (s:=s.take k) hu' he hok (by omega) hmax (fun j v hj=>hc j v (by
   rw[List.getElem?_map] at hj ⊢;rw[List.getElem?_take] at hj;split at hj
   ·exact hj
   ·cases hj))
  rw[hl] at this;exact this
 | list hu' he hi hok hlen hcap hmax hsz hc hr =>
  rename_i e' cap' ad' i vs ds;cases hv;have hl:(ds.take k).length=k:=by rw[List.length_take];omega
  have hget:∀(j:Nat) (v:Value),(vs.take k)[j]? = some v->vs[j]? = some v:=fun j v hj=>by
   rw[List.getElem?_take] at hj;split at hj
   ·exact hj
   ·cases hj
  have hgetd:∀(j:Nat) (v:D),(ds.take k)[j]? = some v->ds[j]? = some v:=fun j v hj=>by
   rw[List.getElem?_take] at hj;split at hj
   ·exact hj
   ·cases hj
  have:=Rep.list (ok:=ok) (vs:=vs.take k) (ds:=ds.take k) hu' he hi hok (by rw[List.length_take,List.length_take,hlen]) (by omega) hmax (fun v hv=>hsz v (List.mem_of_mem_take hv)) (fun j v hj=>hc j v (hget j v hj)) (fun j v d h1 h2=>hr j v d (hget j v h1) (hgetd j d h2))
  rw[hl] at this;exact this
 | _=>cases hv
theorem Rep.dropD{ok:Nat->Prop}{t e:TypeId}{i:TypeInfo}{ad:Option Addr}{len cap:Nat}{d:D}(h:Rep P ok w t (.slice ad len cap) d)(hu:P.underlying t=some (.slice e))(hi:P.info? e=some i)(hu8:P.underlying e=some (.int .u8)->i.size=1){k:Nat}(hk:k<=len) :
  Rep P ok w t (.slice (if cap=k then ad else ad.map (fun x=>x.add (k*i.size))) (len-k) (cap-k)) (d.dropD k):=by
 generalize hv:Value.slice ad len cap=v at h;cases h with
 | snil =>
  cases hv
  have:k=0:=by omega
  subst this;exact .snil hu
 | bytes hu' he hok hcap hmax hc =>
  rename_i e' cap' ad' s;cases hv;rw[hu] at hu';cases hu'
  have hl:(s.drop k).length=s.length-k:=List.length_drop;by_cases hck:cap=k
  ·have hs:s.drop k=[]:=by rw[List.drop_eq_nil_iff];omega
   have e1:s.length-k=0:=by omega
   simp only[hck,if_true];show Rep P ok w t _ (.bytes (s.drop k));rw[hs,e1,Nat.sub_self];exact Rep.bytes (s:=[]) hu he (fun h=>absurd h (by omega)) (Nat.le_refl _) (Nat.zero_le _) (fun j v hj=>by simp at hj)
  ·obtain⟨hsp,hok⟩:=hok (by omega);simp only[hck,if_false,Option.map_some,yBD hsp,hu8 he,Nat.mul_one]
   have:=Rep.bytes (ok:=ok) (s:=s.drop k) (ad:=⟨ad'.block,ad'.off+k,none⟩) (cap:=cap-k) hu he (fun _=>⟨rfl,hok⟩) (by omega) (by omega) (fun j v hj=>by
    rw[List.getElem?_map,List.getElem?_drop] at hj
    have:=hc (k+j) v (by rw[List.getElem?_map];exact hj)
    rwa [<- Nat.add_assoc] at this)
   rw[hl] at this;exact this
 | list hu' he hi' hok hlen hcap hmax hsz hc hr =>
  rename_i e' cap' ad' i' vs ds;cases hv;rw[hu] at hu';cases hu'
  rw[hi] at hi';cases hi'
  have hl:(ds.drop k).length=ds.length-k:=List.length_drop;by_cases hck:cap=k
  ·have hs:ds.drop k=[]:=by rw[List.drop_eq_nil_iff];omega
   have e1:ds.length-k=0:=by omega
   simp only[hck,if_true];show Rep P ok w t _ (.list (ds.drop k));rw[hs,e1,Nat.sub_self];exact Rep.list (vs:=[]) (ds:=[]) hu he hi (fun h=>absurd h (by omega)) rfl (Nat.le_refl _) (Nat.zero_le _) (by simp) (by simp) (by simp)
  ·obtain⟨hsp,hok⟩:=hok (by omega);simp only[hck,if_false,Option.map_some,yBD hsp]
   have:=Rep.list (ok:=ok) (vs:=vs.drop k) (ds:=ds.drop k) (ad:=⟨ad'.block,ad'.off+k*i.size,none⟩) (cap:=cap-k) hu he hi (fun _=>⟨rfl,hok⟩) (by rw[List.length_drop,List.length_drop,hlen]) (by omega) (by omega) (fun v hv=>hsz v (List.mem_of_mem_drop hv)) (fun j v hj=>by
    rw[List.getElem?_drop] at hj
    have:=hc (k+j) v hj
    rw[Nat.add_mul] at this
    rwa [<- Nat.add_assoc] at this) (fun j v d h1 h2=>by
    rw[List.getElem?_drop] at h1 h2;exact hr (k+j) v d h1 h2)
   rw[hl] at this;exact this
 | _=>cases hv
theorem xFC{t e:TypeId}{i:TypeInfo}(hu:P.underlying t=some (.slice e))(hi:P.info? e=some i)(ad:Option Addr)(len cap:Nat)(k:Int)(h0:0<=k)(hk:k<=cap)(ha:cap≠0 -> ∀b,ad=some b -> ∃c o,b=⟨c,o,none⟩)(w:World) :
  (Instr.sliceAt t (.slice ad len cap) none (some (.int .i64 k)) none).run P w = .ok (.slice ad k.toNat cap) w:=by
 have hm:(if cap=0 then ad else ad.map (fun x=>x.add (0*i.size)))=ad:=by
  cases ad with
  | none=>simp
  | some b =>
   by_cases h0:cap=0
   ·rw[if_pos h0]
   ·obtain⟨c,o,rfl⟩:=ha h0 b rfl;simp[zWB]
 unfold Instr.sliceAt Instr.slice;simp only[Sem.run_bind,run_underlying hu,Result.andThen_ok,Instr.sliceBounds,Instr.sliceBound,asIntOf,Sem.run_pure,h0,hk,and_self,if_true,xAA hi,Nat.sub_zero];rw[hm]
theorem yBH{t e:TypeId}{i:TypeInfo}(hu:P.underlying t=some (.slice e))(hi:P.info? e=some i)(ad:Option Addr)(len cap:Nat)(k:Int)(h0:0<=k)(hk:k<=cap)(ha:cap≠0 -> ∀b,ad=some b -> ∃c o,b=⟨c,o,none⟩)(w:World) :
  (Instr.sliceAt t (.slice ad len cap) none (some (.int .i64 k)) (some (.int .i64 k))).run P w = .ok (.slice ad k.toNat k.toNat) w:=by
 have hm:(if k.toNat=0 then ad else ad.map (fun x=>x.add (0*i.size)))=ad:=by
  cases ad with
  | none=>simp
  | some b =>
   by_cases h0:k.toNat=0
   ·rw[if_pos h0]
   ·obtain⟨c,o,rfl⟩:=ha (by omega) b rfl;simp[zWB]
 have hk2:k<=(k.toNat:Int):=by omega
 unfold Instr.sliceAt Instr.slice;simp only[Sem.run_bind,run_underlying hu,Result.andThen_ok,Instr.sliceBounds,Instr.sliceBound,asIntOf,Sem.run_pure,h0,hk,hk2,and_self,if_true,xAA hi,Nat.sub_zero];rw[hm]
theorem Rep.recap{ok:Nat->Prop}{t:TypeId}{ad:Option Addr}{len cap c:Nat}{d:D}(h:Rep P ok w t (.slice ad len cap) d)(h1:len<=c)(h2:c<=cap):Rep P ok w t (.slice ad len c) d:=by
 generalize hv:Value.slice ad len cap=v at h;cases h with
 | snil hu =>
  cases hv
  have:c=0:=by omega
  subst this;exact .snil hu
 | bytes hu he hok hcap hmax hc =>
  cases hv;exact .bytes hu he (fun h=>hok (by omega)) h1 (by omega) hc
 | list hu he hi hok hlen hcap hmax hsz hc hr =>
  cases hv;exact .list hu he hi (fun h=>hok (by omega)) hlen h1 (by omega) hsz hc hr
 | _=>cases hv
theorem qWD{t e:TypeId}{i:TypeInfo}(hu:P.underlying t=some (.slice e))(hi:P.info? e=some i)(ad:Option Addr)(len cap:Nat)(k:Int)(h0:0<=k)(hk:k<=len)(w:World) :
  (Instr.sliceAt t (.slice ad len cap) (some (.int .i64 k)) none none).run P w = .ok (.slice (if cap=k.toNat then ad else ad.map (fun x=>x.add (k.toNat*i.size))) (len-k.toNat) (cap-k.toNat)) w:=by
 unfold Instr.sliceAt Instr.slice;simp only[Sem.run_bind,run_underlying hu,Result.andThen_ok,Instr.sliceBounds,Instr.sliceBound,asIntOf,Sem.run_pure,h0,hk,and_self,if_true,xAA hi]
theorem qOK(h:Mem P X w0 J st g w)(he:Env X J st g a){n:Nat}{t:TypeId}{x r:SV}{lo hi mx:Option SV}{st':St}(hx:x.ok X J)(hlo:∀s,lo=some s->s.ok X J)(hhi:∀s,hi=some s->s.ok X J)(hs:slS P st n t x lo hi mx=some (r,st'))(hob:zCA X Pre st'.obl J) :
  qMA P X w0 J st g a (Instr.sliceAt t (x.den X J g) (lo.map (SV.den X J g)) (hi.map (SV.den X J g)) (mx.map (SV.den X J g))) w r st':=by
 unfold slS at hs;split at hs
 ·rename_i e hu;split at hs
  ·rename_i d i hd hinf;obtain⟨hm1,_⟩:=Mem.settle x h;have he1:=he.settle x;have hrep:=yYA hm1 hx hd;obtain⟨ad,len,cap,hv,hl,hlc,hcm,hhome⟩:=hrep.home hu;split at hs
   ·rename_i h8;have key:∀(k:DE) (fn:Fn) (v':Value),zCA X Pre (addOb (Dx.settle st x) (.idx k d false)).obl J->newV (addOb (Dx.settle st x) (.idx k d false)) ⟨.set t,mkf fn [d,k]⟩ n=some st'->r = .x n ->
      (∀w,(Instr.sliceAt t (x.den X J g) (lo.map (SV.den X J g)) (hi.map (SV.den X J g)) (mx.map (SV.den X J g))).run P w = .ok v' w)->Rep P (okOf (Dx.settle st x) g w) w t v' (fn.eval X [d.eval X J,k.eval X J]) ->
      qMA P X w0 J st g a (Instr.sliceAt t (x.den X J g) (lo.map (SV.den X J g)) (hi.map (SV.den X J g)) (mx.map (SV.den X J g))) w r st':=by
     intro k fn v' _ hn hr hrun hrv;subst hr;have hm2:Mem P X w0 J (addOb (Dx.settle st x) (.idx k d false)) g w:=⟨hm1.va,hm1.ob,hm1.oo,hm1.vv,hm1.ov,hm1.lo,hm1.lp,hm1.fr,hm1.lv,hm1.ex,hm1.gl⟩;have he2:Env X J (addOb (Dx.settle st x) (.idx k d false)) g a:=he1.of_env rfl rfl;obtain⟨k1,k2,k3,k4,_⟩:=xJC hm2 he2 (Fr.refl (fun _=>False) w) hn (v:=v') (fun ok' h1 _=>by rw[zEA];simp only[zDA];exact hrv.mono h1 (fun _ _=>rfl));refine⟨w,_,by rw[k4];exact hrun w,(Ext.settle st g x).trans ?_,k1,k2,trivial⟩;exact⟨fun m vi hm=>k3.rv m vi hm,fun o cs ho=>k3.rb o cs ho⟩
    split at hs
    ·rename_i k;split at hs
     ·rename_i st1 hn;cases hs;rw[xGA hn] at hob;have ho:=hob.1;obtain⟨m,hm1',_⟩:=hhi _ rfl;simp only[Ob.holds,hm1',D.asInt,bfZ,if_false] at ho;refine key k .take (.slice ad m.toNat cap) hob hn rfl (fun w=>?_) ?_
      ·rw[hv];simp only[Option.map_none,Option.map_some,SV.den,hm1',D.asInt];exact xFC hu hinf ad len cap m ho.1 (by omega) (fun h0 b hb=>by obtain⟨c,o,h1,_⟩:=hhome h0 b hb;exact⟨c,o,h1⟩) w
      ·rw[hv] at hrep;simp only[Fn.eval,hm1',D.asInt];exact hrep.takeD hu (by omega)
     ·cases hs
    ·rename_i k;split at hs
     ·rename_i st1 hn;cases hs;rw[xGA hn] at hob;have ho:=hob.1;obtain⟨m,hm1',_⟩:=hlo _ rfl;simp only[Ob.holds,hm1',D.asInt,bfZ,if_false] at ho;refine key k .drop (.slice (if cap=m.toNat then ad else ad.map (fun x=>x.add (m.toNat*i.size))) (len-m.toNat) (cap-m.toNat)) hob hn rfl (fun w=>?_) ?_
      ·rw[hv];simp only[Option.map_none,Option.map_some,SV.den,hm1',D.asInt];exact qWD hu hinf ad len cap m ho.1 (by omega) w
      ·rw[hv] at hrep;simp only[Fn.eval,hm1',D.asInt];exact hrep.dropD hu hinf (zYI h8) (by omega)
     ·cases hs
    ·rename_i k k';split at hs
     rotate_left
     ·cases hs
     rename_i hkk;have hkk:=DE.beq_eq hkk;subst hkk;split at hs
     ·rename_i st1 hn;cases hs;rw[xGA hn] at hob;have ho:=hob.1;obtain⟨m,hm1',_⟩:=hhi _ rfl;simp only[Ob.holds,hm1',D.asInt,bfZ,if_false] at ho;refine key k .take (.slice ad m.toNat m.toNat) hob hn rfl (fun w=>?_) ?_
      ·rw[hv];simp only[Option.map_none,Option.map_some,SV.den,hm1',D.asInt];exact yBH hu hinf ad len cap m ho.1 (by omega) (fun h0 b hb=>by obtain⟨c,o,h1,_⟩:=hhome h0 b hb;exact⟨c,o,h1⟩) w
      ·rw[hv] at hrep;simp only[Fn.eval,hm1',D.asInt];exact(hrep.takeD hu (by omega)).recap (Nat.le_refl _) (by omega)
     ·cases hs
    ·cases hs
   ·cases hs
  ·cases hs
 ·cases hs
theorem isNil_eq{d:D}(h:d.isNil=true):d = .nil:=by cases d <;> simp[D.isNil] at h;rfl
theorem Rep.nilSlice{ok:Nat->Prop}{t e:TypeId}{v:Value}(h:Rep P ok w t v .nil)(hu:P.underlying t=some (.slice e)):v = .slice none 0 0:=by
 cases h with
 | snil=>rfl
 | pnil hu'=>rw[hu] at hu';cases hu'
 | mnil hu'=>rw[hu] at hu';cases hu'
theorem yRA.cut0{ok:Nat->Prop}{t e:TypeId}{v:Value}{d:D}(h:yRA P ok w t v d)(hu:P.underlying t=some (.slice e)) :
  ∃ad len cap,v = .slice ad len cap/\(cap≠0 -> ∀b,ad=some b -> ∃c o,b=⟨c,o,none⟩)/\yRA P ok w t (.slice ad 0 cap) (d.takeD 0)/\(Value.slice ad 0 cap).ownBlock=v.ownBlock:=by
 obtain⟨e',i,n,xs,hu',hi,hown,hD⟩:=h;rw[hu] at hu';cases hu'
 obtain⟨h1,h2⟩:=hown;rcases h2 with⟨rfl,h3⟩|⟨g,cap,cur,rfl,hg,hh,hn,hm,hc,hx⟩
 ·refine⟨none,0,0,rfl,by simp,?_,rfl⟩;have hd:d.takeD 0 = .nil:=by
   cases hD with
   | nil=>rfl
   | bytes hv=>simp[Value.ownBlock] at hv
   | list hv=>simp[Value.ownBlock] at hv
  rw[hd];exact yRA.nilv hu hi
 ·refine⟨some ⟨g,0,none⟩,n,cap,rfl,fun _ b hb=>by cases hb;exact⟨g,0,rfl⟩,⟨e,i,0,[],hu,hi,⟨by simp,.inr ⟨g,cap,cur,rfl,hg,hh,Nat.zero_le _,hm,hc,by simp⟩⟩,?_⟩,rfl⟩;cases hD with
  | nil hv=>cases hv
  | bytes hv he hs=>exact OwnD.bytes (s:=[]) (by simp[Value.ownBlock]) he hs
  | list hv he hlen hsz hr=>exact OwnD.list (vs:=[]) (ds:=[]) (by simp[Value.ownBlock]) he rfl (by simp) (by simp)
theorem qQK(h:Mem P X w0 J st g w)(he:Env X J st g a){n:Nat}{t:TypeId}{x r:SV}{st':St}(hx:x.ok X J)(hs:slZ P st n t x=some (r,st'))(hob:zCA X Pre st'.obl J) :
  qMA P X w0 J st g a (Instr.sliceAt t (x.den X J g) none (some (.int .i64 0)) none) w r st':=by
 unfold slZ at hs;split at hs
 rotate_left
 ·cases hs
 rename_i e hu;split at hs
 rotate_left
 ·cases hs
 rename_i i hi;split at hs
 ·rename_i d hd;have hrep:=yYA h hx hd;have main:d.eval X J = .nil->qMA P X w0 J st g a (Instr.sliceAt t (x.den X J g) none (some (.int .i64 0)) none) w (.c .nils) st/\(Instr.sliceAt t (x.den X J g) none (some (.int .i64 0)) none).run P w = .ok ((SV.c .nils).den X J g) w:=fun hn=>by
   rw[hn] at hrep;have hv:=hrep.nilSlice hu;have hrun:(Instr.sliceAt t (x.den X J g) none (some (.int .i64 0)) none).run P w = .ok ((SV.c .nils).den X J g) w:=by
    rw[hv];exact xFC hu hi none 0 0 0 (by omega) (by omega) (by simp) w
   exact⟨⟨w,g,hrun,Ext.keys (fun n vi hn=>⟨vi,hn⟩) (fun o cs ho=>⟨cs,ho⟩),h,he,trivial⟩,hrun⟩
  split at hs
  ·rename_i hb;have hb:=DE.beq_eq hb;subst hb;cases hs;exact(main rfl).1
  ·cases hs;have ho:=hob.1;have hn:d.eval X J = .nil:=by
    cases hq:(d.eval X J).isNil with
    | true=>exact isNil_eq hq
    | false =>
     exfalso;have e1:((DE.f .not [.f .isNil [d]]).eval X J).asBool=true:=by
      show (D.bool (!(d.eval X J).isNil)).asBool=true;rw[hq];rfl
     simp only[Ob.holds] at ho
     have:=ho e1
     simp[zCA,Ob.holds,DE.eval,D.asInt] at this
   exact⟨w,g,(main hn).2,Ext.keys (fun n vi hn=>⟨vi,hn⟩) (fun o cs ho=>⟨cs,ho⟩),h.withOb1 _,he.of_env rfl rfl,trivial⟩
 ·split at hs
  rotate_left
  ·cases hs
  rename_i d st1 hto;split at hs
  rotate_left
  ·cases hs
  rename_i st2 hn;cases hs;obtain⟨hdr,hown,hact,_⟩:=xHC h hu hi hto;obtain⟨ad,len,cap,hv,hhome,hcut,hbk⟩:=hown.cut0 hu;obtain⟨k1,k2,k3,k4,_⟩:=qOB h he ((Fr.refl (fun b=>(x.den X J g).ownBlock=some b)) w) (fun b _ hb=>hact b hb) hdr hn (v:=.slice ad 0 cap) (fun b hb=>by
    have hb':(x.den X J g).ownBlock=some b:=hbk▸hb;exact⟨.inr hb',h.act_lt (hact b hb')⟩) (fun ok' h1 _=>by
    simp only[qUA]
    have:(DE.f .take [d,.k (.int 0)]).eval X J=(d.eval X J).takeD 0:=rfl
    rw[this];exact hcut.mono h1 (fun _ _=>rfl) (fun _ _=>rfl))
  refine⟨w,_,?_,k3,k1,k2,trivial⟩;rw[k4,hv];exact xFC hu hi ad len cap 0 (by omega) (by omega) hhome w
theorem qMK{t:TypeId}{x r:SV}(hs:slO P t x=some r)(w:World):(Instr.sliceAt t (x.den X J g) none none none).run P w = .ok (r.den X J g) w/\r.ok X J:=by
 unfold slO at hs;split at hs
 rotate_left
 ·cases hs
 rename_i o;split at hs
 rotate_left
 ·cases hs
 rename_i n e hu;split at hs
 rotate_left
 ·cases hs
 rename_i hc;cases hs;simp only[baZ,dtZ] at hc;obtain⟨hi,hn⟩:=hc;cases hi':P.info? e with
 | none=>rw[hi'] at hi;cases hi
 | some i =>
  refine⟨?_,trivial⟩;have hsz:=xAA hi' w;have hn0:¬(n=0):=by omega
  simp only[Instr.sliceAt,SV.den,Sem.run_bind,run_underlying hu,Result.andThen_ok,Instr.sureAddr,Sem.run_pure,Instr.sliceBounds];simp[hsz,hn0,Addr.add]
theorem qLK(h:Mem P X w0 J st g w)(he:Env X J st g a){n:Nat}{t:TypeId}{x r:SV}{lo hi mx:Option SV}{st':St}(hx:x.ok X J)(hlo:∀s,lo=some s->s.ok X J)(hhi:∀s,hi=some s->s.ok X J)(hs:slA P st n t x lo hi mx=some (r,st'))(hob:zCA X Pre st'.obl J) :
  qMA P X w0 J st g a (Instr.sliceAt t (x.den X J g) (lo.map (SV.den X J g)) (hi.map (SV.den X J g)) (mx.map (SV.den X J g))) w r st':=by
 unfold slA at hs;split at hs
 ·rename_i hc;simp only[baZ,Option.isNone_iff_eq_none] at hc;obtain⟨⟨rfl,rfl⟩,hz⟩:=hc;have hz':hi=some (.i .i64 (.k (.int 0))):=by
   unfold isZ at hz;split at hz
   ·rfl
   ·cases hz
  subst hz';exact qQK h he hx hs hob
 ·split at hs
  ·rename_i hc;simp only[baZ,Option.isNone_iff_eq_none] at hc;obtain⟨⟨rfl,rfl⟩,rfl⟩:=hc;split at hs
   ·rename_i q hq;cases hs;obtain⟨k1,k2⟩:=qMK (X:=X) (J:=J) (g:=g) hq w;exact qMA.quiet h he k1 k2
   ·cases hs
  ·exact qOK h he hx hlo hhi hs hob
theorem zUE(he:Env X J st g a){o:Option Operand}{s:Option SV}(h:opdO st o=some s):o.map a.eval=s.map (SV.den X J g) /\ ∀v,s=some v->v.ok X J:=by
 cases o with
 | none=>simp only[opdO,Option.some.injEq] at h;subst h;exact⟨rfl,by simp⟩
 | some x =>
  simp only[opdO,Option.map_eq_some_iff] at h;obtain⟨v,hv,rfl⟩:=h;obtain⟨h1,h2⟩:=qQC he hv;exact⟨by simp[h1],fun u hu=>by cases hu;exact h2⟩
theorem zVJ(h:Mem P X w0 J st g w)(he:Env X J st g a){n:Nat}{t:TypeId}{x ix r:SV}{st':St}(hx:x.ok X J)(hix:ix.ok X J)(hi:idxA P st n t x ix=some (r,st'))(hob:zCA X Pre st'.obl J) :
  qMA P X w0 J st g a (Instr.indexAt t (x.den X J g) (ix.den X J g)) w r st':=by
 unfold idxA at hi;split at hi
 ·rename_i q hq;cases hi;obtain⟨k1,k2⟩:=qPF h hq;exact qMA.quiet h he k1 k2
 ·split at hi
  ·rename_i q hq;cases hi;exact zWJ h he hix hq hob
  ·exact zXJ h he hx hix hi hob
theorem yFJ{l:List SV}{r:SV}(hl:oks X J l)(hm:maxS l=some r)(ts:Array TypeId)(ty:TypeId)(w:World) :
  (Builtin.max_ ts ty (dens X J g l).toArray).run P w = .ok (r.den X J g) w/\r.ok X J:=by
 unfold maxS at hm;split at hm
 ·rename_i k e k' e';split at hm
  ·rename_i hk;subst hk;cases hm;obtain⟨⟨n,h1,h2⟩,⟨m,h3,h4⟩,_⟩:=hl;refine⟨?_,⟨if m>n then m else n,by rw[zEA];simp only[zDA,Fn.eval,h1,h3,D.asInt];congr 1,by split <;> assumption⟩⟩;simp[Builtin.max_,dens,SV.den,Builtin.max2,zEA,zDA,Fn.eval,h1,h3,D.asInt]
  ·cases hm
 ·cases hm
theorem zKJ(h:Mem P X w0 J st g w){t:TypeId}{op:BinOp}{x y s:SV}{st':St}(hx:x.ok X J)(hy:y.ok X J)(hs:binA P st t op x y=some (s,st'))(hob:zCA X Pre st'.obl J) :
  (binOp op t (x.den X J g) (y.den X J g)).run P w = .ok (s.den X J g) w/\s.ok X J/\(x.den X J g).oneCell'=true/\x.den X J g ≠ .nilIface/\st'.vars=st.vars/\st'.objs=st.objs/\st'.loops=st.loops/\st'.lvl=st.lvl/\st'.env=st.env/\st'.nt=st.nt:=by
 unfold binA at hs;split at hs
 ·rename_i v hv;cases hs;obtain⟨k1,k2,k3,k4⟩:=zMJ h hx hy hv;exact⟨k1,k2,k3,k4,rfl,rfl,rfl,rfl,rfl,rfl⟩
 ·unfold remS at hs;split at hs
  ·rename_i k e1 k' e2;split at hs
   ·split at hs
    ·rename_i hk;subst hk;cases hs;obtain⟨n,h1,hn⟩:=hx;obtain⟨m,h2,hm⟩:=hy;have ho:=hob.1;simp only[Ob.holds,h2,D.asInt] at ho;refine⟨?_,zLC (by rw[zEA];rfl) ?_,rfl,by simp[SV.den],rfl,rfl,rfl,rfl,rfl,rfl⟩
     ·simp[SV.den,h1,h2,D.asInt,binOp,Op.intDiv,ho,zEA,zDA,Fn.eval]
     ·simp only[zDA,h1,h2,D.asInt];exact zNL hn ho
    ·cases hs
   ·cases hs;obtain⟨n,h1,hn⟩:=hx;obtain⟨m,h2,hm⟩:=hy;have ho:=hob.1;simp only[Ob.holds,h2,D.asInt] at ho;have hc':¬m<0:=by omega
    refine⟨by simp[binOp,Op.shift,hc',SV.den,zEA,zDA,Fn.eval,h1,h2,D.asInt,shrI],zLC (by rw[zEA];rfl) ?_,rfl,by simp[SV.den],rfl,rfl,rfl,rfl,rfl,rfl⟩;simp only[zDA,h1,h2,D.asInt,shrI];exact yAI hn _
   ·cases hs
  ·cases hs
end
end Go.Dx
namespace Go.Dx
open Go
section
variable {P:Program} {X:Nat->List D->D} {Pre:Nat->List D->Prop} {w0:Base} {J:List D} {st:St} {g:Gh} {w:World} {a:Act}
theorem zZK{e:TypeId}(h8:isU8 P e=true):P.underlying e=some (.int .u8):=by
 unfold isU8 at h8;split at h8
 ·assumption
 ·cases h8
theorem xWI{t e:TypeId}{v:Value}{d:D}{ok:Nat->Prop}(h:yRA P ok w t v d)(hu:P.underlying t=some (.slice e)) :
  ∃ad len cap,v = .slice ad len cap/\len=d.len/\len<=cap/\cap<=maxLen /\ ∀b,ad=some b -> ∃c,b=⟨c,0,none⟩:=by
 obtain⟨e',i,n,xs,hu',hi,hown,hd⟩:=h;rw[hu] at hu';cases hu'
 have hn:n=d.len:=by
  cases hd with
  | nil hv=>rfl
  | bytes hv he hs=>rfl
  | list hv he hlen hsz hr=>rfl
 rcases hown.2 with⟨rfl,h0⟩|⟨b,cap,cur,rfl,hb,hh,hnc,hm,hsz,htake⟩
 ·have hn0:n=0:=by
   cases hd with
   | nil hv=>rfl
   | bytes hv he hs=>simp[Value.ownBlock] at hv
   | list hv he hlen hsz hr=>simp[Value.ownBlock] at hv
  exact⟨none,0,0,rfl,by omega,Nat.le_refl _,Nat.zero_le _,fun b hb=>by cases hb⟩
 ·exact⟨_,n,cap,rfl,hn,hnc,hm,fun x hx=>by cases hx;exact⟨b,rfl⟩⟩
theorem yBI(h:Mem P X w0 J st g w)(he:Env X J st g a){t:TypeId}{x r:SV}{lo hi mx:Option SV}{st':St}(hs:winSl P st t x lo hi mx=some (r,st'))(hob:zCA X Pre st'.obl J) :
  qMA P X w0 J st g a (Instr.sliceAt t (x.den X J g) (lo.map (SV.den X J g)) (hi.map (SV.den X J g)) (mx.map (SV.den X J g))) w r st':=by
 unfold winSl at hs;split at hs
 rotate_left
 ·cases hs
 rename_i m;split at hs
 rotate_left
 ·cases hs
 rename_i u d e hm hu;split at hs
 rotate_left
 ·cases hs
 rename_i hc;obtain⟨rfl,h8,hsz⟩:=hc;obtain⟨i,hi1,hi2⟩:∃i,P.info? e=some i/\i.size=1:=by
  cases hq:P.info? e with
  | none=>rw[hq] at hsz;cases hsz
  | some i=>rw[hq] at hsz;exact⟨i,rfl,by simpa using hsz⟩
 obtain⟨ad,len,cap,hv,hl,hlc,hcm,hho⟩:=xWI (h.va m _ hm) hu;have hl:len=(d.eval X J).len:=hl;split at hs
 ·cases hs;refine⟨w,g,?_,Ext.refl st g,h,he,⟨trivial,trivial⟩⟩;simp only[Option.map_none,Option.map_some,SV.den,DE.eval,D.asInt,dens,WK.den,gzZ,hv]
  have:=xFC hu hi1 ad len cap 0 (Int.le_refl _) (by omega) (fun _ b hb=>by obtain⟨c,rfl⟩:=hho b hb;exact⟨c,0,rfl⟩) w
  exact this
 ·rename_i k;split at hs
  ·rename_i hk0;cases hs;have ho:=hob.1;simp only[Ob.holds,DE.eval,D.asInt,bfZ,if_false] at ho;refine⟨w,g,?_,Ext.keys (fun n vi hn=>⟨vi,hn⟩) (fun o cs ho=>⟨cs,ho⟩),⟨h.va,h.ob,h.oo,h.vv,h.ov,h.lo,h.lp,h.fr,h.lv,h.ex,h.gl⟩,he.of_env rfl rfl,⟨trivial,trivial⟩⟩;simp only[Option.map_none,Option.map_some,SV.den,DE.eval,D.asInt,dens,WK.den,gzZ,hv]
   have:=qWD hu hi1 ad len cap k hk0 (by omega) w
   rw[hi2,Nat.mul_one] at this;exact this
  ·cases hs
 ·cases hs
theorem qNK(h:Mem P X w0 J st g w)(he:Env X J st g a){n:Nat}{ty t:TypeId}{x r:SV}{lo hi mx:Option SV}{st':St}(hs:slR P st n ty t x lo hi mx=some (r,st')) :
  qMA P X w0 J st g a (Instr.sliceAt t (x.den X J g) (lo.map (SV.den X J g)) (hi.map (SV.den X J g)) (mx.map (SV.den X J g))) w r st':=by
 unfold slR at hs;split at hs
 rotate_left
 ·cases hs
 rename_i m off;split at hs
 rotate_left
 ·cases hs
 rename_i u d k e e' hm hu hty;split at hs
 rotate_left
 ·cases hs
 rename_i hc;obtain⟨rfl,h8,hsz,hk0,hk64,hall⟩:=hc;split at hs
 rotate_left
 ·cases hs
 rename_i st1 hn;cases hs;obtain⟨i,hi1,hi2⟩:∃i,P.info? e=some i/\i.size=1:=by
  cases hq:P.info? e with
  | none=>rw[hq] at hsz;cases hsz
  | some i=>rw[hq] at hsz;exact⟨i,rfl,by simpa using hsz⟩
 have he8:=zZK h8;obtain⟨_,hokh,hcells⟩:=h.va m _ hm;have hokh:okOf st g w (g.rh m).1:=hokh;have hcells:xQA w (g.rh m).1 (g.rh m).2 (g.rv m).cells.toList:=hcells;have hone:∀j,j<k -> ∃z:Int,(mkf (.get (off+j)) [d]).eval X J = .int z/\0<=z/\z<256/\w.cell? ⟨(g.rh m).1,(g.rh m).2+(off+j),none⟩=some (.int .u8 z):=fun j hj=>by
  have hty:(tys P u)[off+j]? = some e:=by
   have:=List.all_eq_true.1 hall j (List.mem_range.2 hj)
   simpa using this
  have hr:=h.cell hm (j:=off+j) rfl hty;have e1:(SV.xc m (off+j)).den X J g=(g.rv m).cells.getD (off+j) undef:=rfl;rw[e1] at hr;generalize hcv:(g.rv m).cells.getD (off+j) undef=cv at hr;generalize hdv:(mkf (.get (off+j)) [d]).eval X J=dv at hr;have hr:Rep P (okOf st g w) w e cv dv:=by
   have:(mkf (.get (off+j)) [({ vt:=VT.row u,de:=d }:VI).de]).eval X J=dv:=hdv
   rw[<- this];rw[this];exact hr
  cases hr with
  | int hu' hw =>
   rw[he8] at hu';cases hu'
   rename_i z;have hlt:off+j<(g.rv m).cells.size:=by
    by_cases h0:off+j<(g.rv m).cells.size
    ·exact h0
    ·exfalso;rw[Array.getD_eq_getD_getElem?,Array.getElem?_eq_none (by omega)] at hcv;simp[undef] at hcv
   refine⟨z,rfl,?_,?_,hcells (off+j) _ ?_⟩
   ·simp[Lit.wf,IntKind.min,IntKind.max,IntKind.signed,IntKind.bits] at hw;omega
   ·simp[Lit.wf,IntKind.min,IntKind.max,IntKind.signed,IntKind.bits] at hw;omega
   ·rw[Array.getElem?_toList,<- hcv,Array.getD_eq_getD_getElem?,Array.getElem?_eq_getElem hlt];rfl
  | row hu' hd=>rw[he8] at hu';cases hu';simp[zGA] at hd
  | _=>simp_all
 have hev:(mkf .mkbytes ((List.range k).map fun j=>mkf (.get (off+j)) [d])).eval X J = .bytes ((List.range k).map fun j=>UInt8.ofNat ((mkf (.get (off+j)) [d]).eval X J).asInt.toNat):=by
  rw[zEA];simp only[Fn.eval]
  congr 1
  have:∀l:List DE,zDA X l J=l.map fun x=>x.eval X J:=fun l=>by
   induction l with
   | nil=>rfl
   | cons a l ih=>simp[zDA,ih]
  rw[this];simp[List.map_map,Function.comp_def]
 generalize hbs:((List.range k).map fun j=>UInt8.ofNat ((mkf (.get (off+j)) [d]).eval X J).asInt.toNat)=bs at hev;have hlen:bs.length=k:=by rw[<- hbs];simp
 obtain⟨k1,k2,k3,k4,_⟩:=xJC h he (Fr.refl (fun _=>False) w) hn (v:=.slice (some ⟨(g.rh m).1,(g.rh m).2+off,none⟩) k k) (fun ok' h1 _=>by
  rw[hev]
  have:=Rep.bytes (P:=P) (ok:=ok') (w:=w) (t:=ty) (ad:=⟨(g.rh m).1,(g.rh m).2+off,none⟩) (cap:=k) (s:=bs) hty he8 (fun _=>⟨rfl,h1 _ hokh⟩) (by omega) (by simp only[maxLen];omega) (fun j v hj=>by
   rw[<- hbs] at hj;simp only[List.map_map,List.getElem?_map] at hj;by_cases hjk:j<k
   ·rw[List.getElem?_range hjk] at hj;simp only[Option.map_some,Function.comp_apply,Option.some.injEq] at hj;obtain⟨z,hz1,hz2,hz3,hz4⟩:=hone j hjk;rw[hz1] at hj;subst hj;rw[show (g.rh m).2+off+j=(g.rh m).2+(off+j) by omega];rw[hz4]
    congr 2
    simp only[D.asInt,UInt8.toNat_ofNat'];omega
   ·rw[List.getElem?_eq_none (by simpa using hjk)] at hj;cases hj)
  rw[hlen] at this;exact this)
 refine⟨w,_,?_,k3,k1,k2,trivial⟩;rw[k4];simp only[Instr.sliceAt,SV.den,Option.map_none,Sem.run_bind,run_underlying hu,Result.andThen_ok,Instr.sureAddr,Sem.run_pure,Instr.sliceBounds,xAA hi1];simp[Nat.ne_of_gt hk0,zWB]
theorem qPK(h:Mem P X w0 J st g w)(he:Env X J st g a){win:Bool}{n:Nat}{ty t:TypeId}{x r:SV}{lo hi mx:Option SV}{st':St}(hx:x.ok X J)(hlo:∀s,lo=some s->s.ok X J)(hhi:∀s,hi=some s->s.ok X J)(hs:slW win P st n ty t x lo hi mx=some (r,st'))(hob:zCA X Pre st'.obl J) :
  qMA P X w0 J st g a (Instr.sliceAt t (x.den X J g) (lo.map (SV.den X J g)) (hi.map (SV.den X J g)) (mx.map (SV.den X J g))) w r st':=by
 unfold slW at hs;split at hs
 ·rename_i q hq;cases hs;split at hq
  ·exact yBI h he hq hob
  ·cases hq
 ·split at hs
  ·rename_i q hq;cases hs;exact qNK h he hq
  ·exact qLK h he hx hlo hhi hs hob
theorem xMI(h:Mem P X w0 J st g w){t:TypeId}{x r:SV}(hl:lenW P st t x=some r)(ty:TypeId)(w2:World) :
  (Builtin.len_ #[t] ty #[x.den X J g]).run P w2 = .ok (r.den X J g) w2/\r.ok X J:=by
 have hsl:kdT P t=some .sl -> ∃e,P.underlying t=some (.slice e):=fun hk=>by
  unfold kdT at hk;cases hu:P.underlying t with
  | none=>rw[hu] at hk;simp at hk
  | some td =>
   rw[hu] at hk;cases td <;> simp[kdOf] at hk
   exact⟨_,rfl⟩
 have hwf:∀n:Nat,n<=maxLen->(Lit.int .i64 (n:Int)).wf=true:=by
  intro n hn
  have:n<=9223372036854775807:=hn
  apply zJC;simp[IntKind.min,IntKind.max,IntKind.signed,IntKind.bits];omega
 unfold lenW at hl;split at hl
 ·rename_i o n;split at hl
  ·rename_i hc;cases hl;obtain⟨e,hu⟩:=hsl hc.1;refine⟨?_,⟨_,rfl,hwf n (by simp only[maxLen];omega)⟩⟩;simp[Builtin.len_,run_underlying hu,goInt,SV.den,DE.eval,D.asInt]
  ·cases hl
 ·rename_i k m;split at hl
  ·rename_i u d hm;split at hl
   ·rename_i hc;cases hl;obtain⟨e,hu⟩:=hsl hc;have hown:yRA P (okOf st g w) w u (g.rv m) (d.eval X J):=h.va m _ hm;obtain⟨e',i,n,xs,hu',hi',hrow,hD⟩:=hown;obtain⟨ad,len,cap,hv,hll,hlc,hcm,_⟩:=xWI (h.va m _ hm) hu';have hdl:((D.dropD k (d.eval X J)).len:Nat)=len-k:=by
     generalize hdd:d.eval X J=dd at hll hD;cases hD with
     | nil hvv=>simp only[D.len] at hll;simp[D.dropD,D.len,hll]
     | bytes hvv he hs=>simp only[D.len] at hll;simp[D.dropD,D.len,hll]
     | list hvv he hlen hsz hr=>simp only[D.len] at hll;simp[D.dropD,D.len,hll]
    have hev:(DE.f .len [.f .drop [d,.k (.int (k:Nat))]]).eval X J = .int ((len-k:Nat):Int):=by
     simp only[DE.eval,zDA,Fn.eval,D.asInt,Int.toNat_natCast];rw[hdl]
    refine⟨?_,⟨_,hev,hwf _ (by omega)⟩⟩;simp only[SV.den,dens,WK.den,gzZ,hv,hev,D.asInt];simp[Builtin.len_,run_underlying hu,goInt]
   ·cases hl
  ·cases hl
 ·cases hl
theorem yDJ(h:Mem P X w0 J st g w){t:TypeId}{x r:SV}(hl:lenW P st t x=some r)(ty:TypeId) :
  (Builtin.len_ #[t] ty #[x.den X J g]).run P w = .ok (r.den X J g) w/\r.ok X J:=xMI h hl ty w
theorem zHJ(h:Mem P X w0 J st g w)(he:Env X J st g a){t u ty:TypeId}{s x r:SV}{st':St}(hx:x.ok X J)(ha:appW P st t u s x=some (r,st'))(hob:zCA X Pre st'.obl J) :
  qMA P X w0 J st g a (Builtin.append_ #[t,u] ty #[s.den X J g,x.den X J g]) w r st':=by
 unfold appW at ha;split at ha
 rotate_left
 ·cases ha
 rename_i m;split at ha
 rotate_left
 ·cases ha
 rename_i t' d e hm hu;split at ha
 rotate_left
 ·cases ha
 rename_i hcc;obtain⟨rfl,rfl,h8,hs1i⟩:=hcc;split at ha
 rotate_left
 ·cases ha
 rename_i l hs;split at ha
 rotate_left
 ·cases ha
 rename_i hl1;obtain⟨hl0,hl1⟩:=hl1;cases ha;have he8:=zZK h8;obtain⟨hm1,_⟩:=Mem.settle x h;have he1:=he.settle x;have hsrc:=(yYA hm1 hx hs).bytesAt hu he8;have hob1:=hob.1;simp only[Ob.holds,DE.eval,D.asInt,bfZ,if_false,Int.toNat_natCast] at hob1;have hle:l.length<=(d.eval X J).len:=hob1.2;generalize hnb:(zDA X l J).map (fun d=>UInt8.ofNat d.asInt.toNat)=nb;have hev:(DE.f .mkbytes l).eval X J = .bytes nb:=by simp only[DE.eval,Fn.eval,hnb]
 have hnl:nb.length=l.length:=by rw[<- hnb,List.length_map,yAA]
 rw[hev] at hsrc;generalize hxv:x.den X J g=xv at hsrc;obtain⟨e',i,n,xs,hu',hi,hown,hD⟩:=hm1.va m _ hm;rw[hu] at hu';cases hu'
 obtain⟨hxl,hrow⟩:=hown;have hD:OwnD P (okOf (Dx.settle st x) g w) w e i.size (g.rv m) n xs (d.eval X J):=hD;generalize hdd:d.eval X J=dd at hD hle;cases hsrc with
 | some hsp hcl h1 h2 =>
  rename_i ad c;cases hD with
  | nil hvv=>simp only[D.len] at hle;omega
  | bytes hvv he8' hsz1 =>
   rename_i s8;have hle:l.length<=s8.length:=hle;rcases hrow with⟨h1',_⟩|⟨b,cap,cur,h1',_,hg,hn,hcap,hcs,htk⟩
   ·rw[h1'] at hvv;simp[Value.ownBlock] at hvv
   have hcl':cur.toList.length=cap*i.size:=by rw[Array.length_toList,hcs]
   have hcs1:cur.size=cap:=by rw[hcs,hsz1,Nat.mul_one]
   have hcl1:cur.toList.length=cap:=by rw[hcl',hsz1,Nat.mul_one]
   have hr:=run_append_room (P:=P) (w:=w) t ty e i hu hi b 0 cap cur hg ad nb.length c (nb.map fun x=>Value.int .u8 (x.toNat:Int)) (by rw[List.length_map,hsz1,Nat.mul_one])
    (fun j v hj=>by
     have h0:=(List.getElem?_eq_some_iff.1 hj).1;rw[List.length_map] at h0;rw[yBD (hsp (by omega))];exact hcl j v hj)
    (fun v hv=>by obtain⟨x,_,rfl⟩:=List.mem_map.1 hv;rfl) (by omega) (by rw[List.length_map,Nat.zero_mul,hcs1];omega)
   rw[Nat.zero_mul,Nat.zero_add,Nat.zero_add] at hr;have hspl:cur.toList.take 0++(nb.map fun x=>Value.int .u8 (x.toNat:Int))++cur.toList.drop (nb.map fun x=>Value.int .u8 (x.toNat:Int)).length=yQA cur.toList 0 (nb.map fun x=>Value.int .u8 (x.toNat:Int)):=by
    simp[yQA]
   rw[hspl] at hr;have hfr:Fr (fun b'=>(g.rv m).ownBlock=some b') w (w.setRow b (yQA cur.toList 0 (nb.map fun x=>Value.int .u8 (x.toNat:Int))).toArray) :=
    (qXC _ _ _).mono (fun b' _ hb'=>by rw[h1'];simp only[Value.ownBlock];rw[hb'])
   refine⟨w.setRow b (yQA cur.toList 0 (nb.map fun x=>Value.int .u8 (x.toNat:Int))).toArray,g,?_,(Ext.settle st g x).trans (Ext.keys (fun n vi hn=>qOA n vi hn) (fun o cs ho=>⟨cs,ho⟩)),?_,he1.of_env rfl rfl,⟨trivial,trivial⟩⟩
   ·simp only[SV.den,dens,WK.den,gzZ,h1',<- hnl];exact hr
   ·have hco:(D.copyD (.bytes s8) (.bytes nb)).asStr=nb.take s8.length++s8.drop nb.length:=rfl;refine hm1.setOwn hm hfr (fun ok' hok'=>⟨e,i,s8.length,(D.copyD (.bytes s8) (.bytes nb)).asStr.map fun x=>Value.int .u8 (x.toNat:Int),hu,hi,⟨?_,.inr ⟨b,cap,_,h1',Nat.zero_le _,setRow_heap w _ _ _ _ _ hg,hn,hcap,?_,?_⟩⟩,?_⟩) (.idx (.k (.int (l.length:Nat))) d false::(Dx.settle st x).obl)
    ·rw[hco];simp only[List.length_map,List.length_append,List.length_take,List.length_drop,hsz1];omega
    ·show (yQA _ _ _).toArray.size=_;rw[List.size_toArray,yMB (by simp only[List.length_map,Array.length_toList];omega),hcl']
    ·show (yQA _ _ _).take _=_;rw[hsz1,Nat.mul_one] at htk;rw[hsz1,Nat.mul_one,xJD (by simp;omega) (by omega),htk];rw[hco];simp only[yQA,List.take_zero,List.nil_append,Nat.zero_add,List.length_map,List.map_append,List.map_take,List.map_drop]
     congr 1
     rw[List.take_of_length_le (by simp only[List.length_map];omega)]
    ·simp only[DE.eval,zDA,Fn.eval,hdd,hnb]
     have:=OwnD.bytes (P:=P) (ok:=ok') (w:=w.setRow b (yQA cur.toList 0 (nb.map fun x=>Value.int .u8 (x.toNat:Int))).toArray) (size:=i.size) (s:=(D.copyD (.bytes s8) (.bytes nb)).asStr) hvv he8 hsz1
     have e1:(D.copyD (.bytes s8) (.bytes nb)).asStr.length=s8.length:=by
      rw[hco];simp only[List.length_append,List.length_take,List.length_drop];omega
     rw[e1] at this;exact this
  | list hvv he8'=>exact absurd he8 he8'
theorem zFJ(h:Mem P X w0 J st g w)(he:Env X J st g a){n:Nat}{t u ty:TypeId}{s x r:SV}{st':St}(hx:x.ok X J)(ha:appB P st n t u s x=some (r,st'))(hob:zCA X Pre st'.obl J) :
  qMA P X w0 J st g a (Builtin.append_ #[t,u] ty #[s.den X J g,x.den X J g]) w r st':=by
 unfold appB at ha;split at ha
 ·rename_i q hq;cases ha;exact zEJ h he hx hq hob
 ·exact zHJ h he hx ha hob
theorem yAG(h:Mem P X w0 J st g w)(he:Env X J st g a){n len:Nat}{t:TypeId}{parts:List (Nat×SV)}{r:SV}{st':St}(hp:∀p∈parts,p.2.ok X J)(hb:xMH P st n t len parts=some (r,st'))(pv:Array (Nat×Value))
  (hpv:pv.toList=parts.map fun p=>(p.1,p.2.den X J g)) :
  qMA P X w0 J st g a (Instr.buildSlice t len pv) w r st':=by
 unfold xMH at hb;split at hb
 rotate_left
 ·cases hb
 rename_i e hu;split at hb
 rotate_left
 ·cases hb
 rename_i i zl hi hzl;split at hb
 rotate_left
 ·cases hb
 rename_i hc;obtain⟨hgo,hl0,hl64,h24⟩:=hc;split at hb
 rotate_left
 ·cases hb
 rename_i cells hf;split at hb
 rotate_left
 ·cases hb
 rename_i st1 hn;cases hb;obtain⟨z,hz,hzs,hsz,hu8⟩:=qJC hgo;obtain⟨i',z',hi',hz',hden,hoks,hzlen⟩:=zHB (X:=X) (J:=J) (g:=g) hzl;rw[hi] at hi';cases hi'
 rw[hz] at hz';cases hz'
 obtain⟨f1,f2,f3,f4⟩:=ySC h (place':=fun j=>some (j*i.size,i.size)) (fun j off t' ti h1 h2=>by
  split at h1
  ·cases h1;rw[hi] at h2;cases h2;rfl
  ·cases h1) hp (by rw[yHA];exact xFB (yHA.1 hoks) _) (by rw[qRB];exact xFB (zFD hzl) _) hf
 obtain⟨k1,k2,k3,k4,_⟩:=zQD h he e hn f4 f2;refine⟨_,_,?_,k3,k1,k2,trivial⟩;have e1:(SV.osl n len).den X J (g.setO n w.heap.size) = .slice (some ⟨w.heap.size,0,none⟩) len len:=by simp[SV.den,Gh.setO]
 rw[e1];unfold Instr.buildSlice;simp only[Sem.run_bind,run_underlying hu,Result.andThen_ok,xAA hi];have h24':¬(len*i.size>2 ^ 24):=by omega
 simp only[h24',if_false,Sem.run_pure,Result.andThen_ok,Sem.run_bind];have h0:¬(len*i.size=0):=by
  intro h0;rcases Nat.mul_eq_zero.1 h0 with h|h <;> omega
 have hc0:((Array.range (len*i.size)).map fun x=>(if len*i.size=0 then (#[]:Array Value) else z.cells)[x%(if len*i.size=0 then (#[]:Array Value) else z.cells).size]!)=(dens X J g (List.replicate len zl).flatten).toArray:=by
  simp only[h0,if_false];rw[qRB,hden];exact xBC z.cells len i.size hzs hsz
 simp only[h0,if_false,Sem.run_bind,Sem.run_pure,Result.andThen_ok,qKB hi hz] at hc0 ⊢;rw[hc0,hpv,f1];simp[qNB]
theorem zZG(h:Mem P X w0 J st g w)(he:Env X J st g a){n len:Nat}{t:TypeId}{parts:List (Nat×SV)}{r:SV}{st':St}(hp:∀p∈parts,p.2.ok X J)(hb:xLH P st n t len parts=some (r,st'))(pv:Array (Nat×Value))
  (hpv:pv.toList=parts.map fun p=>(p.1,p.2.den X J g)) :
  qMA P X w0 J st g a (Instr.buildSlice t len pv) w r st':=by
 unfold xLH at hb;split at hb
 ·rename_i q hq;cases hb;exact yBG h he hp hq pv hpv
 ·exact yAG h he hp hb pv hpv
theorem yPK{t:TypeId}{name:String}{f:FuncId}(hm:methF P t name=some f)(v:Value)(k:Nat)(w:World):(method (k+1) t v name).run P w = .ok (f,v) w:=by
 unfold methF at hm;split at hm
 rotate_left
 ·cases hm
 rename_i i d hi hu;split at hm
 rotate_left
 ·cases hm
 rename_i m hfind;split at hm
 rotate_left
 ·cases hm
 rename_i f' p hf;by_cases hc:(m.path.isEmpty&&(p==zWK d))=true
 rotate_left
 ·rw[if_neg hc] at hm;cases hm
 rw[if_pos hc] at hm;cases hm;simp only[baZ,beq_iff_eq] at hc;obtain⟨hp,hpp⟩:=hc;have hpe:m.path = #[]:=by simpa using hp
 unfold method;simp only[typeInfo,Sem.run_bind,hi,Result.andThen_ok,Sem.run_pure,hfind,hpe,hf];cases d <;> subst hpp <;> simp[zWK,follow,receiverAt,run_underlying hu,Place.get,hi,hfind,hf,hpe]
end
end Go.Dx
namespace Go.Dx
open Go
section
variable {P:Program} {X:Nat->List D->D} {Pre:Nat->List D->Prop} {w0:Base} {J:List D} {st:St} {g:Gh} {w:World} {a:Act}
theorem flat_agg(h:Mem P X w0 J st g w){t:TypeId}{td:TypeDesc}{s:SV}{l:List SV}(hu:P.underlying t=some td)(hd:zGA td=true)(hf:flat P st t s=some l):s.den X J g = .agg (s.den X J g).cells:=by
 unfold flat at hf;split at hf
 ·rename_i d i hu' hi;rw[hu] at hu';cases hu'
  rw[hd] at hf;simp only[if_true] at hf;split at hf
  ·rename_i n;split at hf
   ·rename_i vi hn;split at hf
    ·rename_i hc;exact((h.rest hn hc.1).isAgg hu hd).1
    ·cases hf
   ·cases hf
  ·simp[SV.den,Value.cells]
  ·cases hf
 ·cases hf
theorem yIA(he:Env X J st g a){o:Operand}{s:SV}(ho:opd st o=some s):a.eval o=s.den X J g:=(qQC he ho).1
theorem zTB(he:Env X J st g a){o:Operand}{s:SV}(ho:opd st o=some s):s.ok X J:=(qQC he ho).2
theorem yVA.of_run{o:Oper}{s:SV}{st':St}{m:Sem Value}(hr:qMA P X w0 J st g a m w s st')(hx:∀v w',m.run P w = .ok v w'->(execOp a.eval o).run P w = .ok (.value v) w'):yVA P X w0 J st g w a o s st':=by
 obtain⟨w',g',h1,h2,h3,h4,h5⟩:=hr;exact fun K Q hK=>xRB (hx _ _ h1) (hK g' w' h2 h3 h4 h5)
theorem yFA{m:Sem Value}{v:Value}{w':World}(h:m.run P w = .ok v w'):(do pure (Next.value (<- m)):Sem Next).run P w = .ok (.value v) w':=by
 simp[h]
def xSC(P:Program)(X:Nat->List D->D)(Pre:Nat->List D->Prop)(call:FuncId->List SV->Nat->St->Option (SV×St)):Prop :=
 ∀(w0:Base) (J:List D) (f:FuncId) (as:List SV) (n:Nat) (st:St) (s:SV) (st':St) (g:Gh) (w:World) (a:Act),
  Mem P X w0 J st g w->Env X J st g a->oks X J as->call f as n st=some (s,st')->zCA X Pre st'.obl J ->
  (∃fn c,P.funcs[f]? = some fn/\fn.body=some c) /\
  Calls P f (dens X J g as).toArray w fun e w'=>∃g',e = .returned (s.den X J g')/\Ext st g st' g'/\Mem P X w0 J st' g' w'/\Env X J st' g' a/\s.ok X J
theorem yWB {f : FuncId} {fn : Func} {c : Code} (hf : P.funcs[f]? = some fn) (hname : (fn.name == "runtime.NumGoroutine") = false) (hb : fn.body = some c) (args : Array Value) (w : World) :
  (callFunc f args).run P w = .ok (.enter f args) w:=by
 have h1 : fn.name ≠ "runtime.NumGoroutine" := by simpa using hname
 simp[callFunc,hf,h1,hb]
def yWA (P : Program) : Prop := ∀ (f : FuncId) (fn : Func), P.funcs[f]? = some fn -> (fn.name == "runtime.NumGoroutine") = false
theorem zOJ{C:Cfg}{callF:CallF}(hnm:yWA C.P)(hcall:xSC C.P X Pre (qVA C callF))(h:Mem C.P X w0 J st g w)(he:Env X J st g a){n:Nat}{o:Oper}{f:FuncId}{cargs:Array Operand}{ats:Array TypeId}
  (ho:o.op = .call { callee:=.value (.func f),args:=cargs,argTypes:=ats }) {as:List SV} {s:SV} {st':St} (has:opds st cargs.toList=some as) (hc:qVA C callF f as n st=some (s,st')) (hob:zCA X Pre st'.obl J) :
  yVA C.P X w0 J st g w a o s st':=by
 obtain⟨h1,h2⟩:=qLA he has;obtain⟨⟨fn,c,hfn,hbody⟩,hcalls⟩:=hcall w0 J f as n st s st' g w a h he h2 hc hob;intro K Q hK;have hargs:cargs.map a.eval=(dens X J g as).toArray:=by
  apply Array.ext';simpa using h1
 refine xAH (f:=f) (args:=(dens X J g as).toArray) (w':=w) ?_ ?_
 ·have ef:a.eval (.func f) = .func (.func f) #[] #[]:=rfl;unfold execOp;simp only[ho,resolve,ef,Deferred.ofValue,Sem.run_bind,Sem.run_pure,Result.andThen_ok,invoke,hargs];simp only[Array.append_empty,Array.empty_append];exact yWB hfn (hnm f fn hfn) hbody _ w
 ·refine hcalls.mono fun e w' hh=>?_
  obtain⟨g',rfl,k1,k2,k3,k4⟩:=hh;exact⟨_,rfl,hK g' w' k1 k2 k3 k4⟩
theorem qRE{C:Cfg}{callF:CallF}(hnm:yWA C.P)(hcall:xSC C.P X Pre (qVA C callF))(h:Mem C.P X w0 J st g w)(he:Env X J st g a){n:Nat}{o:Oper}{f:FuncId}
  {as:List SV} {s:SV} {st':St} (has:oks X J as) (hc:qVA C callF f as n st=some (s,st')) (hob:zCA X Pre st'.obl J)
  (hx:∀fn c,C.P.funcs[f]? = some fn->fn.body=some c->(execOp a.eval o).run C.P w = .ok (.enter f (dens X J g as).toArray) w) :
  yVA C.P X w0 J st g w a o s st':=by
 obtain⟨⟨fn,c,hfn,hbody⟩,hcalls⟩:=hcall w0 J f as n st s st' g w a h he has hc hob;intro K Q hK;refine xAH (f:=f) (args:=(dens X J g as).toArray) (w':=w) (hx fn c hfn hbody) ?_;refine hcalls.mono fun e w' hh=>?_
 obtain⟨g',rfl,k1,k2,k3,k4⟩:=hh;exact⟨_,rfl,hK g' w' k1 k2 k3 k4⟩
theorem yRJ(h:Mem P X w0 J st g w){q:SV}{t:TypeId}{d:DE}(hq:ptrD P st q=some (t,d)):Rep P (okOf st g w) w t (q.den X J g) (d.eval X J):=by
 unfold ptrD at hq;split at hq
 ·rename_i n;split at hq
  ·rename_i u de hn;cases hq;exact h.va n _ hn
  ·cases hq
 ·rename_i n j;split at hq
  ·rename_i u de hn;split at hq
   ·rename_i ct hc;cases hq;exact h.cell hn rfl hc
   ·cases hq
  ·rename_i u de hn;split at hq
   ·rename_i ct hc;cases hq;exact h.cell hn rfl hc
   ·cases hq
  ·cases hq
 ·cases hq
theorem zJI(h:Mem P X w0 J st g w)(he:Env X J st g a){n:Nat}{q s:SV}{st':St}(hr:restP P st n q=some (s,st'))(hob:zCA X Pre st'.obl J) :
  ∃b off g',q.den X J g = .pointer (some ⟨b,off,none⟩)/\s.den X J g' = .pointer (some ⟨b,off,none⟩)/\Ext st g st' g'/\Mem P X w0 J st' g' w/\Env X J st' g' a/\s.ok X J:=by
 unfold restP at hr;split at hr
 rotate_left
 ·cases hr
 rename_i t d hp;split at hr
 rotate_left
 ·cases hr
 rename_i e hu;split at hr
 rotate_left
 ·cases hr
 rename_i st1 hn;cases hr;have hrep:=yRJ h hp;have hobl:=xGA hn;rw[hobl] at hob;have hob1:=hob.1;simp only[Ob.holds] at hob1;have hrest:∀v' b off d',q.den X J g = .pointer (some ⟨b,off,none⟩)->d.eval X J = .ptr d'->okOf st g w b->xQA w b off v'.cells.toList->Rep P (okOf st g w) w e v' d' ->
   ∃b off g',q.den X J g = .pointer (some ⟨b,off,none⟩)/\(SV.ra n 0).den X J g' = .pointer (some ⟨b,off,none⟩)/\Ext st g st' g'/\Mem P X w0 J st' g' w/\Env X J st' g' a/\(SV.ra n 0).ok X J:=by
  intro v' b off d' e1 e2 hokb hc hrp;unfold newV at hn;split at hn
  rotate_left
  ·cases hn
  rename_i hf;cases hn;have hf0:st.freshV n=true:=hf;have hde:(mkf .deref [d]).eval X J=d':=by rw[zEA];simp[zDA,Fn.eval,e2,D.deref]
  refine⟨b,off,g.setV n v' (b,off),e1,by simp[SV.den,Gh.setV],Ext.setV (qNA hf0) v' (b,off) (fun m vi hm=>xVB m vi hm) (fun o cs ho=>⟨cs,ho⟩),?_,(he.setV hf0 v' (b,off)).of_env rfl rfl,trivial⟩
  have:=h.change (Fr.refl (fun _=>False) w) (fun b _ e=>e.elim) (addOb st (.when (mkf .isNil [d]) true [.nz (.k (.int 0))])) rfl (fun l hl=>hl) (fun o cs ho=>⟨ho,fun e=>e⟩) (fun m vi hm=>.inr ⟨hm,fun b _ e=>e⟩) n ⟨.row e,mkf .deref [d]⟩ v' (b,off) hf (by simp[zFA])
   (fun ok' h1 _=>by
    simp only[qUA];rw[hde];exact⟨hrp.mono h1 (fun _ _=>rfl),h1 b hokb,hc⟩)
  exact this
 generalize hqv:q.den X J g=qv at hrep hrest;generalize hdd:d.eval X J=dd at hrep hrest;cases hrep with
 | ptr hu' hokb hc hrp=>rw[hu] at hu';cases hu';exact hrest _ _ _ _ rfl rfl hokb hc hrp
 | pnil hu' =>
  exfalso
  have:=hob1 (by rw[zEA];simp[zDA,Fn.eval,hdd,D.isNil,D.asBool])
  have:=this.1
  simp[Ob.holds,DE.eval,D.asInt] at this
 | int hu'=>rw[hu] at hu';cases hu'
 | bool hu'=>rw[hu] at hu';cases hu'
 | str hu'=>rw[hu] at hu';cases hu'
 | flt hu'=>rw[hu] at hu';cases hu'
 | snil hu'=>rw[hu] at hu';cases hu'
 | bytes hu'=>rw[hu] at hu';cases hu'
 | list hu'=>rw[hu] at hu';cases hu'
 | row hu' hd=>rw[hu] at hu';cases hu';simp[zGA] at hd
 | mnil hu'=>rw[hu] at hu';cases hu'
 | map hu'=>rw[hu] at hu';cases hu'
theorem yGG(h:Mem P X w0 J st g w)(he:Env X J st g a){t:TypeId}{x i s:SV}{st':St}(hx:x.ok X J)(hi:i.ok X J)(hr:xRH P st t x i=some (s,st'))(hob:zCA X Pre st'.obl J) :
  qMA P X w0 J st g a (Instr.index t (x.den X J g) (i.den X J g)) w s st':=by
 unfold xRH at hr;split at hr
 rotate_left
 ·cases hr
 rename_i l k e;split at hr
 rotate_left
 ·cases hr
 rename_i hu;cases hr;obtain⟨n,hn,hw⟩:=hi;have hidx:=hob.1;simp only[Ob.holds,DE.eval,hn,if_true] at hidx;obtain⟨h0,h1⟩:=hidx;simp only[D.asInt] at h0 h1;have h1:n.toNat<l.length:=h1;refine⟨w,g,?_,Ext.keys (fun n vi hn=>⟨vi,hn⟩) (fun o cs ho=>⟨cs,ho⟩),⟨h.va,h.ob,h.oo,h.vv,h.ov,h.lo,h.lp,h.fr,h.lv,h.ex,h.gl⟩,he.of_env rfl rfl,?_⟩
 ·have hs:(ByteArray.mk l.toArray).size=l.length:=rfl;simp only[SV.den,DE.eval,hn,D.asStr,D.asInt];rw[run_index_string w t _ k n hu,dif_pos ⟨h0,by rw[hs];omega⟩]
  congr 2
  simp only[zDA,Fn.eval,DE.eval,hn,D.rows,D.asInt];rw[List.getD_eq_getElem?_getD,List.getElem?_map,List.getElem?_eq_getElem h1];rfl
 ·refine⟨(l[n.toNat]).toNat,?_,?_⟩
  ·simp only[DE.eval,zDA,Fn.eval,hn,D.rows,D.asInt];rw[List.getD_eq_getElem?_getD,List.getElem?_map,List.getElem?_eq_getElem h1];rfl
  ·have:=(l[n.toNat]).toNat_lt
   simp[Lit.wf,IntKind.min,IntKind.max,IntKind.signed,IntKind.bits];omega
theorem yJJ{t:TypeId}{op:BinOp}{p r:SV}{y:Operand}(hn:nilI P t op p y=some r):(p.den X J g = .nilIface/\y = .const .nilIface)/\r.ok X J/\(∀(x:Operand),(eqGuard op t x (.const .nilIface) .nilIface .nilIface).run P w = .ok () w)/\(binOp op t .nilIface .nilIface).run P w = .ok (r.den X J g) w:=by
 unfold nilI at hn;split at hn
 rotate_left
 ·cases hn
 rename_i ms hu;have heq:(Op.equal t .nilIface .nilIface).run P w = .ok true w:=by
  show (Op.equalIn (9999+1) t .nilIface .nilIface).run P w=_;unfold Op.equalIn;simp only[Sem.run_bind,run_underlying hu,Result.andThen_ok];rfl
 have hg:∀x:Operand,(eqGuard op t x (.const .nilIface) .nilIface .nilIface).run P w = .ok () w:=fun x=>by
  unfold eqGuard;cases op <;> first|rfl|(cases x <;> rfl)
 refine⟨⟨rfl,rfl⟩,?_⟩;split at hn
 ·cases hn;refine⟨⟨true,rfl⟩,hg,?_⟩;show ((do pure (.bool (<- Op.equal t .nilIface .nilIface)):Sem Value)).run P w=_;rw[Sem.run_bind,heq];rfl
 ·cases hn;refine⟨⟨false,rfl⟩,hg,?_⟩;show ((do pure (.bool (!(<- Op.equal t .nilIface .nilIface))):Sem Value)).run P w=_;rw[Sem.run_bind,heq];rfl
 ·cases hn
theorem yIJ(h:Mem P X w0 J st g w){t:TypeId}{op:BinOp}{p r:SV}{y:Operand}(hn:nilG P st t op p y=some r):y = .const .nilIface/\r.ok X J/\(∀(x:Operand),(eqGuard op t x (.const .nilIface) (p.den X J g) .nilIface).run P w = .ok () w)/\(binOp op t (p.den X J g) .nilIface).run P w = .ok (r.den X J g) w:=by
 unfold nilG at hn;split at hn
 rotate_left
 ·cases hn
 rename_i m ms hu;split at hn
 rotate_left
 ·cases hn
 rename_i de hm;have hv0:=h.va m _ hm;have hden:(SV.x m).den X J g=g.rv m:=rfl;obtain⟨b,hd,heq,hne⟩:∃b,de.eval X J = .bool b/\(Op.equal t (g.rv m) .nilIface).run P w = .ok (!b) w/\(g.rv m = .nilIface ∨ ∃t' v',g.rv m = .iface t' v'):=by
  rcases hv0 with⟨t',v',hv,hd⟩|⟨hv,hd⟩
  ·refine⟨true,hd,?_,.inr ⟨t',v',hv⟩⟩;rw[hv];show (Op.equalIn (9999+1) t (.iface t' v') .nilIface).run P w=_;unfold Op.equalIn;simp only[Sem.run_bind,run_underlying hu,Result.andThen_ok];rfl
  ·refine⟨false,hd,?_,.inl hv⟩;rw[hv];show (Op.equalIn (9999+1) t .nilIface .nilIface).run P w=_;unfold Op.equalIn;simp only[Sem.run_bind,run_underlying hu,Result.andThen_ok];rfl
 rw[hden];have hg:∀x:Operand,(eqGuard op t x (.const .nilIface) (g.rv m) .nilIface).run P w = .ok () w:=fun x=>by
  rcases hne with e|⟨t',v',e⟩ <;> rw[e] <;> unfold eqGuard <;> cases op <;> first|rfl|(cases x <;> rfl)
 refine⟨rfl,?_⟩;have hnot:(mkf .not [de]).eval X J = .bool (!b):=by rw[zEA];simp[zDA,Fn.eval,hd,D.asBool]
 split at hn
 ·cases hn;refine⟨⟨!b,hnot⟩,hg,?_⟩;have e2:SV.den X J g (.b (mkf .not [de])) = .bool (!b):=by simp only[SV.den,hnot];rfl
  rw[e2];rcases hne with e|⟨t',v',e⟩ <;> rw[e] at heq ⊢
  ·show ((do pure (.bool (<- Op.equal t .nilIface .nilIface)):Sem Value)).run P w=_;rw[Sem.run_bind,heq];rfl
  ·show ((do pure (.bool (<- Op.equal t (.iface t' v') .nilIface)):Sem Value)).run P w=_;rw[Sem.run_bind,heq];rfl
 ·cases hn;refine⟨⟨b,hd⟩,hg,?_⟩;have e2:SV.den X J g (.b de) = .bool (!(!b)):=by simp only[SV.den,hd];cases b <;> rfl
  rw[e2];rcases hne with e|⟨t',v',e⟩ <;> rw[e] at heq ⊢
  ·show ((do pure (.bool (!(<- Op.equal t .nilIface .nilIface))):Sem Value)).run P w=_;rw[Sem.run_bind,heq];rfl
  ·show ((do pure (.bool (!(<- Op.equal t (.iface t' v') .nilIface))):Sem Value)).run P w=_;rw[Sem.run_bind,heq];rfl
 ·cases hn
theorem qVH(h:Mem P X w0 J st g w)(he:Env X J st g a){n:Nat}{t:TypeId}{l c r:SV}{st':St}(hm:mkslO P st n t l c=some (r,st')) :
  qMA P X w0 J st g a (Instr.makeSlice t (l.den X J g) (c.den X J g)) w r st':=by
 unfold mkslO at hm;split at hm
 rotate_left
 ·cases hm
 rename_i e x y hu;split at hm
 rotate_left
 ·cases hm
 rename_i i z hi hz;split at hm
 rotate_left
 ·cases hm
 rename_i hc;obtain⟨rfl,h0,h64,h8,hby,hsz⟩:=hc;split at hm
 rotate_left
 ·cases hm
 rename_i st1 hn;cases hm;obtain⟨i',zv,hi',hzv,hden,hoks,hlen⟩:=zHB (X:=X) (J:=J) (g:=g) hz;rw[hi] at hi';cases hi'
 obtain⟨m,rfl⟩:=Int.eq_ofNat_of_zero_le (Int.le_of_lt h0);have hzs:zv.cells.size=i.size:=by rw[<- Array.length_toList,<- hden,yKA,hlen]
 have hrun:=run_make (P:=P) w t e i zv hu hi hzv .i64 .i64 (m:Int) (m:Int) (by omega) (by omega) (by
  have hm:m<=64:=by omega
  have:i.bytes*m<=1000000*64:=Nat.mul_le_mul hby hm
  rw[<- Int.natCast_mul];omega) (by omega)
 simp only[Int.toNat_natCast] at hrun hn;obtain⟨k1,k2,k3,k4,_⟩:=zQD h he e hn (by rw[qRB];exact xFB (zFD hz) _) (by rw[yHA];exact xFB (yHA.1 hoks) _);refine⟨_,_,?_,k3,k1,k2,trivial⟩;have e1:(SV.osl n (m:Int).toNat).den X J (g.setO n w.heap.size) = .slice (some ⟨w.heap.size,0,none⟩) m m:=by simp[SV.den,Gh.setO]
 have e2:(dens X J g (List.replicate m z).flatten).toArray=madeCells zv.cells (m*i.size):=by
  rw[qMC zv.cells m i.size hzs hsz,qRB,hden]
 rw[e1];simp only[SV.den,DE.eval,D.asInt];rw[hrun,<- e2]
theorem qUH(h:Mem P X w0 J st g w)(he:Env X J st g a){n:Nat}{t:TypeId}{l c r:SV}{st':St}(hc:c.ok X J)(hm:mkslA P st n t l c=some (r,st'))(hob:zCA X Pre st'.obl J) :
  qMA P X w0 J st g a (Instr.makeSlice t (l.den X J g) (c.den X J g)) w r st':=by
 unfold mkslA at hm;split at hm
 ·rename_i q hq;cases hm;exact qVH h he hq
 ·exact qWH h he hc hm hob
theorem zLH{C:Cfg}{callF:CallF}(hnm:yWA C.P)(hcall:xSC C.P X Pre (qVA C callF))(h:Mem C.P X w0 J st g w)(he:Env X J st g a){n:Nat}{o:Oper}{s:SV}{st':St}
  (hop:opS C callF st n o=some (s,st')) (hob:zCA X Pre st'.obl J):yVA C.P X w0 J st g w a o s st':=by
 obtain⟨dst,op,ty,pos,after,guard⟩:=o;cases op with
 | move x =>
  obtain⟨q,hq,hop⟩:=(by simpa only[opS,Option.bind_eq_bind,Option.bind_eq_some_iff] using hop:∃q,opd st x=some q/\some (q,st)=some (s,st'));cases hop;exact yVA.quiet h he (by simp[execOp,yIA he hq]) (zTB he hq)
 | assign x =>
  obtain⟨q,hq,hop⟩:=(by simpa only[opS,Option.bind_eq_bind,Option.bind_eq_some_iff] using hop:∃q,opd st x=some q/\some (q,st)=some (s,st'));cases hop;exact yVA.quiet h he (by simp[execOp,yIA he hq]) (zTB he hq)
 | pick c x y =>
  simp only[opS,Option.bind_eq_bind,Option.bind_eq_some_iff] at hop;obtain⟨q,hq,hop⟩:=hop;have hc:=yIA he hq;split at hop
  ·obtain⟨v,hv,hop⟩:=(by simpa only[Option.bind_eq_bind,Option.bind_eq_some_iff] using hop:∃q,opd st x=some q/\some (q,st)=some (s,st'));cases hop;refine yVA.quiet h he ?_ (zTB he hv);simp only[SV.den,DE.eval,D.asBool] at hc;simp[execOp,hc,asBool,yIA he hv]
  ·obtain⟨v,hv,hop⟩:=(by simpa only[Option.bind_eq_bind,Option.bind_eq_some_iff] using hop:∃q,opd st y=some q/\some (q,st)=some (s,st'));cases hop;refine yVA.quiet h he ?_ (zTB he hv);simp only[SV.den,DE.eval,D.asBool] at hc;simp[execOp,hc,asBool,yIA he hv]
  ·cases hop
 | alloc t =>
  obtain⟨z,hz,st1,hn,hop⟩:=(by simpa only[opS,Option.bind_eq_bind,Option.bind_eq_some_iff] using hop:∃z,xLE C.P t=some z /\ ∃y,newO st z n=some y/\some (SV.oa n 0,y)=some (s,st'));cases hop;obtain⟨i,zv,hi,hzv,hden,hoks,hlen⟩:=zHB (X:=X) (J:=J) (g:=g) hz;obtain⟨k1,k2,k3,k4,_⟩:=zQD h he t hn (zFD hz) hoks;refine yVA.of_run ⟨_,_,?_,k3,k1,k2,trivial⟩ (fun v w' hv=>yFA hv);rw[zMI hi hzv,k4,hden]
 | box t x =>
  obtain⟨v,hv,l,hl,st1,hn,hop⟩:=(by simpa only[opS,Option.bind_eq_bind,Option.bind_eq_some_iff] using hop:∃v,opd st x=some v /\ ∃l,flat C.P st t v=some l /\ ∃y,newO st l n=some y/\some (SV.oa n 0,y)=some (s,st'));cases hop;obtain⟨f1,f2,f3⟩:=zLD h (zTB he hv) hl;obtain⟨k1,k2,k3,k4,_⟩:=zQD h he t hn f3 f2;refine yVA.of_run (m:=Instr.box t (a.eval x)) ⟨_,_,?_,k3,k1,k2,trivial⟩ (fun v w' hv=>yFA hv);rw[yIA he hv];simp only[Instr.box,newVar,Sem.run_bind,qNB,Result.andThen_ok,Sem.run_pure];rw[k4,<- f1]
 | build t parts =>
  simp only[opS,Option.bind_eq_bind,Option.bind_eq_some_iff] at hop;obtain⟨ps,hps,z,hz,hop⟩:=hop;split at hop
  ·rename_i fs hu;split at hop
   ·rename_i hall;obtain⟨cs,hf,hop⟩:=(by simpa only[Option.bind_eq_bind,Option.bind_eq_some_iff] using hop:∃cs,yLG C.P st (qCD C.P t) z ps=some cs/\some (SV.agg cs,st)=some (s,st'));cases hop;obtain⟨i,zv,hi,hzv,hden,hoks,hlen⟩:=zHB (X:=X) (J:=J) (g:=g) hz;obtain⟨p1,p2⟩:=qSC he hps;have hpl:=zNG fs.toList hall w;obtain⟨f1,f2,f3,f4⟩:=ySC h (place:=qCD C.P t) (place':=((fs.map fun f=>(f.offset,((C.P.info? f.type).map (·.size)).getD 0))[·]?)) (fun j off t' ti h1 h2=>by
     obtain⟨fs',fd,i',hu',hfd,hi',hne,e1,e2⟩:=qSE h1;rw[hu] at hu';cases hu'
     subst e2;rw[hi'] at h2;cases h2
     simp[hfd,hi',e1]) p2 hoks (zFD hz) hf
    refine yVA.of_run (m:=Instr.build t (parts.map fun(i,x)=>(i,a.eval x))) (qMA.quiet h he ?_ f2) (fun v w' hv=>yFA hv);unfold Instr.build;have hpl':(fs.mapM (fun f=>do pure (f.offset,<- sizeOf f.type):Go.Field->Sem (Nat×Nat))).run C.P w = .ok (fs.map fun f=>(f.offset,((C.P.info? f.type).map (·.size)).getD 0)) w:=by
     rw[Array.mapM_eq_mapM_toList];simp only[bind_pure_comp] at hpl ⊢;rw[Sem.run_map,hpl]
     simp
     apply Array.ext'
     simp
    have hpv:(parts.map fun(i,x)=>(i,a.eval x)).toList=ps.map fun p=>(p.1,p.2.den X J g):=by simpa using p1
    simp only[Sem.run_bind,qKB hi hzv,run_underlying hu,Result.andThen_ok];rw[hpl'];simp only[Result.andThen_ok];rw[hpv];have hz0:zv.cells=(dens X J g z).toArray:=by rw[hden]
    rw[hz0,f1];simp[SV.den]
   ·cases hop
  ·cases hop
 | buildSlice t len parts =>
  simp only[opS,Option.bind_eq_bind,Option.bind_eq_some_iff] at hop;obtain⟨ps,hps,hop⟩:=hop;obtain⟨p1,p2⟩:=qSC he hps;exact yVA.of_run (zZG h he p2 hop _ (by simpa using p1)) (fun v w' hv=>yFA hv)
 | load t x =>
  obtain⟨p,hp,hop⟩:=(by simpa only[opS,Option.bind_eq_bind,Option.bind_eq_some_iff] using hop:∃p,opd st x=some p/\loadA C.P st n t p=some (s,st'))
  have:=qJH h he hop hob
  rw[<- yIA he hp] at this;exact yVA.of_run this (fun v w' hv=>yFA hv)
 | store t x y =>
  obtain⟨p,hp,v,hv,st1,hs,hop⟩:=(by simpa only[opS,Option.bind_eq_bind,Option.bind_eq_some_iff] using hop:∃p,opd st x=some p /\ ∃v,opd st y=some v /\ ∃y,qMI C.P st t p v=some y/\some (SV.tup [],y)=some (s,st'));cases hop;obtain⟨w',k1,k2,k3,k4,k6⟩:=yNH h he (zTB he hv) hs hob;intro K Q hK;refine xNJ (w':=w') ?_ ?_
  ·simp[execOp,yIA he hp,yIA he hv,k1]
  ·have:=hK g w' k6 k2 (he.of_env k3 k4) trivial
   simpa[SV.den,dens,undef] using this
 | nilCheck x =>
  simp only[opS,Option.bind_eq_bind,Option.bind_eq_some_iff] at hop;obtain⟨q,hq,hop⟩:=hop;have hc:=yIA he hq;split at hop
  ·cases hop;exact yVA.quiet h he (by simp[execOp,hc,SV.den]) trivial
  ·cases hop;exact yVA.quiet h he (by simp[execOp,hc,SV.den]) trivial
  ·cases hop;rename_i m e off sz;obtain⟨b,o,hbo⟩:=zJD (g.rv m);exact yVA.quiet h he (by simp[execOp,hc,SV.den,hbo]) trivial
  ·obtain⟨b,o,g',k1,k2,k3,k4,k5,k6⟩:=zJI h he hop hob;intro K Q hK;refine xRB (v:=s.den X J g') (w':=w) ?_ (hK g' w k3 k4 k5 k6);rw[k2];simp[execOp,hc,k1]
 | index t x i =>
  simp only[opS,Option.bind_eq_bind,Option.bind_eq_some_iff] at hop;obtain⟨p,hp,q,hq,hop⟩:=hop
  have:=yGG h he (zTB he hp) (zTB he hq) hop hob
  rw[<- yIA he hp,<- yIA he hq] at this;exact yVA.of_run this (fun v w' hv=>yFA hv)
 | binOp bop t x y _ =>
  simp only[opS,Option.bind_eq_bind,Option.bind_eq_some_iff] at hop;obtain⟨p,hp,q,hq,hop⟩:=hop;split at hop
  ·rename_i r hn;cases hop;obtain⟨k1,k2,k3⟩:=yJJ (X:=X) (J:=J) (g:=g) (w:=w) hn;refine yVA.quiet h he (yFA ?_) k2;rw[yIA he hp];have e1:(eqGuard bop t x y (p.den X J g) (a.eval y)).run C.P w = .ok () w:=by rw[k1.1,k1.2];exact k3.1 x
   rw[Sem.run_bind,e1];rw[k1.1,k1.2];exact k3.2
  split at hop
  ·rename_i r hn;cases hop;obtain⟨k1,k2,k3⟩:=yIJ h hn;refine yVA.quiet h he (yFA ?_) k2;rw[yIA he hp];have ey:a.eval y = .nilIface:=by rw[k1];rfl
   have e1:(eqGuard bop t x y (p.den X J g) (a.eval y)).run C.P w = .ok () w:=by rw[ey,k1];exact k3.1 x
   rw[Sem.run_bind,e1,ey];exact k3.2
  obtain⟨k1,k2,k3,k4,e1,e2,e3,e4,e5,e6⟩:=zKJ h (zTB he hp) (zTB he hq) hop hob;have hm':Mem C.P X w0 J st' g w:=by
   obtain⟨env,vars,objs,loops,obl,lvl,nx,nt⟩:=st;obtain⟨env',vars',objs',loops',obl',lvl',nx',nt'⟩:=st';simp only at e1 e2 e3 e4;subst e1;subst e2;subst e3;subst e4
   exact⟨h.va,h.ob,h.oo,h.vv,h.ov,h.lo,h.lp,h.fr,h.lv,h.ex,h.gl⟩
  have hx':Ext st g st' g:=Ext.keys (fun n vi hn=>⟨vi,by rw[e1];exact hn⟩) (fun o cs ho=>⟨cs,by rw[e2];exact ho⟩);intro K Q hK;refine xRB (v:=s.den X J g) (w':=w) (yFA ?_) (hK g w hx' hm' (he.of_env e5 e6) k2);rw[yIA he hp,yIA he hq];rw[Sem.run_bind,xIB k3 k4];exact k1
 | unOp uop t x =>
  cases uop with
  | not =>
   simp only[opS,Option.bind_eq_bind,Option.bind_eq_some_iff] at hop;obtain⟨q,hq,hop⟩:=hop;have hc:=yIA he hq;split at hop
   ·cases hop;obtain⟨b,hb⟩:=zTB he hq;refine yVA.quiet h he (yFA ?_) ⟨!b,by rw[zEA];simp[zDA,Fn.eval,hb,D.asBool]⟩;rw[hc];simp[SV.den,Op.unary,zEA,zDA,Fn.eval,hb,D.asBool]
   ·cases hop
  | neg=>simp[opS] at hop
  | xor=>simp[opS] at hop
  | plus=>simp[opS] at hop
 | convert src d x =>
  simp only[opS,Option.bind_eq_bind,Option.bind_eq_some_iff] at hop;obtain⟨q,hq,hop⟩:=hop
  have:=xTH h he (zTB he hq) hop
  rw[<- yIA he hq] at this;exact yVA.of_run this (fun v w' hv=>yFA hv)
 | makeSlice t l c =>
  simp only[opS,Option.bind_eq_bind,Option.bind_eq_some_iff] at hop;obtain⟨p,hp,q,hq,hop⟩:=hop
  have:=qUH h he (zTB he hq) hop hob
  rw[<- yIA he hp,<- yIA he hq] at this;exact yVA.of_run this (fun v w' hv=>yFA hv)
 | makeFunc fn first caught =>
  cases fn with
  | func f =>
   simp only[opS,Option.bind_eq_bind,Option.bind_eq_some_iff] at hop;obtain⟨as,has,hop⟩:=hop;obtain⟨h1,h2⟩:=qLA he has;split at hop
   ·rename_i hfe;cases hop;have hfe:first = #[]:=by simpa using hfe
    subst hfe;refine yVA.quiet h he ?_ (by simpa only[SV.ok] using h2);have hargs:caught.map a.eval=(dens X J g as).toArray:=by
     apply Array.ext';simpa using h1
    simp only[execOp,Instr.makeFunc,hargs,SV.den,WK.den,Sem.run_bind,Sem.run_pure,Result.andThen_ok,Array.map_empty]
   ·cases hop
  | _=>simp[opS] at hop
 | makeInterface t x =>
  simp only[opS,Option.bind_eq_bind,Option.bind_eq_some_iff] at hop;obtain⟨v,hv,hop⟩:=hop;split at hop
  ·cases hop
  ·rename_i d hu hnd;cases hop;refine yVA.quiet h he ?_ (by simpa only[SV.ok,oks] using⟨zTB he hv,trivial⟩);have hmk:(Instr.makeInterface t (a.eval x)).run C.P w = .ok (.iface t (a.eval x)) w:=by
    unfold Instr.makeInterface;simp only[Sem.run_bind,run_underlying hnd,Result.andThen_ok];exact Sem.run_pure _ _ _
   rw[yIA he hv] at hmk;simp only[execOp,yIA he hv,Sem.run_bind,hmk,Result.andThen_ok,Sem.run_pure,SV.den,WK.den,dens,gzZ]
  ·cases hop
 | fieldAddr t x f =>
  simp only[opS,Option.bind_eq_bind,Option.bind_eq_some_iff] at hop;obtain⟨ft,hft,q,hq,hop⟩:=hop;have hc:=yIA he hq;split at hop
  ·cases hop;refine yVA.quiet h he (yFA ?_) trivial;rw[hc];exact qYB (off:=ft.1) (t:=ft.2) hft _ _ w
  ·cases hop;refine yVA.quiet h he (yFA ?_) trivial;rw[hc]
   have:=qYB (off:=ft.1) (t:=ft.2) hft (g.rh ‹Nat›).1 ((g.rh ‹Nat›).2 + ‹Nat›) w
   simp only[SV.den];rw[<- Nat.add_assoc];exact qYB (off:=ft.1) (t:=ft.2) hft _ _ w
  ·cases hop;rename_i m e off sz;refine yVA.quiet h he (yFA ?_) trivial;rw[hc];obtain⟨b,o,hbo⟩:=zJD (g.rv m)
   have:=qYB (off:=ft.1) (t:=ft.2) hft b (o+((e.eval X J).asInt.toNat*sz+off)) w
   simp only[SV.den,hbo];rw[this];simp only[Nat.add_assoc]
  ·cases hop
 | field t x f =>
  obtain⟨ft,hft,v,hv,l,hl,k,hk,r,hr,hop⟩:=(by simpa only[opS,Option.bind_eq_bind,Option.bind_eq_some_iff] using hop:∃ft,qCD C.P t f=some ft /\ ∃v,opd st x=some v /\ ∃l,flat C.P st t v=some l /\ ∃k,xXD C.P ft.2=some k /\ ∃r,yED C.P st ft.2 ((l.drop ft.1).take k)=some r/\some (r,st)=some (s,st'));cases hop;obtain⟨fs,fd,i,hu,hfd,hi,hne,e1,e2⟩:=qSE (off:=ft.1) (t:=ft.2) hft;obtain⟨f1,f2,f3⟩:=zLD h (zTB he hv) hl;have f4:=flat_agg h hu rfl hl;obtain⟨td,ti,hut,hit,rfl⟩:=qKE hk;obtain⟨td',ti',hut',hit',hlen,hden,hok⟩:=qZA h (xTI (xSI f2 ft.1) _) hr;rw[hut] at hut';cases hut'
  rw[hit] at hit';cases hit'
  refine yVA.quiet h he (yFA ?_) hok;rw[yIA he hv,f4];have hcells:(v.den X J g).cells=(dens X J g l).toArray:=by rw[<- f1]
  rw[hcells];unfold Instr.field;simp only[Sem.run_bind,run_underlying hu,Result.andThen_ok,hfd,asAgg,Sem.run_pure,part,e2,yAH hut,e1];rw[hden];cases had:zGA td with
  | true =>
   simp only[if_true,Sem.run_bind,xAA hit,Result.andThen_ok,Sem.run_pure];rw[qJG,qIG]
   congr 2
   apply Array.ext'
   simp
  | false =>
   rw[had] at hlen;simp only[bfZ,if_false] at hlen ⊢;have hlt:ft.1<l.length:=by
    rw[List.length_take,List.length_drop] at hlen;omega
   have hlt':ft.1<(dens X J g l).length:=by rw[yKA];exact hlt
   rw[qJG,qIG];simp[hlt',List.getD]
 | indexAddr t x i =>
  simp only[opS,Option.bind_eq_bind,Option.bind_eq_some_iff] at hop;obtain⟨p,hp,q,hq,hop⟩:=hop
  have:=zVJ h he (zTB he hp) (zTB he hq) hop hob
  rw[<- yIA he hp,<- yIA he hq] at this;exact yVA.of_run this (fun v w' hv=>yFA hv)
 | slice t x lo hi mx =>
  simp only[opS,Option.bind_eq_bind,Option.bind_eq_some_iff] at hop;obtain⟨p,hp,l,hl,hh,hhi,m,hm,hop⟩:=hop;obtain⟨l1,l2⟩:=zUE he hl;obtain⟨m1,m2⟩:=zUE he hhi;obtain⟨n1,n2⟩:=zUE he hm
  have:=qPK h he (zTB he hp) l2 m2 hop hob
  rw[<- yIA he hp,<- l1,<- m1,<- n1] at this;exact yVA.of_run this (fun v w' hv=>yFA hv)
 | extract x i =>
  simp only[opS,Option.bind_eq_bind,Option.bind_eq_some_iff] at hop;obtain⟨q,hq,hop⟩:=hop;have hc:=yIA he hq;have hok:=zTB he hq;split at hop
  ·rename_i l;obtain⟨v,hv,hop⟩:=(by simpa only[Option.bind_eq_bind,Option.bind_eq_some_iff] using hop:∃v,l[i]? = some v/\some (v,st)=some (s,st'));cases hop;refine yVA.quiet h he (yFA ?_) (yHA.1 hok _ (List.mem_of_getElem? hv));rw[hc]
   have:(dens X J g l)[i]? = some (s.den X J g):=by rw[zRA,List.getElem?_map,hv];rfl
   simp[Instr.extract,SV.den,this]
  ·cases hop
 | call c =>
  obtain⟨callee,cargs,ats⟩:=c;simp only[opS] at hop;split at hop
  ·simp only[Option.bind_eq_bind,Option.bind_eq_some_iff] at hop;obtain⟨as,has,hop⟩:=hop;obtain⟨h1,h2⟩:=qLA he has;split at hop
   ·rename_i x t hts;have hats:ats = #[t]:=by apply Array.ext';simpa using hts
    have hargs:cargs.map a.eval = #[x.den X J g]:=by apply Array.ext';simpa[dens] using h1
    split at hop
    ·rename_i kd hkd;split at hop
     ·rename_i hk;cases hop;obtain⟨k1,k2⟩:=yCJ h (k:=kd.1) (d:=kd.2) h2.1 hkd hk.1 hk.2 ty;refine yVA.quiet h he ?_ k2;simp only[execOp,resolve,Sem.run_bind,Sem.run_pure,Result.andThen_ok,invoke,builtin,hats,hargs,k1]
     ·cases hop
    ·obtain⟨r,hr,hop⟩:=Option.map_eq_some_iff.1 hop;cases hop;obtain⟨k1,k2⟩:=yDJ h hr ty;refine yVA.quiet h he ?_ k2;simp only[execOp,resolve,Sem.run_bind,Sem.run_pure,Result.andThen_ok,invoke,builtin,hats,hargs,k1]
   ·cases hop
  ·simp only[Option.bind_eq_bind,Option.bind_eq_some_iff] at hop;obtain⟨as,has,hop⟩:=hop;obtain⟨h1,h2⟩:=qLA he has;split at hop
   ·rename_i x y t u hts;have hats:ats = #[t,u]:=by apply Array.ext';simpa using hts
    have hargs:cargs.map a.eval = #[x.den X J g,y.den X J g]:=by apply Array.ext';simpa[dens] using h1
    refine yVA.of_run (zFJ (ty:=ty) h he h2.2.1 hop hob) (fun v w' hv=>?_);simp only[execOp,resolve,Sem.run_bind,Sem.run_pure,Result.andThen_ok,invoke,builtin,hats,hargs,hv]
   ·cases hop
  ·simp only[Option.bind_eq_bind,Option.bind_eq_some_iff] at hop;obtain⟨as,has,hop⟩:=hop;obtain⟨h1,h2⟩:=qLA he has;split at hop
   ·rename_i x y t u hts;have hats:ats = #[t,u]:=by apply Array.ext';simpa using hts
    have hargs:cargs.map a.eval = #[x.den X J g,y.den X J g]:=by apply Array.ext';simpa[dens] using h1
    refine yVA.of_run (xUH (ty:=ty) h he h2.2.1 hop) (fun v w' hv=>?_);simp only[execOp,resolve,Sem.run_bind,Sem.run_pure,Result.andThen_ok,invoke,builtin,hats,hargs,hv]
   ·cases hop
  ·obtain⟨as,has,r,hr,hop⟩:=(by simpa only[Option.bind_eq_bind,Option.bind_eq_some_iff] using hop:∃as,opds st cargs.toList=some as /\ ∃r,maxS as=some r/\some (r,st)=some (s,st'));cases hop;obtain⟨h1,h2⟩:=qLA he has;have hargs:cargs.map a.eval=(dens X J g as).toArray:=by apply Array.ext';simpa using h1
   obtain⟨k1,k2⟩:=yFJ (P:=C.P) (g:=g) h2 hr ats ty w;refine yVA.quiet h he ?_ k2;simp only[execOp,resolve,Sem.run_bind,Sem.run_pure,Result.andThen_ok,invoke,builtin,hargs,k1]
  ·obtain⟨as,has,r,hr,hop⟩:=(by simpa only[Option.bind_eq_bind,Option.bind_eq_some_iff] using hop:∃as,opds st cargs.toList=some as /\ ∃r,minS as=some r/\some (r,st)=some (s,st'));cases hop;obtain⟨h1,h2⟩:=qLA he has;have hargs:cargs.map a.eval=(dens X J g as).toArray:=by apply Array.ext';simpa using h1
   obtain⟨k1,k2⟩:=yGJ (P:=C.P) (g:=g) h2 hr ats ty w;refine yVA.quiet h he ?_ k2;simp only[execOp,resolve,Sem.run_bind,Sem.run_pure,Result.andThen_ok,invoke,builtin,hargs,k1]
  ·rename_i f;simp only[Option.bind_eq_bind,Option.bind_eq_some_iff] at hop;obtain⟨as,has,hop⟩:=hop;exact zOJ hnm hcall h he rfl has hop hob
  ·rename_i o' _;simp only[Option.bind_eq_bind,Option.bind_eq_some_iff] at hop;obtain⟨q,hq,as,has,hop⟩:=hop;split at hop
   ·rename_i f cs;obtain⟨h1,h2⟩:=qLA he has;have hcs:oks X J cs:=by simpa only[SV.ok] using zTB he hq
    refine qRE hnm hcall h he (yHA.2 fun x hx=>?_) hop hob (fun fn c hfn hb=>?_)
    ·rcases List.mem_append.1 hx with hx|hx
     ·exact yHA.1 h2 x hx
     ·exact yHA.1 hcs x hx
    ·have hargs:cargs.map a.eval=(dens X J g as).toArray:=by apply Array.ext';simpa using h1
     have hf:a.eval o' = .func (.func f) #[] (dens X J g cs).toArray:=by rw[yIA he hq];simp only[SV.den,WK.den]
     unfold execOp;simp only[resolve,hf,Deferred.ofValue,Sem.run_bind,Sem.run_pure,Result.andThen_ok,invoke,hargs];simp only[Array.empty_append];rw[show (dens X J g as).toArray++(dens X J g cs).toArray=(dens X J g (as++cs)).toArray by simp[zRA]];exact yWB hfn (hnm f fn hfn) hb _ w
   ·cases hop
  ·rename_i r name;simp only[Option.bind_eq_bind,Option.bind_eq_some_iff] at hop;obtain⟨q,hq,as,has,hop⟩:=hop;split at hop
   ·rename_i t v;split at hop
    ·rename_i f hm;obtain⟨h1,h2⟩:=qLA he has;have hv:v.ok X J:=by
      have:=zTB he hq
      simp only[SV.ok,oks] at this;exact this.1
     refine qRE hnm hcall h he (show oks X J (v::as) from ⟨hv,h2⟩) hop hob (fun fn c hfn hb=>?_);have hargs:cargs.map a.eval=(dens X J g as).toArray:=by apply Array.ext';simpa using h1
     have hf:a.eval r = .iface t (v.den X J g):=by rw[yIA he hq];simp only[SV.den,WK.den,dens,gzZ]
     unfold execOp;simp only[resolve,hf,Sem.run_bind,Sem.run_pure,Result.andThen_ok,invoke,hargs];have hex:(#[Value.iface t (v.den X J g)]++(dens X J g as).toArray).extract 1 (#[Value.iface t (v.den X J g)]++(dens X J g as).toArray).size=(dens X J g as).toArray:=by
      apply Array.ext'
      simp
     have h0:(#[Value.iface t (v.den X J g)]++(dens X J g as).toArray)[0]? = some (.iface t (v.den X J g)):=by simp
     rw[h0,hex];simp only[callMethod,Sem.run_bind];have hpr:(program).run C.P w = .ok C.P w:=rfl;rw[hpr];simp only[Result.andThen_ok];rw[show C.P.types.size+Made.depth=(C.P.types.size+99)+1 from rfl,yPK hm];simp only[Result.andThen_ok];rw[show #[v.den X J g]++(dens X J g as).toArray=(dens X J g (v::as)).toArray by simp[dens]];exact yWB hfn (hnm f fn hfn) hb _ w
    ·cases hop
   ·cases hop
  ·cases hop
 | _=>simp[opS] at hop
end
end Go.Dx
namespace Go.Dx
open Go
inductive ArgOk (P:Program) (ok:Nat->Prop) (w:World):AK->Value->D->Prop where
 | val {t v d} (h:Rep P ok w t v d):ArgOk P ok w (.val t) v d
 | own {t v d} (h:yRA P ok w t v d):ArgOk P ok w (.own t) v d
 | mcell {t m b off mv d} (hc:w.cell? ⟨b,off,none⟩=some mv) (h:TagsAt P ok w m mv d):ArgOk P ok w (.mcell t m) (.pointer (some ⟨b,off,none⟩)) d
 | wcell {t m b off mv d ty} {cs:Array Value} (hh:w.heap[b]? = some (.cells cs ty (0,0))) (hc:cs[off]? = some mv) (h:TagsAt P ok w m mv d)
   (hne:mv ≠ .map (some b)) (h1:∀v∈cs,v.oneCell'=true):ArgOk P ok w (.wcell t m) (.pointer (some ⟨b,off,none⟩)) d
 | ccell {gs off t f b mv d ty} {cs:Array Value} (hf:gs.elem f=true) (hh:w.heap[b]? = some (.cells cs ty (0,0))) (hc:cs[off]? = some mv) (hn:cs.size=off+1) (h:yRA P ok w t mv d)
   (hne:mv.ownBlock≠some b) (h1:∀v∈cs,v.oneCell'=true):ArgOk P ok w (.ccell gs off t) (.func (.func f) #[] #[.pointer (some ⟨b,0,none⟩)]) d
 | rd {t m b v d ty} (hh:w.heap[b]? = some (.cells #[v,.bool (rdBD m d)] ty (0,0))) (ht:qZB P t=true) (h1:v.oneCell'=true) (hw:rdWf m d) (h:Rep P ok w t v (rdSD m d)):ArgOk P ok w (.rd t m) (.pointer (some ⟨b,0,none⟩)) d
inductive ArgsOk (P:Program) (ok:Nat->Prop) (w:World):List AK->List Value->List D->Prop where
 | nil:ArgsOk P ok w [] [] []
 | cons {k v d ks vs ds} (h:ArgOk P ok w k v d) (hs:ArgsOk P ok w ks vs ds):ArgsOk P ok w (k::ks) (v::vs) (d::ds)
def wrA(w:World):AK->Value->Nat->Prop
 | .own _,v,b=>v.ownBlock=some b
 | .wcell _ _,.pointer (some a),b=>b=a.block∨w.cell? ⟨a.block,a.off,none⟩=some (.map (some b))
 | .rd _ _,.pointer (some a),b=>b=a.block
 | .ccell _ off _,.func _ _ l,b=>∃a,l[0]? = some (.pointer (some a))/\(b=a.block ∨ ∃v,w.cell? ⟨a.block,off,none⟩=some v/\v.ownBlock=some b)
 | _,_,_=>False
def Wr(w:World):List AK->List Value->Nat->Prop
 | k::ks,v::vs,b=>wrA w k v b∨Wr w ks vs b
 | _,_,_=>False
def rdA(w:World):AK->Value->Nat->Prop
 | .mcell _ _,.pointer (some a),b=>b=a.block∨w.cell? ⟨a.block,a.off,none⟩=some (.map (some b))
 | _,_,_=>False
def Rd(w:World):List AK->List Value->Nat->Prop
 | k::ks,v::vs,b=>rdA w k v b∨Rd w ks vs b
 | _,_,_=>False
def yOB(P:Program)(ok:Nat->Prop)(w w':World)(c:Ctr)(vs:List Value)(v:Value)(d:D):Prop :=
 match c.res with
 | .val t=>∀ok':Nat->Prop,(∀b,ok b->ok' b)->(∀b,w.heap.size<=b->b<w'.heap.size->ok' b)->Rep P ok' w' t v d
 | .own t=>(∀b,v.ownBlock=some b->(w.heap.size<=b∨Wr w c.args vs b)/\b<w'.heap.size) /\
   ∀ok':Nat->Prop,(∀b,ok b->ok' b)->(∀b,w.heap.size<=b->b<w'.heap.size->v.ownBlock≠some b->ok' b)->yRA P ok' w' t v d
 | .cell m=>v = .tuple #[] /\ ∃b off ty cs mv,(∃t,∃j:Nat,c.args[j]? = some (.wcell t m)/\vs[j]? = some (.pointer (some ⟨b,off,none⟩)))/\w.heap[b]? = some (.cells cs ty (0,0)) /\
   w'.heap[b]? = some (.cells (cs.setIfInBounds off mv) ty (0,0))/\(∀r,mv = .map (some r)->(w.heap.size<=r∨Wr w c.args vs r)/\r<w'.heap.size/\r≠b) /\
   ∀ok':Nat->Prop,(∀b,ok b->ok' b)->(∀k,w.heap.size<=k->k<w'.heap.size->mv ≠ .map (some k)->ok' k)->TagsAt P ok' w' m mv d
 | .unit=>v = .tuple #[]
 | .valK t k=>∃kd,P.underlying t=some (.int kd)/\v = .int kd k/\(Lit.int kd k).wf=true
 | .rd t m=>∃b ty tb rv,(∃j:Nat,c.args[j]? = some (.rd tb m)/\vs[j]? = some (.pointer (some ⟨b,0,none⟩)))/\w'.heap[b]? = some (.cells #[rv,.bool (rdBD m d)] ty (0,0))/\rdWf m d /\
   ∀ok':Nat->Prop,(∀b,ok b->ok' b)->(∀b,w.heap.size<=b->b<w'.heap.size->ok' b)->Rep P ok' w' t v (d.cells.getD 0 .nil)/\Rep P ok' w' tb rv (d.cells.getD 1 .nil)
 | .valT t=>∃v',v = .tuple #[v',.bool true] /\ ∀ok':Nat->Prop,(∀b,ok b->ok' b)->(∀b,w.heap.size<=b->b<w'.heap.size->ok' b)->Rep P ok' w' t v' d
 | .ownT t=>∃v',v = .tuple #[v',.bool true]/\(∀b,v'.ownBlock=some b->(w.heap.size<=b∨Wr w c.args vs b)/\b<w'.heap.size) /\
   ∀ok':Nat->Prop,(∀b,ok b->ok' b)->(∀b,w.heap.size<=b->b<w'.heap.size->v'.ownBlock≠some b->ok' b)->yRA P ok' w' t v' d
 | .ccell t=>v = .tuple #[] /\ ∃b off ty ty2 cs mv,(∃gs f,∃j:Nat,c.args[j]? = some (.ccell gs off t)/\vs[j]? = some (.func (.func f) #[] #[.pointer (some ⟨b,0,none⟩)]))/\w.heap[b]? = some (.cells cs ty (0,0)) /\
   w'.heap[b]? = some (.cells (cs.setIfInBounds off mv) ty2 (0,0))/\(∀r,mv.ownBlock=some r->(w.heap.size<=r∨Wr w c.args vs r)/\r<w'.heap.size/\r≠b) /\
   ∀ok':Nat->Prop,(∀b,ok b->ok' b)->(∀k,w.heap.size<=k->k<w'.heap.size->mv.ownBlock≠some k->ok' k)->yRA P ok' w' t mv d
 | .valB t=>∃v' b,v = .tuple #[v',.bool b]/\d.cells.getD 1 .nil = .bool b /\ ∀ok':Nat->Prop,(∀b,ok b->ok' b)->(∀b,w.heap.size<=b->b<w'.heap.size->ok' b)->Rep P ok' w' t v' (d.cells.getD 0 .nil)
def xDA(P:Program)(X:Nat->List D->D)(Pre:Nat->List D->Prop)(f:FuncId)(c:Ctr):Prop :=
 (∃fn b,P.funcs[f]? = some fn/\fn.body=some b) /\
 ∀(ok:Nat->Prop) (w:World) (vs:List Value) (ds:List D),ArgsOk P ok w c.args vs ds->(∀b,ok b->b<w.heap.size /\ ¬Wr w c.args vs b)->(∀b,Rd w c.args vs b -> ¬Wr w c.args vs b) ->
  (c.pre=true->Pre c.fn ds)->GlW X w (Wr w c.args vs) ->
  Calls P f vs.toArray w fun e w'=>∃v,e = .returned v/\Fr (Wr w c.args vs) w w'/\yOB P ok w w' c vs v (X c.fn ds)
section
variable {P:Program} {X:Nat->List D->D} {Pre:Nat->List D->Prop} {w0:Base} {J:List D} {st:St} {g:Gh} {w:World} {a:Act}
theorem Mem.glW(h:Mem P X w0 J st g w){W:Nat->Prop}(hW:∀b,W b->Actv st g b):GlW X w W:=fun k ho=>by
 obtain⟨hM,t,x,ty,fz,hc⟩:=h.gl k ho;have hlt:k<w0.w.heap.size:=(Array.getElem?_eq_some_iff.1 hc).1;refine⟨fun hw=>?_,t,x,ty,fz,by rw[h.fr.block k hlt hM];exact hc⟩;rcases h.lo k (hW k hw) with h1|h1
 ·omega
 ·exact hM h1
theorem qIB{m:TypeId}(h:xBG P m=true):∃k e,P.underlying m=some (.map k e):=by
 unfold xBG at h;split at h
 ·rename_i k e hu;exact⟨k,e,hu⟩
 ·cases h
theorem zPB{t:TypeId}(h:qZB P t=true):∃e i,P.underlying t=some (.slice e)/\P.info? e=some i:=by
 unfold qZB at h;split at h
 ·rename_i e hu;obtain⟨i,hi⟩:=Option.isSome_iff_exists.1 h;exact⟨e,i,hu,hi⟩
 ·cases h
theorem Rep.tagsAt{ok:Nat->Prop}{m k e:TypeId}{v:Value}{d:D}(h:Rep P ok w m v d)(hu:P.underlying m=some (.map k e)):TagsAt P ok w m v d:=by
 cases h with
 | mnil hu'=>exact .nil hu'
 | map hu' hk hr hh hkeys hkw hs hborn hclock hrr=>exact .map hu' hk hh hkeys hkw hs hborn hclock hrr
 | int hu'=>rw[hu] at hu';cases hu'
 | bool hu'=>rw[hu] at hu';cases hu'
 | str hu'=>rw[hu] at hu';cases hu'
 | flt hu'=>rw[hu] at hu';cases hu'
 | snil hu'=>rw[hu] at hu';cases hu'
 | bytes hu'=>rw[hu] at hu';cases hu'
 | list hu'=>rw[hu] at hu';cases hu'
 | row hu' hd=>rw[hu] at hu';cases hu';simp[zGA] at hd
 | pnil hu'=>rw[hu] at hu';cases hu'
 | ptr hu'=>rw[hu] at hu';cases hu'
theorem xAG(h:Mem P X w0 J st g w){m:TypeId}{s:SV}{d:DE}(hm:zKF P st m s=some d):TagsAt P (okOf st g w) w m (s.den X J g) (d.eval X J):=by
 unfold zKF at hm;split at hm
 ·split at hm
  ·rename_i hmo;cases hm;obtain⟨k,e,hu⟩:=qIB hmo;exact .nil hu
  ·cases hm
 ·rename_i n;split at hm
  ·rename_i u de hn;split at hm
   ·rename_i hum;subst hum;cases hm
    exact h.va n _ hn
   ·cases hm
  ·rename_i u de hn;split at hm
   ·rename_i hum;obtain⟨rfl,hmo⟩:=hum;cases hm;obtain⟨k,e,hu⟩:=qIB hmo;exact Rep.tagsAt (h.va n _ hn) hu
   ·cases hm
  ·cases hm
 ·rename_i n j;split at hm
  ·rename_i vt de hn;split at hm
   ·rename_i u hr;split at hm
    ·rename_i hc;cases hm;obtain⟨k,e,hu⟩:=qIB hc.2;exact Rep.tagsAt (h.cell (vi:=⟨vt,de⟩) hn hr hc.1) hu
    ·cases hm
   ·cases hm
  ·cases hm
 ·cases hm
theorem xTC.cell{o:Nat}{cs:List SV}(h:xTC X J g w o cs){off:Nat}{s:SV}(hs:cs[off]? = some s):w.cell? ⟨g.rb o,off,none⟩=some (s.den X J g):=by
 have:=h.cells off (s.den X J g) (by rw[zRA,List.getElem?_map,hs];rfl)
 rwa [Nat.zero_add] at this
theorem yNJ(X:Nat->List D->D)(J:List D)(d e:DE):((pairE d e).eval X J).cells.getD 1 .nil=d.eval X J/\((pairE d e).eval X J).cells.getD 2 .nil=e.eval X J:=by
 have base:((DE.f .mkrow [.k .nil,d,e]).eval X J).cells.getD 1 .nil=d.eval X J/\((DE.f .mkrow [.k .nil,d,e]).eval X J).cells.getD 2 .nil=e.eval X J:=⟨rfl,rfl⟩;unfold pairE;split
 ·rename_i k as q;split
  ·rename_i hb;rw[baZ] at hb
   have:=DE.beq_eq hb.2
   subst this;exact⟨rfl,rfl⟩
  ·exact base
 ·exact base
theorem zIJ(h:Mem P X w0 J st g w){k:AK}{s:SV}{d:DE}(hs:s.ok X J)(ha:argD P st k s=some d):ArgOk P (okOf st g w) w k (s.den X J g) (d.eval X J):=by
 unfold argD at ha;split at ha
 ·exact .val (yYA h hs ha)
 ·split at ha
  ·rename_i hso;cases ha
   obtain⟨e,i,hu,hi⟩:=zPB hso;exact .own (yRA.nilv hu hi)
  ·cases ha
 ·rename_i n;split at ha
  ·rename_i u de hn;split at ha
   ·rename_i hut;subst hut;cases ha
    exact .own (h.va n _ hn)
   ·cases ha
  ·cases ha
 ·cases ha
 ·rename_i o off;split at ha
  ·rename_i cs ho;split at ha
   ·rename_i c hc;exact .mcell ((h.ob o cs ho).cell hc) (xAG h ha)
   ·cases ha
  ·cases ha
 ·rename_i n off;split at ha
  ·rename_i u de hn;split at ha
   ·rename_i hc;cases ha;obtain⟨k,e,hu⟩:=qIB hc.2;have hv:=h.va n _ hn;obtain⟨h1,h2⟩:=h.cell (vi:=⟨.row u,de⟩) hn rfl hc.1 |> fun x=>(⟨x,trivial⟩:_/\True)
    have hsz:=hv.1.size;have hlt:off<(g.rv n).cells.toList.length:=by
     have:=(List.getElem?_eq_some_iff.1 hc.1).1
     rw[Array.length_toList,hsz.1];exact this
    have hcell:=hv.2.2 off _ (List.getElem?_eq_getElem hlt);refine .mcell (mv:=(g.rv n).cells.toList[off]) hcell ?_;have e1:(SV.xc n off).den X J g=(g.rv n).cells.toList[off]:=by
     simp only[SV.den];rw[Array.getElem_toList];simp at hlt;simp[Array.getD,hlt]
    rw[<- e1];exact Rep.tagsAt h1 hu
   ·cases ha
  ·cases ha
 ·cases ha
 ·rename_i o off;split at ha
  ·rename_i cs ho;have hob:=h.ob o cs ho;obtain⟨⟨ty,hh⟩,h1,_⟩:=hob;split at ha
   ·rename_i hc;split at ha
    ·rename_i hmo;cases ha
     obtain⟨k,e,hu⟩:=qIB hmo;refine .wcell (mv:=.map none) hh ?_ (.nil hu) (by simp) (by simpa using h1);rw[List.getElem?_toArray,zRA,List.getElem?_map,hc];rfl
    ·cases ha
   ·rename_i n hc;split at ha
    ·rename_i u de hn;split at ha
     ·rename_i hum;subst hum;cases ha
      refine .wcell (mv:=g.rv n) hh ?_ (h.va n _ hn) (fun e=>?_) (by simpa using h1)
      ·rw[List.getElem?_toArray,zRA,List.getElem?_map,hc];rfl
      ·exact h.ov o n cs _ ho hn (by rw[e];rfl)
     ·cases ha
    ·cases ha
   ·cases ha
  ·cases ha
 ·cases ha
 ·rename_i t m o off;split at ha
  ·rename_i cs ho;split at ha
   ·rename_i hc;obtain⟨rfl,hso⟩:=hc;have hob:=h.ob o cs ho;obtain⟨⟨ty,hh⟩,h1,h2⟩:=hob;unfold xNK at ha;split at ha
    ·rename_i x e;split at ha
     ·rename_i d0 hd0;have hr:=yYA h h2.1 hd0;obtain⟨eb,heb⟩:=h2.2.1;split at ha
      ·rename_i hm;cases ha;subst hm;obtain⟨p1,p2⟩:=yNJ X J d0 e;refine .rd (ty:=ty) (v:=x.den X J g) ?_ hso (h1 _ (by simp[dens])) (fun _=>⟨eb,by rw[p2,heb]⟩) (by show Rep _ _ _ _ _ (rdSD true _);unfold rdSD;rw[if_pos rfl,p1];exact hr);rw[hh];simp only[dens,SV.den,rdBD,p2,heb,D.asBool,Bool.true_and]
      ·rename_i hm;split at ha
       ·rename_i he;cases ha;have he:=DE.beq_eq he;subst he;have hm:m=false:=by simpa using hm
        subst hm;exact .rd hh hso (h1 _ (by simp[dens])) (fun h=>by cases h) hr
       ·cases ha
     ·cases ha
    ·cases ha
   ·cases ha
  ·cases ha
 ·cases ha
 ·rename_i gs off t f o;split at ha
  ·rename_i cs ho;have hob:=h.ob o cs ho;obtain⟨⟨ty,hh⟩,h1,_⟩:=hob;split at ha
   ·rename_i hgs;simp only[baZ,beq_iff_eq] at hgs;have hlen:(dens X J g cs).toArray.size=off+1:=by simp[yKA,hgs.2]
    have e0:(SV.w (.clo f) [.oa o 0]).den X J g = .func (.func f) #[] #[.pointer (some ⟨g.rb o,0,none⟩)]:=by simp[SV.den,WK.den,dens]
    rw[e0];split at ha
    ·rename_i hc;split at ha
     ·rename_i hso;cases ha
      obtain⟨e,i,hu,hi⟩:=zPB hso;refine .ccell (mv:=.slice none 0 0) hgs.1 hh ?_ hlen (yRA.nilv hu hi) (by simp[Value.ownBlock]) (by simpa using h1);rw[List.getElem?_toArray,zRA,List.getElem?_map,hc];rfl
     ·cases ha
    ·rename_i n hc;split at ha
     ·rename_i u de hn;split at ha
      ·rename_i hut;subst hut;cases ha
       refine .ccell (mv:=g.rv n) hgs.1 hh ?_ hlen (h.va n _ hn) (fun e=>h.ov o n cs _ ho hn e) (by simpa using h1);rw[List.getElem?_toArray,zRA,List.getElem?_map,hc];rfl
      ·cases ha
     ·cases ha
    ·cases ha
   ·cases ha
  ·cases ha
 ·cases ha
theorem qEE(h:Mem P X w0 J st g w):∀ {ks:List AK} {l:List SV} {ds:List DE},oks X J l->yKC P st ks l=some ds->ArgsOk P (okOf st g w) w ks (dens X J g l) (zDA X ds J)
 | [],[],ds,_,ha=>by simp only[yKC,Option.some.injEq] at ha;subst ha;exact .nil
 | [],_::_,_,_,ha=>by simp[yKC] at ha
 | _::_,[],_,_,ha=>by simp[yKC] at ha
 | k::ks,s::l,ds,hs,ha=>by
  simp only[yKC] at ha;split at ha
  ·rename_i d ds' h1 h2;cases ha;exact .cons (zIJ h hs.1 h1) (qEE h hs.2 h2)
  ·cases ha
end
end Go.Dx
namespace Go.Dx
open Go
section
variable {P:Program} {X:Nat->List D->D} {Pre:Nat->List D->Prop} {w0:Base} {J:List D} {st:St} {g:Gh} {w:World} {a:Act}
theorem zAB{α:Type}{n m:Nat}{l:List (Nat×α)}{x:α}(h:lk m (del n l)=some x):n≠m/\lk m l=some x:=by
 by_cases hn:n=m
 ·subst hn;rw[xAD] at h;cases h
 ·rw[yTB hn] at h;exact⟨hn,h⟩
theorem zUJ{st1:St}{n o:Nat}(h:st1.freshV n=true):({ st1 with objs:=del o st1.objs }:St).freshV n=true:=by
 simp only[St.freshV,baZ,List.all_eq_true,Bool.not_eq_true'] at h ⊢;refine⟨⟨h.1.1,fun p hp=>h.1.2 p ?_⟩,h.2⟩
 clear h
 generalize st1.objs=l at hp
 induction l with
 | nil=>simp[del_nil,xNE] at hp
 | cons q r ih =>
  obtain⟨m,x⟩:=q;rw[xNE] at hp;split at hp
  ·exact List.mem_cons_of_mem _ (ih hp)
  ·rcases List.mem_cons.1 hp with rfl|hp
   ·exact List.mem_cons_self
   ·exact List.mem_cons_of_mem _ (ih hp)
theorem Mem.changeO(h:Mem P X w0 J st g w){M:Nat->Prop}{w':World}(hf:Fr M w w')(hM:∀b,b<w.heap.size->M b->Actv st g b)(st1:St)
  (hlv:st1.lvl=st.lvl) (hlp:∀l∈st1.loops,l∈st.loops) {o:Nat} {cs cs':List SV} (ho:lk o st.objs=some cs)
  (hob:∀p c,lk p st1.objs=some c->lk p st.objs=some c/\(o≠p -> ¬M (g.rb p)))
  (hva:∀n vi,lk n st1.vars=some vi->vi.vt = .dead∨(lk n st.vars=some vi /\ ∀b,zFA vi.vt (g.rv n)=some b -> ¬M b))
  (n:Nat) (vi:VI) (v:Value) (hm:Nat×Nat) (hfresh:st1.freshV n=true)
  (hblk:∀b,zFA vi.vt v=some b->(w.heap.size<=b∨M b)/\b≠g.rb o/\b<w'.heap.size)
  (hvok:∀ok':Nat->Prop,(∀b,okOf st g w b->ok' b)->(∀b,w.heap.size<=b->b<w'.heap.size->zFA vi.vt v≠some b->ok' b)->qUA P ok' w' vi.vt v hm (vi.de.eval X J))
  (hnew:xTC X J (g.setV n v hm) w' o cs') :
  Mem P X w0 J { st1 with vars:=(n,vi)::st1.vars,objs:=upd o cs' st1.objs } (g.setV n v hm) w':=by
 have hactO:Actv st g (g.rb o):=.inl ⟨o,cs,ho,rfl⟩;have hltO:g.rb o<w.heap.size:=(h.ob o cs ho).lt;have hM2:=h.change hf hM { st1 with objs:=del o st1.objs } hlv hlp
  (fun p c hp=>by
   obtain⟨h1,h2⟩:=zAB hp;exact⟨(hob p c h2).1,(hob p c h2).2 h1⟩)
  hva n vi v hm (zUJ hfresh)
  (fun b hb=>⟨(hblk b hb).1,by
   rcases(hblk b hb).1 with h1|h1
   ·exact .inl (Nat.le_trans h.fr.size h1)
   ·by_cases hlt:b<w.heap.size
    ·exact h.lo b (hM b hlt h1)
    ·exact .inl (Nat.le_trans h.fr.size (Nat.le_of_not_lt hlt)),(hblk b hb).2.2⟩) hvok
 have hrb:∀p,(g.setV n v hm).rb p=g.rb p:=fun _=>rfl
 have hact:∀b,Actv { st1 with vars:=(n,vi)::st1.vars,objs:=upd o cs' st1.objs } (g.setV n v hm) b ->
   Actv { st1 with vars:=(n,vi)::st1.vars,objs:=del o st1.objs } (g.setV n v hm) b∨b=g.rb o:=by
  rintro b (⟨p,c,h1,h2⟩|h1)
  ·by_cases hp:o=p
   ·subst hp;exact .inr h2.symm
   ·rw[yJA hp] at h1;exact .inl (.inl ⟨p,c,by simp only;rw[yTB hp];exact h1,h2⟩)
  ·exact .inl (.inr h1)
 have hnb:∀b,okOf st g w b->b≠g.rb o:=fun b hb e=>hb.2.1 (e▸hactO)
 have hnone:lk n st1.vars=none:=qNA hfresh;have hsameV:∀m,m≠n->(g.setV n v hm).rv m=g.rv m/\(g.setV n v hm).rh m=g.rh m:=fun m hne=>by simp[Gh.setV,hne]
 have hact2:∀b,Actv { st1 with vars:=(n,vi)::st1.vars,objs:=del o st1.objs } (g.setV n v hm) b->Actv st g b∨zFA vi.vt v=some b:=by
  rintro b (⟨p,c,h1,h2⟩|⟨m,vj,h1,h2⟩)
  ·exact .inl (.inl ⟨p,c,(hob p c (zAB h1).2).1,h2⟩)
  ·by_cases hmn:n=m
   ·subst hmn;rw[zIA] at h1;cases h1
    right;simpa[Gh.setV] using h2
   ·rw[zHA hmn] at h1;rw[(hsameV m (Ne.symm hmn)).1] at h2;rcases hva m vj h1 with hd|⟨h3,_⟩
    ·rw[hd] at h2;simp[zFA] at h2
    ·exact .inl (.inr ⟨m,vj,h3,h2⟩)
 have hokN:∀b,okOf st g w b->okOf { st1 with vars:=(n,vi)::st1.vars,objs:=upd o cs' st1.objs } (g.setV n v hm) w' b/\w'.heap[b]? = w.heap[b]?:=fun b hb =>
  ⟨⟨Nat.lt_of_lt_of_le hb.1 hf.size,fun e=>by
   rcases hact b e with h1|h1
   ·rcases hact2 b h1 with h2|h2
    ·exact hb.2.1 h2
    ·rcases(hblk b h2).1 with h3|h3
     ·have:=hb.1;omega
     ·exact hb.2.1 (hM b hb.1 h3)
   ·exact hnb b hb h1,hb.2.2⟩,hf.block b hb.1 (fun e=>hb.2.1 (hM b hb.1 e))⟩
 refine⟨?_,?_,?_,hM2.vv,?_,?_,hM2.lp,hM2.fr,hM2.lv,hM2.ex,hM2.gl⟩
 ·intro m vj hj;by_cases hmn:n=m
  ·subst hmn;rw[zIA] at hj;cases hj
   have e1:(g.setV n v hm).rv n=v/\(g.setV n v hm).rh n=hm:=by simp[Gh.setV]
   rw[e1.1,e1.2];refine hvok _ (fun b hb=>(hokN b hb).1) (fun b hb1 hb2 hb3=>⟨hb2,fun e=>?_,h.newEx hb1⟩);rcases hact b e with h1|h1
   ·rcases hact2 b h1 with h2|h2
    ·have:=h.act_lt h2;omega
    ·exact hb3 h2
   ·omega
  ·rw[zHA hmn] at hj;rw[(hsameV m (Ne.symm hmn)).1,(hsameV m (Ne.symm hmn)).2];rcases hva m vj hj with hd|⟨h3,h4⟩
   ·rw[hd];trivial
   ·have hv:=h.va m vj h3;exact hv.mono (fun b hb=>(hokN b hb).1) (fun b hb=>(hokN b hb).2) (fun b hb=>hf.block b (hv.lt b hb) (h4 b hb))
 ·intro p c hp;by_cases hop:o=p
  ·subst hop;rw[zZA] at hp;cases hp
   exact hnew
  ·rw[yJA hop] at hp;exact hM2.ob p c (by simp only;rw[yTB hop];exact hp)
 ·intro p q c c' h1 h2 h3;by_cases hop:o=p
  ·by_cases hoq:o=q
   ·rw[<- hop,<- hoq]
   ·rw[yJA hoq] at h2;subst hop;exact h.oo o q cs c' ho (hob q c' h2).1 h3
  ·rw[yJA hop] at h1;by_cases hoq:o=q
   ·subst hoq;exact h.oo p o c cs (hob p c h1).1 ho h3
   ·rw[yJA hoq] at h2;exact h.oo p q c c' (hob p c h1).1 (hob q c' h2).1 h3
 ·intro p m c vj h1 h2 h3;by_cases hop:o=p
  ·subst hop;by_cases hmn:n=m
   ·subst hmn;rw[zIA] at h2;cases h2
    have:zFA vi.vt v=some (g.rb o):=by simpa[Gh.setV] using h3
    exact(hblk _ this).2.1 rfl
   ·rw[zHA hmn] at h2;rw[(hsameV m (Ne.symm hmn)).1] at h3;rcases hva m vj h2 with hd|⟨h4,_⟩
    ·rw[hd] at h3;simp[zFA] at h3
    ·exact h.ov o m cs vj ho h4 h3
  ·rw[yJA hop] at h1;exact hM2.ov p m c vj (by simp only;rw[yTB hop];exact h1) h2 h3
 ·intro b hb;rcases hact b hb with h1|h1
  ·exact hM2.lo b h1
  ·subst h1;exact h.lo _ hactO
end
end Go.Dx
namespace Go.Dx
open Go
section
variable {P:Program} {X:Nat->List D->D} {Pre:Nat->List D->Prop} {w0:Base} {J:List D} {st:St} {g:Gh} {w:World} {a:Act}
theorem xTF:∀(ks:List AK) (l:List SV) (b:Nat),Wr w ks (dens X J g l) b -> ∃p∈yXA ks l,wrA w p.1 (p.2.den X J g) b
 | [],_,_,h=>by simp[Wr] at h
 | _::_,[],_,h=>by simp[dens,Wr] at h
 | k::ks,s::l,b,h=>by
  simp only[dens,Wr] at h;rcases h with h|h
  ·cases k with
   | val t=>simp[wrA] at h
   | mcell t m=>simp[wrA] at h
   | own t=>exact⟨(.own t,s),by simp[yXA],h⟩
   | wcell t m=>exact⟨(.wcell t m,s),by simp[yXA],h⟩
   | rd t m=>exact⟨(.rd t m,s),by simp[yXA],h⟩
   | ccell gs off t=>exact⟨(.ccell gs off t,s),by simp[yXA],h⟩
  ·obtain⟨p,hp,hw⟩:=xTF ks l b h;exact⟨p,by cases k <;> simp[yXA,hp],hw⟩
theorem zUF:∀(ks:List AK) (l:List SV) (j:Nat) (t m:TypeId) (s:SV),ks[j]? = some (.wcell t m)->l[j]? = some s->(AK.wcell t m,s)∈yXA ks l
 | [],_,j,_,_,_,h,_=>by simp at h
 | _::_,[],j,_,_,_,_,h=>by simp at h
 | k::ks,x::l,0,t,m,s,h1,h2=>by
  simp only[List.getElem?_cons_zero,Option.some.injEq] at h1 h2;subst h1;subst h2;simp[yXA]
 | k::ks,x::l,j+1,t,m,s,h1,h2=>by
  simp only[List.getElem?_cons_succ] at h1 h2
  have:=zUF ks l j t m s h1 h2
  cases k <;> simp[yXA,this]
theorem zEG:∀(ks:List AK) (l:List SV) (j:Nat) (t:TypeId) (m:Bool) (s:SV),ks[j]? = some (.rd t m)->l[j]? = some s->(AK.rd t m,s)∈yXA ks l
 | [],_,j,_,_,_,h,_=>by simp at h
 | _::_,[],j,_,_,_,_,h=>by simp at h
 | k::ks,x::l,0,t,m,s,h1,h2=>by
  simp only[List.getElem?_cons_zero,Option.some.injEq] at h1 h2;subst h1;subst h2;simp[yXA]
 | k::ks,x::l,j+1,t,m,s,h1,h2=>by
  simp only[List.getElem?_cons_succ] at h1 h2
  have:=zEG ks l j t m s h1 h2
  cases k <;> simp[yXA,this]
theorem zDG:∀(ks:List AK) (l:List SV) (j:Nat) (gs:List Nat) (off:Nat) (t:TypeId) (s:SV),ks[j]? = some (.ccell gs off t)->l[j]? = some s->(AK.ccell gs off t,s)∈yXA ks l
 | [],_,j,_,_,_,_,h,_=>by simp at h
 | _::_,[],j,_,_,_,_,_,h=>by simp at h
 | k::ks,x::l,0,gs,off,t,s,h1,h2=>by
  simp only[List.getElem?_cons_zero,Option.some.injEq] at h1 h2;subst h1;subst h2;simp[yXA]
 | k::ks,x::l,j+1,gs,off,t,s,h1,h2=>by
  simp only[List.getElem?_cons_succ] at h1 h2
  have:=zDG ks l j gs off t s h1 h2
  cases k <;> simp[yXA,this]
theorem yRA.one1{ok:Nat->Prop}{t:TypeId}{v:Value}{d:D}(h:yRA P ok w t v d):v.oneCell'=true:=by
 obtain⟨e,i,n,xs,_,_,h3,_⟩:=h;rcases h3.2 with⟨rfl,_⟩|⟨g,cap,cur,rfl,_⟩ <;> rfl
theorem Rep.mapBlock{ok:Nat->Prop}{t:TypeId}{r:Nat}{d:D}(h:Rep P ok w t (.map (some r)) d):ok r:=by
 cases h with
 | map hu hk hok=>exact hok
theorem yOD:∀(ks:List AK) (vs:List Value) (b:Nat),noMc ks=true -> ¬Rd w ks vs b
 | [],_,_,_,h=>by simp[Rd] at h
 | _::_,[],_,_,h=>by simp[Rd] at h
 | k::ks,v::vs,b,hn,h=>by
  simp only[Rd] at h;cases k with
  | mcell t m=>simp[noMc] at hn
  | val t =>
   rcases h with h|h
   ·simp[rdA] at h
   ·exact yOD ks vs b (by simpa[noMc] using hn) h
  | own t =>
   rcases h with h|h
   ·simp[rdA] at h
   ·exact yOD ks vs b (by simpa[noMc] using hn) h
  | wcell t m =>
   rcases h with h|h
   ·simp[rdA] at h
   ·exact yOD ks vs b (by simpa[noMc] using hn) h
  | rd t m =>
   rcases h with h|h
   ·simp[rdA] at h
   ·exact yOD ks vs b (by simpa[noMc] using hn) h
  | ccell gs off t =>
   rcases h with h|h
   ·simp[rdA] at h
   ·exact yOD ks vs b (by simpa[noMc] using hn) h
theorem TagsAt.one{ok:Nat->Prop}{m:TypeId}{v:Value}{d:D}(h:TagsAt P ok w m v d):v.oneCell'=true /\ ∀k,zFA (.tags m) v=some k->v = .map (some k):=by
 cases h with
 | nil=>exact⟨rfl,fun k hk=>by simp[zFA] at hk⟩
 | map=>exact⟨rfl,fun k hk=>by simp[zFA] at hk;subst hk;rfl⟩
theorem qND(h:Mem P X w0 J st g w){m:TypeId}{s:SV}{d:DE}(hm:zKF P st m s=some d){r:Nat}(hr:s.den X J g = .map (some r)) :
  okOf st g w r ∨ ∃n u de,lk n st.vars=some ⟨.tags u,de⟩/\zFA (.tags u) (g.rv n)=some r:=by
 unfold zKF at hm;split at hm
 ·simp[SV.den,CV.den] at hr
 ·rename_i n;simp only[SV.den] at hr;split at hm
  ·rename_i u de hn;exact .inr ⟨n,u,de,hn,by rw[hr];rfl⟩
  ·rename_i u de hn;have hv:=h.va n _ hn;simp only[qUA] at hv;rw[hr] at hv;exact .inl hv.mapBlock
  ·cases hm
 ·rename_i n j;split at hm
  ·rename_i vt de hn;split at hm
   ·rename_i u hv;split at hm
    ·rename_i hc;have h1:=h.cell (vi:=⟨vt,de⟩) hn hv hc.1;rw[hr] at h1;exact .inl h1.mapBlock
    ·cases hm
   ·cases hm
  ·cases hm
 ·cases hm
theorem xPK(h:Mem P X w0 J st g w){t m:TypeId}{s:SV}{d:DE}(ha:argD P st (.mcell t m) s=some d){b:Nat}(hb:rdA w (.mcell t m) (s.den X J g) b) :
  okOf st g w b∨(∃o cs,lk o st.objs=some cs/\g.rb o=b) ∨ ∃n u de,lk n st.vars=some ⟨.tags u,de⟩/\zFA (.tags u) (g.rv n)=some b:=by
 cases s with
 | oa o off =>
  simp only[argD] at ha;split at ha
  ·rename_i cs ho;split at ha
   ·rename_i c hc;simp only[SV.den,rdA] at hb;rcases hb with hb|hb
    ·exact .inr (.inl ⟨o,cs,ho,hb.symm⟩)
    ·rw[(h.ob o cs ho).cell hc] at hb;rcases qND h ha (Option.some.inj hb) with h1|h1
     ·exact .inl h1
     ·exact .inr (.inr h1)
   ·cases ha
  ·cases ha
 | ra n off =>
  simp only[argD] at ha;split at ha
  ·rename_i u de hn;split at ha
   ·rename_i hc;cases ha;have hv:=h.va n _ hn;simp only[SV.den,rdA] at hb;rcases hb with hb|hb
    ·exact .inl (hb▸hv.2.1)
    ·have h1:=h.cell (vi:=⟨.row u,de⟩) hn rfl hc.1;have hsz:=hv.1.size;have hlt:off<(g.rv n).cells.toList.length:=by
      have:=(List.getElem?_eq_some_iff.1 hc.1).1
      rw[Array.length_toList,hsz.1];exact this
     have hcell:=hv.2.2 off _ (List.getElem?_eq_getElem hlt);have e1:(SV.xc n off).den X J g=(g.rv n).cells.toList[off]:=by
      simp only[SV.den];rw[Array.getElem_toList];simp at hlt;simp[Array.getD,hlt]
     rw[hcell,<- e1] at hb;have hb':=Option.some.inj hb;rw[hb'] at h1;exact .inl h1.mapBlock
   ·cases ha
  ·cases ha
 | _=>simp[argD] at ha
theorem xXG(h:Mem P X w0 J st g w):∀ {ks:List AK} {l:List SV} {ds:List DE},yKC P st ks l=some ds -> ∀b,Rd w ks (dens X J g l) b ->
  okOf st g w b∨(∃o cs,lk o st.objs=some cs/\g.rb o=b) ∨ ∃n u de,lk n st.vars=some ⟨.tags u,de⟩/\zFA (.tags u) (g.rv n)=some b
 | [],[],_,_,b,hb=>by simp[dens,Rd] at hb
 | [],_::_,_,ha,_,_=>by simp[yKC] at ha
 | _::_,[],_,ha,_,_=>by simp[yKC] at ha
 | k::ks,s::l,ds,ha,b,hb=>by
  simp only[yKC] at ha;split at ha
  ·rename_i d ds' h1 h2;simp only[dens,Rd] at hb;rcases hb with hb|hb
   ·cases k with
    | mcell t m=>exact xPK h h1 hb
    | val t=>simp[rdA] at hb
    | own t=>simp[rdA] at hb
    | wcell t m=>simp[rdA] at hb
    | rd t m=>simp[rdA] at hb
    | ccell gs off t=>simp[rdA] at hb
   ·exact xXG h h2 b hb
  ·cases ha
theorem yUJ(h:Mem P X w0 J st g w){q:Nat}{t m:TypeId}{s:SV}{d:DE}(ha:argD P st (.mcell t m) s=some d)(hq:∀k,s ≠ .oa q k){b:Nat}(hb:rdA w (.mcell t m) (s.den X J g) b) :
  okOf st g w b∨(∃o cs,lk o st.objs=some cs/\g.rb o=b/\o≠q) ∨ ∃n u de,lk n st.vars=some ⟨.tags u,de⟩/\zFA (.tags u) (g.rv n)=some b:=by
 cases s with
 | oa o off =>
  have hne:o≠q:=fun e=>hq off (by rw[e])
  simp only[argD] at ha;split at ha
  ·rename_i cs ho;split at ha
   ·rename_i c hc;simp only[SV.den,rdA] at hb;rcases hb with hb|hb
    ·exact .inr (.inl ⟨o,cs,ho,hb.symm,hne⟩)
    ·rw[(h.ob o cs ho).cell hc] at hb;rcases qND h ha (Option.some.inj hb) with h1|h1
     ·exact .inl h1
     ·exact .inr (.inr h1)
   ·cases ha
  ·cases ha
 | ra n off =>
  simp only[argD] at ha;split at ha
  ·rename_i u de hn;split at ha
   ·rename_i hc;cases ha;have hv:=h.va n _ hn;simp only[SV.den,rdA] at hb;rcases hb with hb|hb
    ·exact .inl (hb▸hv.2.1)
    ·have h1:=h.cell (vi:=⟨.row u,de⟩) hn rfl hc.1;have hsz:=hv.1.size;have hlt:off<(g.rv n).cells.toList.length:=by
      have:=(List.getElem?_eq_some_iff.1 hc.1).1
      rw[Array.length_toList,hsz.1];exact this
     have hcell:=hv.2.2 off _ (List.getElem?_eq_getElem hlt);have e1:(SV.xc n off).den X J g=(g.rv n).cells.toList[off]:=by
      simp only[SV.den];rw[Array.getElem_toList];simp at hlt;simp[Array.getD,hlt]
     rw[hcell,<- e1] at hb;have hb':=Option.some.inj hb;rw[hb'] at h1;exact .inl h1.mapBlock
   ·cases ha
  ·cases ha
 | _=>simp[argD] at ha
theorem xSF(h:Mem P X w0 J st g w){q:Nat}:∀ {ks:List AK} {l:List SV} {ds:List DE},yKC P st ks l=some ds->qPH q ks l=true -> ∀b,Rd w ks (dens X J g l) b ->
  okOf st g w b∨(∃o cs,lk o st.objs=some cs/\g.rb o=b/\o≠q) ∨ ∃n u de,lk n st.vars=some ⟨.tags u,de⟩/\zFA (.tags u) (g.rv n)=some b
 | [],[],_,_,_,b,hb=>by simp[dens,Rd] at hb
 | [],_::_,_,ha,_,_,_=>by simp[yKC] at ha
 | _::_,[],_,ha,_,_,_=>by simp[yKC] at ha
 | k::ks,s::l,ds,ha,hm,b,hb=>by
  simp only[yKC] at ha;split at ha
  ·rename_i d ds' h1 h2;have hm2:qPH q ks l=true:=by
    cases k <;> cases s <;> simp_all [qPH]
   simp only[dens,Rd] at hb;rcases hb with hb|hb
   ·cases k with
    | mcell t m=>exact yUJ h h1 (fun k e=>by subst e;simp[qPH] at hm) hb
    | val t=>simp[rdA] at hb
    | own t=>simp[rdA] at hb
    | wcell t m=>simp[rdA] at hb
    | rd t m=>simp[rdA] at hb
    | ccell gs off t=>simp[rdA] at hb
   ·exact xSF h h2 hm2 b hb
  ·cases ha
theorem xSA:∀ {ks:List AK} {l:List SV} {ds:List DE},yKC P st ks l=some ds -> ∀p∈yXA ks l,∃d,argD P st p.1 p.2=some d
 | [],[],_,_,p,hp=>by simp[yXA] at hp
 | [],_::_,_,ha,_,_=>by simp[yKC] at ha
 | _::_,[],_,ha,_,_=>by simp[yKC] at ha
 | k::ks,s::l,ds,ha,p,hp=>by
  simp only[yKC] at ha;split at ha
  ·rename_i d ds' h1 h2;cases k with
   | val t=>exact xSA h2 p (by simpa[yXA] using hp)
   | mcell t m=>exact xSA h2 p (by simpa[yXA] using hp)
   | own t =>
    simp only[yXA,List.mem_cons] at hp;rcases hp with rfl|hp
    ·exact⟨d,h1⟩
    ·exact xSA h2 p hp
   | wcell t m =>
    simp only[yXA,List.mem_cons] at hp;rcases hp with rfl|hp
    ·exact⟨d,h1⟩
    ·exact xSA h2 p hp
   | rd t m =>
    simp only[yXA,List.mem_cons] at hp;rcases hp with rfl|hp
    ·exact⟨d,h1⟩
    ·exact xSA h2 p hp
   | ccell gs off t =>
    simp only[yXA,List.mem_cons] at hp;rcases hp with rfl|hp
    ·exact⟨d,h1⟩
    ·exact xSA h2 p hp
  ·cases ha
theorem qYA(k:Nat)(ds:List DE):(DE.f (.ext k) ds).eval X J=X k (zDA X ds J):=by simp[DE.eval,Fn.eval]
theorem xQE{n:Nat}{vi:VI}(hn:lk n st.vars=some vi):yBJ st n = { st with vars:=upd n ⟨.dead,vi.de⟩ st.vars }:=by simp[yBJ,hn]
theorem Mem.addObl(h:Mem P X w0 J st g w)(o:List Ob):Mem P X w0 J { st with obl:=o } g w:=⟨h.va,h.ob,h.oo,h.vv,h.ov,h.lo,h.lp,h.fr,h.lv,h.ex,h.gl⟩
theorem Drops.of_eq{st st1:St}{M M':Nat->Prop}(h:Drops st st1 M g)(hM:∀b,M' b->M b):Drops st st1 M' g :=
 ⟨h.env,h.lvl,h.nt,h.lps,fun o cs ho=>⟨(h.objs o cs ho).1,fun e=>(h.objs o cs ho).2 (hM _ e)⟩,fun n vi hn=>by
  rcases h.vars n vi hn with h1|⟨h1,h2⟩
  ·exact .inl h1
  ·exact .inr ⟨h1,fun b hb e=>h2 b hb (hM b e)⟩,h.keysV,h.keysO⟩
theorem xQH{C:Cfg}{f:FuncId}{c:Ctr}(hc:xDA C.P X Pre f c)(h0:Mem C.P X w0 J st g w)(he0:Env X J st g a){args:List SV}{n:Nat}{s:SV}{st':St}(hargs:oks X J args)
  (hcall:callS C c args n st=some (s,st')) (hob:zCA X Pre st'.obl J) :
  (∃fn b,C.P.funcs[f]? = some fn/\fn.body=some b) /\
  Calls C.P f (dens X J g args).toArray w fun e w'=>∃g',e = .returned (s.den X J g')/\Ext st g st' g'/\Mem C.P X w0 J st' g' w'/\Env X J st' g' a/\s.ok X J:=by
 refine⟨hc.1,?_⟩;unfold callS at hcall;obtain⟨hM,_⟩:=Mem.settles (xRD c.args args++yDF st c.args args) h0;have hE:=he0.settles (xRD c.args args++yDF st c.args args);have hX:=Ext.settles st g (xRD c.args args++yDF st c.args args);generalize Dx.settles st (xRD c.args args++yDF st c.args args)=st0 at hcall hM hE hX;simp only at hcall;split at hcall
 ·cases hcall
 rename_i ds hds;have hst1:∃ob,(if c.pre=true then { st0 with obl:=.pre c.fn ds::st0.obl } else st0:St) = { st0 with obl:=ob }/\(c.pre=true->Ob.pre c.fn ds∈ob):=by
  by_cases hp:c.pre=true
  ·exact⟨.pre c.fn ds::st0.obl,by rw[if_pos hp],fun _=>by simp⟩
  ·exact⟨st0.obl,by rw[if_neg hp],fun e=>absurd e hp⟩
 obtain⟨ob,hst1,hpre⟩:=hst1;rw[hst1] at hcall;have hA:=qEE hM hargs hds;have hM1:=hM.addObl ob;have hE1:Env X J { st0 with obl:=ob } g a:=hE.of_env rfl rfl;have hX1:Ext st g { st0 with obl:=ob } g:=hX.trans (Ext.keys (st:=st0) (st':={ st0 with obl:=ob }) (fun m vi hm=>⟨vi,hm⟩) (fun o cs ho=>⟨cs,ho⟩));have hpreOk:(∀o∈ob,o.holds X Pre J)->c.pre=true->Pre c.fn (zDA X ds J):=fun ho hp=>by
  have:=ho _ (hpre hp)
  simpa[Ob.holds] using this
 split at hcall
 ·skip
  rename_i hown;have hW:∀b,¬Wr w c.args (dens X J g args) b:=fun b hb=>by
   obtain⟨p,hp,_⟩:=xTF c.args args b hb;rw[hown] at hp;cases hp
  have hfr0:∀w',Fr (Wr w c.args (dens X J g args)) w w'->Fr (fun _=>False) w w':=fun w' hf=>hf.mono (fun b _ hb=>hW b hb)
  have main:=fun(hp:c.pre=true->Pre c.fn (zDA X ds J))=>hc.2 (okOf st0 g w) w (dens X J g args) (zDA X ds J) hA (fun b hb=>⟨hb.1,hW b⟩) (fun b _=>hW b) hp (hM.glW fun b hb=>absurd hb (hW b))
  split at hcall
  ·rename_i t hres;split at hcall
   ·rename_i td hu;split at hcall
    ·rename_i hsc;cases hcall;refine(main (hpreOk (zKA.1 hob))).mono fun e w' hh=>?_
     obtain⟨v,rfl,hf,hr⟩:=hh;simp only[yOB,hres] at hr;have hrep:=hr (fun b=>okOf st0 g w b∨w.heap.size<=b) (fun b hb=>.inl hb) (fun b hb _=>.inr hb);rw[<- qYA (X:=X) (J:=J) c.fn ds] at hrep;have hv:(zCD C.P n t (DE.f (.ext c.fn) ds)).den X J g=v/\(zCD C.P n t (DE.f (.ext c.fn) ds)).ok X J:=by
      have:=zDE (X:=X) (J:=J) (g:=g.setV n v (0,0)) (P:=C.P) n (t:=t) (de:=DE.f (.ext c.fn) ds) hrep (by simp[Gh.setV])
      refine⟨?_,this.2⟩;have e2:(zCD C.P n t (DE.f (.ext c.fn) ds)).den X J (g.setV n v (0,0))=(zCD C.P n t (DE.f (.ext c.fn) ds)).den X J g:=by
       unfold zCD;rw[hu];cases td <;> simp[qUB] at hsc
       ·rfl
       ·rfl
       ·rename_i fk;cases fk <;> simp at hsc;rfl
       ·rfl
      rw[<- e2];exact this.1
     exact⟨g,by rw[hv.1],hX1,(hM1.frame (hfr0 w' hf)),hE1,hv.2⟩
    ·split at hcall
     ·rename_i st2 hn;cases hcall;refine(main (hpreOk (by rw[xGA hn] at hob;exact zKA.1 hob))).mono fun e w' hh=>?_
      obtain⟨v,rfl,hf,hr⟩:=hh;simp only[yOB,hres] at hr;obtain⟨k1,k2,k3,k4,_⟩:=xJC hM1 hE1 (hfr0 w' hf) hn (v:=v) (fun ok' h1 h2=>by rw[qYA];exact hr ok' h1 h2);exact⟨_,by rw[k4],hX1.trans k3,k1,k2,trivial⟩
     ·cases hcall
   ·cases hcall
  ·rename_i t hres;split at hcall
   ·rename_i st2 hn;cases hcall;refine(main (hpreOk (by rw[xGA hn] at hob;exact zKA.1 hob))).mono fun e w' hh=>?_
    obtain⟨v,rfl,hf,hr⟩:=hh;simp only[yOB,hres] at hr;obtain⟨k1,k2,k3,k4,_⟩:=qOB hM1 hE1 (hfr0 w' hf) (fun b _ e=>e.elim) (Drops.same _ g) hn (v:=v) (fun b hb=>⟨by
      rcases(hr.1 b hb).1 with h1|h1
      ·exact .inl h1
      ·exact absurd h1 (hW b),(hr.1 b hb).2⟩) (fun ok' h1 h2=>by
      simp only[qUA];rw[qYA];exact hr.2 ok' h1 h2)
    exact⟨_,by rw[k4],hX1.trans k3,k1,k2,trivial⟩
   ·cases hcall
  ·cases hcall
  ·rename_i hres;cases hcall;refine(main (hpreOk (zKA.1 hob))).mono fun e w' hh=>?_
   obtain⟨v,rfl,hf,hr⟩:=hh;simp only[yOB,hres] at hr;subst hr;exact⟨g,by simp[SV.den,dens],hX1,(hM1.frame (hfr0 w' hf)),hE1,trivial⟩
  ·cases hcall
  ·rename_i t k hres;split at hcall
   ·rename_i kd hu;cases hcall;refine(main (hpreOk (zKA.1 hob))).mono fun e w' hh=>?_
    obtain⟨v,rfl,hf,hr⟩:=hh;simp only[yOB,hres] at hr;obtain⟨kd',hu',rfl,hwf⟩:=hr;rw[hu] at hu';cases hu'
    exact⟨g,by simp[SV.den,DE.eval,D.asInt],hX1,(hM1.frame (hfr0 w' hf)),hE1,⟨k,rfl,hwf⟩⟩
   ·cases hcall
  ·rename_i t hres;split at hcall
   ·rename_i st2 hn;cases hcall;refine(main (hpreOk (by rw[xGA hn] at hob;exact zKA.1 hob))).mono fun e w' hh=>?_
    obtain⟨v,rfl,hf,hr⟩:=hh;simp only[yOB,hres] at hr;obtain⟨v',rfl,hr⟩:=hr;obtain⟨k1,k2,k3,k4,_⟩:=xJC hM1 hE1 (hfr0 w' hf) hn (v:=v') (fun ok' h1 h2=>by rw[qYA];exact hr ok' h1 h2);exact⟨_,by simp only[SV.den,dens] at k4 ⊢;rw[k4];rfl,hX1.trans k3,k1,k2,trivial,⟨true,rfl⟩,trivial⟩
   ·cases hcall
  ·rename_i t hres;split at hcall
   ·rename_i st2 hn;cases hcall;refine(main (hpreOk (by rw[xGA hn] at hob;exact zKA.1 hob))).mono fun e w' hh=>?_
    obtain⟨v,rfl,hf,hr⟩:=hh;simp only[yOB,hres] at hr;obtain⟨v',rfl,hr⟩:=hr;obtain⟨k1,k2,k3,k4,_⟩:=qOB hM1 hE1 (hfr0 w' hf) (fun b _ e=>e.elim) (Drops.same _ g) hn (v:=v') (fun b hb=>⟨by
      rcases(hr.1 b hb).1 with h1|h1
      ·exact .inl h1
      ·exact absurd h1 (hW b),(hr.1 b hb).2⟩) (fun ok' h1 h2=>by
      simp only[qUA];rw[qYA];exact hr.2 ok' h1 h2)
    exact⟨_,by simp only[SV.den,dens] at k4 ⊢;rw[k4];rfl,hX1.trans k3,k1,k2,trivial,⟨true,rfl⟩,trivial⟩
   ·cases hcall
  ·cases hcall
  ·rename_i t hres;split at hcall
   ·rename_i st2 hn;cases hcall;refine(main (hpreOk (by rw[xGA hn] at hob;exact zKA.1 hob))).mono fun e w' hh=>?_
    obtain⟨v,rfl,hf,hr⟩:=hh;simp only[yOB,hres] at hr;obtain⟨v',b,rfl,hb,hr⟩:=hr;obtain⟨k1,k2,k3,k4,_⟩:=xJC hM1 hE1 (hfr0 w' hf) hn (v:=v') (fun ok' h1 h2=>by
     show Rep C.P ok' w' t v' (((DE.f (.ext c.fn) ds).eval X J).cells.getD 0 .nil);rw[qYA];exact hr ok' h1 h2)
    have hbe:(DE.f (.get 1) [.f (.ext c.fn) ds]).eval X J = .bool b:=by
     show ((DE.f (.ext c.fn) ds).eval X J).cells.getD 1 .nil=_;rw[qYA];exact hb
    exact⟨_,by simp only[SV.den,dens] at k4 ⊢;rw[k4,hbe];rfl,hX1.trans k3,k1,k2,trivial,⟨b,hbe⟩,trivial⟩
   ·cases hcall
 ·skip
  rename_i t v hown;have hargd:∃d,argD C.P st0 (.own t) v=some d:=xSA hds (.own t,v) (by rw[hown];simp);have hW:∀b,Wr w c.args (dens X J g args) b->(v.den X J g).ownBlock=some b:=fun b hb=>by
   obtain⟨p,hp,hw⟩:=xTF c.args args b hb;rw[hown] at hp;simp only[List.mem_singleton] at hp;subst hp;exact hw
  have hkeep:(∀b,(v.den X J g).ownBlock≠some b) ∨ ∃m u de,v = .x m/\lk m st0.vars=some ⟨.own u,de⟩:=by
   obtain⟨d,hd⟩:=hargd;cases v with
   | c cv=>exact .inl (fun b hb=>by cases cv <;> simp[SV.den,CV.den,Value.ownBlock] at hb)
   | x m =>
    simp only[argD] at hd;split at hd
    ·rename_i u de hn;exact .inr ⟨m,u,de,rfl,hn⟩
    ·cases hd
   | _=>simp[argD] at hd
  have hactv:∀b,(v.den X J g).ownBlock=some b->Actv st0 g b:=fun b hb=>by
   rcases hkeep with h1|⟨m,u,de,rfl,hm⟩
   ·exact absurd hb (h1 b)
   ·exact .inr ⟨m,_,hm,hb⟩
  have hRd:∀b,Rd w c.args (dens X J g args) b -> ¬Wr w c.args (dens X J g args) b:=fun b hb hw=>by
   have hbk:=hW b hw;rcases hkeep with h1|⟨m,u,de,rfl,hm⟩
   ·exact h1 b hbk
   ·rcases xXG hM hds b hb with h1|⟨o,cs,ho,h1⟩|⟨k,u',de',hk,h1⟩
    ·exact h1.2.1 (.inr ⟨m,_,hm,hbk⟩)
    ·subst h1;exact hM.ov o m cs _ ho hm hbk
    ·have:=hM.vv m k _ _ b hm hk hbk h1
     subst this;rw[hm] at hk;cases hk
  have main:=fun(hp:c.pre=true->Pre c.fn (zDA X ds J))=>hc.2 (okOf st0 g w) w (dens X J g args) (zDA X ds J) hA (fun b hb=>⟨hb.1,fun hw=>hb.2.1 (hactv b (hW b hw))⟩) hRd hp (hM.glW fun b hb=>hactv b (hW b hb))
  split at hcall
  ·rename_i t' hres;split at hcall
   ·rename_i st3 hn;cases hcall;have hdrop:Drops { st0 with obl:=ob } (zVF { st0 with obl:=ob } v) (Wr w c.args (dens X J g args)) g/\(zVF { st0 with obl:=ob } v).obl=ob:=by
     rcases hkeep with h1|⟨m,u,de,rfl,hm⟩
     ·have hno:∀b,¬Wr w c.args (dens X J g args) b:=fun b hb=>h1 b (hW b hb)
      obtain⟨d,hd⟩:=hargd;cases v with
      | x m =>
       simp only[argD] at hd;split at hd
       ·rename_i u de hn';simp only[zVF];rw[xQE (st:={ st0 with obl:=ob }) hn'];exact⟨(Drops.kill hM1 hn' de ob).of_eq (fun b hb=>absurd hb (hno b)),rfl⟩
       ·cases hd
      | c cv=>exact⟨(Drops.same { st0 with obl:=ob } g).of_eq (fun b hb=>absurd hb (hno b)),rfl⟩
      | _=>simp[argD] at hd
     ·simp only[zVF];rw[xQE (st:={ st0 with obl:=ob }) hm];exact⟨(Drops.kill hM1 hm de ob).of_eq (fun b hb=>hW b hb),rfl⟩
    have hobl:=xGA hn;rw[hdrop.2] at hobl;refine(main (hpreOk (by rw[hobl] at hob;exact zKA.1 hob))).mono fun e w' hh=>?_
    obtain⟨v',rfl,hf,hr⟩:=hh;simp only[yOB,hres] at hr;obtain⟨k1,k2,k3,k4,_⟩:=qOB hM1 hE1 hf (fun b _ hb=>hactv b (hW b hb)) hdrop.1 hn (v:=v') (fun b hb=>hr.1 b hb) (fun ok' h1 h2=>by
      simp only[qUA];rw[qYA];exact hr.2 ok' h1 h2)
    exact⟨_,by rw[k4],hX1.trans k3,k1,k2,trivial⟩
   ·cases hcall
  ·cases hcall
 ·skip
  rename_i t m o off hown;split at hcall
  ·rename_i cs ho;have hargd:∃d,argD C.P st0 (.wcell t m) (.oa o off)=some d:=xSA hds (.wcell t m,.oa o off) (by rw[hown];simp);have hob0:=hM.ob o cs ho;split at hcall
   ·rename_i m' hres;split at hcall
    ·rename_i hmm;obtain⟨rfl,hmc⟩:=hmm;split at hcall
     ·rename_i st3 hn;cases hcall;have hcell:∃sv,cs[off]? = some sv/\((sv = .c .nilm) ∨ ∃k u de,sv = .x k/\lk k st0.vars=some ⟨.tags u,de⟩):=by
       obtain⟨d,hd⟩:=hargd;simp only[argD,ho] at hd;split at hd
       ·rename_i hc';exact⟨_,hc',.inl rfl⟩
       ·rename_i k hc';split at hd
        ·rename_i u de hk;exact⟨_,hc',.inr ⟨k,u,de,rfl,hk⟩⟩
        ·cases hd
       ·cases hd
      obtain⟨sv,hsv,hkeep⟩:=hcell;have hlt:off<cs.length:=(List.getElem?_eq_some_iff.1 hsv).1;have hW:∀b,Wr w c.args (dens X J g args) b->b=g.rb o ∨ ∃k u de,sv = .x k/\lk k st0.vars=some ⟨.tags u,de⟩/\zFA (.tags u) (g.rv k)=some b:=fun b hb=>by
       obtain⟨p,hp,hw⟩:=xTF c.args args b hb;rw[hown] at hp;simp only[List.mem_singleton] at hp;subst hp;simp only[SV.den,wrA] at hw;rcases hw with hw|hw
       ·exact .inl hw
       ·rw[hob0.cell hsv] at hw;have hw':=Option.some.inj hw;rcases hkeep with rfl|⟨k,u,de,rfl,hk⟩
        ·simp[SV.den,CV.den] at hw'
        ·simp only[SV.den] at hw';exact .inr ⟨k,u,de,rfl,hk,by rw[hw'];rfl⟩
      have hactv:∀b,Wr w c.args (dens X J g args) b->Actv st0 g b:=fun b hb=>by
       rcases hW b hb with rfl|⟨k,u,de,_,hk,hb'⟩
       ·exact .inl ⟨o,cs,ho,rfl⟩
       ·exact .inr ⟨k,_,hk,hb'⟩
      have hRd:∀b,Rd w c.args (dens X J g args) b -> ¬Wr w c.args (dens X J g args) b:=fun b hb=>absurd hb (yOD c.args _ b hmc)
      have main:=fun(hp:c.pre=true->Pre c.fn (zDA X ds J))=>hc.2 (okOf st0 g w) w (dens X J g args) (zDA X ds J) hA (fun b hb=>⟨hb.1,fun hw=>hb.2.1 (hactv b hw)⟩) hRd hp (hM.glW hactv)
      generalize hst2e:zGC { st0 with obl:=ob } cs[off]? = st2 at hn;have hst2:st2.obl=ob/\st2.env=st0.env/\st2.lvl=st0.lvl/\st2.nt=st0.nt/\st2.loops=st0.loops/\st2.objs=st0.objs/\(∀m vi,lk m st0.vars=some vi -> ∃vi',lk m st2.vars=some vi') /\
        (∀m vi,lk m st2.vars=some vi->vi.vt = .dead∨(lk m st0.vars=some vi /\ ∀b,zFA vi.vt (g.rv m)=some b -> ¬Wr w c.args (dens X J g args) b)):=by
       rw[hsv] at hst2e;rcases hkeep with rfl|⟨k,u,de,rfl,hk⟩
       ·simp only[zGC] at hst2e;subst hst2e;refine⟨rfl,rfl,rfl,rfl,rfl,rfl,fun m vi hm=>⟨vi,hm⟩,fun m vi hm=>.inr ⟨hm,fun b hb hw=>?_⟩⟩;rcases hW b hw with rfl|⟨_,_,_,h1,_⟩
        ·exact hM.ov o m cs vi ho hm hb
        ·cases h1
       ·simp only[zGC] at hst2e;rw[xQE (st:={ st0 with obl:=ob }) hk] at hst2e;subst hst2e;refine⟨rfl,rfl,rfl,rfl,rfl,rfl,fun m vi hm=>qOA m vi hm,fun m vi hm=>?_⟩;by_cases hkm:k=m
        ·subst hkm;rw[zZA] at hm;cases hm;exact .inl rfl
        ·rw[yJA hkm] at hm;refine .inr ⟨hm,fun b hb hw=>?_⟩;rcases hW b hw with rfl|⟨k',u',de',h1,h2,h3⟩
         ·exact hM.ov o m cs vi ho hm hb
         ·cases h1;exact hkm (hM.vv k m _ vi b h2 hm h3 hb)
      have hn':newV st2 ⟨.tags m,.f (.ext c.fn) ds⟩ n=some st3:=hn;have hobl:=xGA hn';rw[hst2.1] at hobl;refine(main (hpreOk (by
       have hob':zCA X Pre st3.obl J:=hob;rw[hobl] at hob';exact zKA.1 hob'))).mono fun e w' hh=>?_
      obtain⟨v',rfl,hf,hr⟩:=hh;simp only[yOB,hres] at hr;obtain⟨rfl,b,off',ty,cs0,mv,⟨t2,j,hj1,hj2⟩,hb1,hb2,hmv,htags⟩:=hr;have hbo:b=g.rb o/\off'=off:=by
       rw[zRA,List.getElem?_map] at hj2;cases hl:args[j]? with
       | none=>rw[hl] at hj2;cases hj2
       | some s2 =>
        rw[hl] at hj2;have hin:=zUF c.args args j t2 m s2 hj1 hl;rw[hown] at hin;simp only[List.mem_singleton,Prod.mk.injEq] at hin;rw[hin.2] at hj2;simp only[Option.map_some,SV.den,Option.some.injEq,Value.pointer.injEq,Addr.mk.injEq] at hj2;exact⟨hj2.1.symm,hj2.2.1.symm⟩
      obtain⟨rfl,rfl⟩:=hbo;obtain⟨⟨ty',hh'⟩,ho1,ho2⟩:=hob0;rw[hh'] at hb1;simp only[Option.some.injEq,Obj.cells.injEq,and_true] at hb1;obtain⟨rfl,rfl⟩:=hb1;unfold newV at hn';split at hn'
      ·rename_i hfresh;cases hn';have hmen:mens n cs=false:=by
        have:=hfresh
        simp only[St.freshV,baZ,List.all_eq_true,Bool.not_eq_true'] at this
        have:=this.1.2 (o,cs) (by rw[hst2.2.2.2.2.2.1];exact zBB ho)
        simpa using this
       have hone:=(htags (fun _=>True) (fun _ _=>trivial) (fun _ _ _ _=>trivial)).one;have hmv1:=hone.1;have hmvb:=hone.2;have hnew:xTC X J (g.setV n mv (0,0)) w' o (cs.set off' (.x n)):=by
        have e1:dens X J (g.setV n mv (0,0)) (cs.set off' (.x n))=(dens X J g cs).set off' mv:=by
         rw[zRA,List.map_set,<- zRA,xUB X J g n mv (0,0) cs hmen];simp[SV.den,Gh.setV]
        refine⟨⟨ty',?_⟩,?_,?_⟩
        ·rw[e1]
         have:(g.setV n mv (0,0)).rb o=g.rb o:=rfl
         rw[this,hb2]
         simp
        ·rw[e1];intro u hu;rcases List.mem_or_eq_of_mem_set hu with hu|rfl
         ·exact ho1 u hu
         ·exact hmv1
        ·rw[yHA];intro u hu;rcases List.mem_or_eq_of_mem_set hu with hu|rfl
         ·exact yHA.1 ho2 u hu
         ·trivial
       have hfin:=hM1.changeO hf (fun b _ hb=>hactv b hb) st2 hst2.2.2.1 (fun l hl=>hst2.2.2.2.2.1▸hl) (o:=o) (cs:=cs) (cs':=cs.set off' (.x n)) ho (fun p c' hp=>by
         rw[hst2.2.2.2.2.2.1] at hp;refine⟨hp,fun hne hw=>?_⟩;rcases hW _ hw with h1|⟨k',u',de',_,h2,h3⟩
         ·exact hne (hM.oo o p cs c' ho hp h1.symm)
         ·exact hM.ov p k' c' _ hp h2 h3) hst2.2.2.2.2.2.2.2 n ⟨.tags m,.f (.ext c.fn) ds⟩ mv (0,0) hfresh (fun b hb=>by
         have:=hmv b (hmvb b hb)
         exact⟨this.1,this.2.2,this.2.1⟩) (fun ok' h1 h2=>by
         simp only[qUA];rw[qYA]
         exact htags ok' h1 (fun k hk1 hk2 hk3=>h2 k hk1 hk2 (fun e=>hk3 (hmvb k e)))) hnew
       have hE2:Env X J st2 g a:=hE.of_env hst2.2.1 hst2.2.2.2.1;have hnoneN:lk n st0.vars=none:=by
        cases hx:lk n st0.vars with
        | none=>rfl
        | some vi =>
         obtain⟨vi',h1⟩:=hst2.2.2.2.2.2.2.1 n vi hx;rw[qNA hfresh] at h1;cases h1
       refine⟨_,by simp[SV.den,dens],hX.trans (Ext.setV hnoneN mv (0,0) (fun k vi hk=>?_) (fun p c' hp=>?_)),hfin,(hE2.setV hfresh mv (0,0)).of_env rfl rfl,trivial⟩
       ·obtain⟨vi',h1⟩:=hst2.2.2.2.2.2.2.1 k vi hk;exact xVB k vi' h1
       ·exact qOA p c' (by rw[hst2.2.2.2.2.2.1];exact hp)
      ·cases hn'
     ·cases hcall
    ·cases hcall
   ·cases hcall
  ·cases hcall
 ·skip
  rename_i gs off t f o hown;split at hcall
  ·rename_i cs ho;have hargd:∃d,argD C.P st0 (.ccell gs off t) (.w (.clo f) [.oa o 0])=some d:=xSA hds (.ccell gs off t,.w (.clo f) [.oa o 0]) (by rw[hown];simp);have hob0:=hM.ob o cs ho;split at hcall
   ·rename_i t' hres;split at hcall
    ·rename_i hmm;obtain⟨rfl,hmc⟩:=hmm;split at hcall
     ·rename_i st3 hn;cases hcall;have hcell:∃sv,cs[off]? = some sv/\((sv = .c .nils) ∨ ∃k u de,sv = .x k/\lk k st0.vars=some ⟨.own u,de⟩):=by
       obtain⟨d,hd⟩:=hargd;simp only[argD,ho] at hd;split at hd
       ·split at hd
        ·rename_i hc';exact⟨_,hc',.inl rfl⟩
        ·rename_i k hc';split at hd
         ·rename_i u de hk;exact⟨_,hc',.inr ⟨k,u,de,rfl,hk⟩⟩
         ·cases hd
        ·cases hd
       ·cases hd
      obtain⟨sv,hsv,hkeep⟩:=hcell;have hlt:off<cs.length:=(List.getElem?_eq_some_iff.1 hsv).1;have hW:∀b,Wr w c.args (dens X J g args) b->b=g.rb o ∨ ∃k u de,sv = .x k/\lk k st0.vars=some ⟨.own u,de⟩/\zFA (.own u) (g.rv k)=some b:=fun b hb=>by
       obtain⟨p,hp,hw⟩:=xTF c.args args b hb;rw[hown] at hp;simp only[List.mem_singleton] at hp;subst hp;simp only[SV.den,WK.den,dens,wrA] at hw;obtain⟨a',ha',hw⟩:=hw;simp only[List.getElem?_toArray,List.getElem?_cons_zero,Option.some.injEq,Value.pointer.injEq] at ha';subst ha';rcases hw with hw|⟨v,hv,hw⟩
       ·exact .inl hw
       ·rw[hob0.cell hsv] at hv;have hv':=Option.some.inj hv;subst hv';rcases hkeep with rfl|⟨k,u,de,rfl,hk⟩
        ·simp[SV.den,CV.den,Value.ownBlock] at hw
        ·simp only[SV.den] at hw;exact .inr ⟨k,u,de,rfl,hk,hw⟩
      have hactv:∀b,Wr w c.args (dens X J g args) b->Actv st0 g b:=fun b hb=>by
       rcases hW b hb with rfl|⟨k,u,de,_,hk,hb'⟩
       ·exact .inl ⟨o,cs,ho,rfl⟩
       ·exact .inr ⟨k,_,hk,hb'⟩
      have hRd:∀b,Rd w c.args (dens X J g args) b -> ¬Wr w c.args (dens X J g args) b:=fun b hb hw=>by
       rcases xSF hM hds hmc b hb with h1|⟨p,c',hp,h1,hne⟩|⟨k,u',de',hk,h1⟩
       ·exact h1.2.1 (hactv b hw)
       ·subst h1;rcases hW _ hw with h2|⟨k,u,de,_,hk,h3⟩
        ·exact hne (hM.oo p o c' cs hp ho h2)
        ·exact hM.ov p k c' _ hp hk h3
       ·rcases hW b hw with h2|⟨k2,u,de,_,hk2,h3⟩
        ·subst h2;exact hM.ov o k cs _ ho hk h1
        ·have:=hM.vv k k2 _ _ b hk hk2 h1 h3
         subst this;rw[hk] at hk2;cases hk2
      have main:=fun(hp:c.pre=true->Pre c.fn (zDA X ds J))=>hc.2 (okOf st0 g w) w (dens X J g args) (zDA X ds J) hA (fun b hb=>⟨hb.1,fun hw=>hb.2.1 (hactv b hw)⟩) hRd hp (hM.glW hactv)
      generalize hst2e:zGC { st0 with obl:=ob } cs[off]? = st2 at hn;have hst2:st2.obl=ob/\st2.env=st0.env/\st2.lvl=st0.lvl/\st2.nt=st0.nt/\st2.loops=st0.loops/\st2.objs=st0.objs/\(∀m vi,lk m st0.vars=some vi -> ∃vi',lk m st2.vars=some vi') /\
        (∀m vi,lk m st2.vars=some vi->vi.vt = .dead∨(lk m st0.vars=some vi /\ ∀b,zFA vi.vt (g.rv m)=some b -> ¬Wr w c.args (dens X J g args) b)):=by
       rw[hsv] at hst2e;rcases hkeep with rfl|⟨k,u,de,rfl,hk⟩
       ·simp only[zGC] at hst2e;subst hst2e;refine⟨rfl,rfl,rfl,rfl,rfl,rfl,fun m vi hm=>⟨vi,hm⟩,fun m vi hm=>.inr ⟨hm,fun b hb hw=>?_⟩⟩;rcases hW b hw with rfl|⟨_,_,_,h1,_⟩
        ·exact hM.ov o m cs vi ho hm hb
        ·cases h1
       ·simp only[zGC] at hst2e;rw[xQE (st:={ st0 with obl:=ob }) hk] at hst2e;subst hst2e;refine⟨rfl,rfl,rfl,rfl,rfl,rfl,fun m vi hm=>qOA m vi hm,fun m vi hm=>?_⟩;by_cases hkm:k=m
        ·subst hkm;rw[zZA] at hm;cases hm;exact .inl rfl
        ·rw[yJA hkm] at hm;refine .inr ⟨hm,fun b hb hw=>?_⟩;rcases hW b hw with rfl|⟨k',u',de',h1,h2,h3⟩
         ·exact hM.ov o m cs vi ho hm hb
         ·cases h1;exact hkm (hM.vv k m _ vi b h2 hm h3 hb)
      have hn':newV st2 ⟨.own t,.f (.ext c.fn) ds⟩ n=some st3:=hn;have hobl:=xGA hn';rw[hst2.1] at hobl;refine(main (hpreOk (by
       have hob':zCA X Pre st3.obl J:=hob;rw[hobl] at hob';exact zKA.1 hob'))).mono fun e w' hh=>?_
      obtain⟨v',rfl,hf,hr⟩:=hh;simp only[yOB,hres] at hr;obtain⟨rfl,b,off',ty,ty2,cs0,mv,⟨gs2,f2,j,hj1,hj2⟩,hb1,hb2,hmv,htags⟩:=hr;have hbo:b=g.rb o/\off'=off:=by
       rw[zRA,List.getElem?_map] at hj2;cases hl:args[j]? with
       | none=>rw[hl] at hj2;cases hj2
       | some s2 =>
        rw[hl] at hj2;have hin:=zDG c.args args j gs2 off' t s2 hj1 hl;rw[hown] at hin;simp only[List.mem_singleton,Prod.mk.injEq,AK.ccell.injEq] at hin;rw[hin.2] at hj2;simp only[Option.map_some,SV.den,WK.den,dens,Option.some.injEq,Value.func.injEq,Array.mk.injEq,List.cons.injEq,Value.pointer.injEq,Addr.mk.injEq] at hj2;exact⟨hj2.2.2.1.1.symm,hin.1.2.1⟩
      obtain⟨rfl,rfl⟩:=hbo;obtain⟨⟨ty',hh'⟩,ho1,ho2⟩:=hob0;rw[hh'] at hb1;simp only[Option.some.injEq,Obj.cells.injEq,and_true] at hb1;obtain⟨rfl,rfl⟩:=hb1;unfold newV at hn';split at hn'
      ·rename_i hfresh;cases hn';have hmen:mens n cs=false:=by
        have:=hfresh
        simp only[St.freshV,baZ,List.all_eq_true,Bool.not_eq_true'] at this
        have:=this.1.2 (o,cs) (by rw[hst2.2.2.2.2.2.1];exact zBB ho)
        simpa using this
       have hmv1:mv.oneCell'=true:=(htags (fun _=>True) (fun _ _=>trivial) (fun _ _ _ _=>trivial)).one1;have hnew:xTC X J (g.setV n mv (0,0)) w' o (cs.set off' (.x n)):=by
        have e1:dens X J (g.setV n mv (0,0)) (cs.set off' (.x n))=(dens X J g cs).set off' mv:=by
         rw[zRA,List.map_set,<- zRA,xUB X J g n mv (0,0) cs hmen];simp[SV.den,Gh.setV]
        refine⟨⟨ty2,?_⟩,?_,?_⟩
        ·rw[e1]
         have:(g.setV n mv (0,0)).rb o=g.rb o:=rfl
         rw[this,hb2]
         simp
        ·rw[e1];intro u hu;rcases List.mem_or_eq_of_mem_set hu with hu|rfl
         ·exact ho1 u hu
         ·exact hmv1
        ·rw[yHA];intro u hu;rcases List.mem_or_eq_of_mem_set hu with hu|rfl
         ·exact yHA.1 ho2 u hu
         ·trivial
       have hfin:=hM1.changeO hf (fun b _ hb=>hactv b hb) st2 hst2.2.2.1 (fun l hl=>hst2.2.2.2.2.1▸hl) (o:=o) (cs:=cs) (cs':=cs.set off' (.x n)) ho (fun p c' hp=>by
         rw[hst2.2.2.2.2.2.1] at hp;refine⟨hp,fun hne hw=>?_⟩;rcases hW _ hw with h1|⟨k',u',de',_,h2,h3⟩
         ·exact hne (hM.oo o p cs c' ho hp h1.symm)
         ·exact hM.ov p k' c' _ hp h2 h3) hst2.2.2.2.2.2.2.2 n ⟨.own t,.f (.ext c.fn) ds⟩ mv (0,0) hfresh (fun b hb=>by
         have:=hmv b hb
         exact⟨this.1,this.2.2,this.2.1⟩) (fun ok' h1 h2=>by
         simp only[qUA];rw[qYA]
         exact htags ok' h1 (fun k hk1 hk2 hk3=>h2 k hk1 hk2 hk3)) hnew
       have hE2:Env X J st2 g a:=hE.of_env hst2.2.1 hst2.2.2.2.1;have hnoneN:lk n st0.vars=none:=by
        cases hx:lk n st0.vars with
        | none=>rfl
        | some vi =>
         obtain⟨vi',h1⟩:=hst2.2.2.2.2.2.2.1 n vi hx;rw[qNA hfresh] at h1;cases h1
       refine⟨_,by simp[SV.den,dens],hX.trans (Ext.setV hnoneN mv (0,0) (fun k vi hk=>?_) (fun p c' hp=>?_)),hfin,(hE2.setV hfresh mv (0,0)).of_env rfl rfl,trivial⟩
       ·obtain⟨vi',h1⟩:=hst2.2.2.2.2.2.2.1 k vi hk;exact xVB k vi' h1
       ·exact qOA p c' (by rw[hst2.2.2.2.2.2.1];exact hp)
      ·cases hn'
     ·cases hcall
    ·cases hcall
   ·cases hcall
  ·cases hcall
 ·skip
  rename_i tb m o off hown;split at hcall
  rotate_left
  ·cases hcall
  rename_i t m' hres;split at hcall
  rotate_left
  ·cases hcall
  rename_i hmc;obtain⟨hmc,rfl⟩:=hmc;split at hcall
  rotate_left
  ·cases hcall
  rename_i st2 hn;have hargd:∃d,argD C.P st0 (.rd tb m) (.oa o off)=some d:=xSA hds (.rd tb m,.oa o off) (by rw[hown];simp);obtain⟨cs,ho,hso⟩:∃cs,lk o st0.objs=some cs/\qZB C.P tb=true:=by
   obtain⟨d,hd⟩:=hargd;simp only[argD] at hd;split at hd
   ·rename_i cs ho;split at hd
    ·rename_i hc';exact⟨cs,ho,hc'.2⟩
    ·cases hd
   ·cases hd
  obtain⟨e0,i0,hsu,hsi⟩:=zPB hso;have hW:∀b,Wr w c.args (dens X J g args) b->b=g.rb o:=fun b hb=>by
   obtain⟨p,hp,hw⟩:=xTF c.args args b hb;rw[hown] at hp;simp only[List.mem_singleton] at hp;subst hp;simpa[SV.den,wrA] using hw
  have hactv:∀b,Wr w c.args (dens X J g args) b->Actv st0 g b:=fun b hb=>.inl ⟨o,cs,ho,(hW b hb).symm⟩
  have main:=fun(hp:c.pre=true->Pre c.fn (zDA X ds J))=>hc.2 (okOf st0 g w) w (dens X J g args) (zDA X ds J) hA (fun b hb=>⟨hb.1,fun hw=>hb.2.1 (hactv b hw)⟩) (fun b hb=>absurd hb (yOD c.args _ b hmc)) hp (hM.glW hactv)
  have hobl:=xGA hn;have hres2:∃d,C.P.underlying t=some d:=by
   unfold xOK at hcall;split at hcall
   ·rename_i d hu;exact⟨d,hu⟩
   ·cases hcall
  obtain⟨td,htd⟩:=hres2;have hobl2:st'.obl=st2.obl:=by
   unfold xOK at hcall;rw[htd] at hcall;simp only at hcall;split at hcall
   ·cases hcall;rfl
   ·split at hcall
    ·rename_i st4 hn4;cases hcall
     have:=xGA hn4
     exact this
    ·cases hcall
  refine(main (hpreOk (by
   rw[hobl2,hobl] at hob;exact zKA.1 hob))).mono fun e w' hh=>?_
  obtain⟨v,rfl,hf,hr⟩:=hh;simp only[yOB,hres] at hr;obtain⟨b,ty,tb',rv,⟨j,hj1,hj2⟩,hb,hwf,hrep⟩:=hr;have hbo:b=g.rb o/\tb'=tb:=by
   rw[zRA,List.getElem?_map] at hj2;cases hl:args[j]? with
   | none=>rw[hl] at hj2;cases hj2
   | some s2 =>
    rw[hl] at hj2;have hin:=zEG c.args args j tb' m s2 hj1 hl;rw[hown] at hin;simp only[List.mem_singleton,Prod.mk.injEq,AK.rd.injEq,and_true] at hin;rw[hin.2] at hj2;simp only[Option.map_some,SV.den,Option.some.injEq,Value.pointer.injEq,Addr.mk.injEq] at hj2;exact⟨hj2.1.symm,hin.1⟩
  obtain⟨rfl,rfl⟩:=hbo;unfold newV at hn;split at hn
  rotate_left
  ·cases hn
  rename_i hfresh;cases hn;have hrvone:rv.oneCell'=true:=by
   obtain⟨ad,len,cap,hv,_⟩:=(hrep (fun _=>True) (fun _ _=>trivial) (fun _ _ _=>trivial)).2.home hsu;rw[hv];rfl
  have hev:∀k,(DE.f (.get k) [.f (.ext c.fn) ds]).eval X J=(X c.fn (zDA X ds J)).cells.getD k .nil:=fun k=>by
   rw[<- qYA (X:=X) (J:=J)];rfl
  have hbd:(badE m (.f (.ext c.fn) ds)).eval X J = .bool (rdBD m (X c.fn (zDA X ds J))):=by
   cases m with
   | false=>rfl
   | true =>
    obtain⟨bb,hbb⟩:=hwf rfl;show (DE.f (.get 2) [.f (.ext c.fn) ds]).eval X J=_;rw[hev,hbb,rdBD,hbb];rfl
  have hnew:xTC X J (g.setV n rv (0,0)) w' o [.x n,.b (badE m (.f (.ext c.fn) ds))]:=by
   have e1:dens X J (g.setV n rv (0,0)) [.x n,.b (badE m (.f (.ext c.fn) ds))]=[rv,.bool (rdBD m (X c.fn (zDA X ds J)))]:=by
    simp[dens,SV.den,Gh.setV,hbd,D.asBool]
   refine⟨⟨ty,?_⟩,?_,trivial,⟨_,hbd⟩,trivial⟩
   ·rw[e1];exact hb
   ·rw[e1];intro u hu;simp only[List.mem_cons,List.not_mem_nil,or_false] at hu;rcases hu with rfl|rfl
    ·exact hrvone
    ·rfl
  have hfin:=hM1.changeO hf (fun b _ hb=>hactv b hb) { st0 with obl:=ob } rfl (fun l hl=>hl) (o:=o) (cs:=cs) (cs':=[.x n,.b (badE m (.f (.ext c.fn) ds))]) ho (fun p c' hp=>⟨hp,fun hne hw=>hne (hM.oo o p cs c' ho hp (hW _ hw).symm)⟩)
   (fun m vi hm=>.inr ⟨hm,fun b hb hw=>hM.ov o m cs vi ho hm (by rw[<- hW b hw];exact hb)⟩) n ⟨.set tb',.f (.get 1) [.f (.ext c.fn) ds]⟩ rv (0,0) hfresh (fun b hb=>by simp[zFA] at hb) (fun ok' h1 h2=>by
    simp only[qUA];rw[hev]
    exact(hrep ok' h1 (fun k hk1 hk2=>h2 k hk1 hk2 (by simp[zFA]))).2) hnew
  have hE2:=(hE1.setV hfresh rv (0,0)).of_env (st':={ st0 with obl:=ob,vars:=(n,⟨.set tb',.f (.get 1) [.f (.ext c.fn) ds]⟩)::st0.vars,objs:=upd o [.x n,.b (badE m (.f (.ext c.fn) ds))] st0.objs }) rfl rfl;have hX2:Ext st g { st0 with obl:=ob,vars:=(n,⟨.set tb',.f (.get 1) [.f (.ext c.fn) ds]⟩)::st0.vars,objs:=upd o [.x n,.b (badE m (.f (.ext c.fn) ds))] st0.objs } (g.setV n rv (0,0)) :=
   hX.trans (Ext.setV (show lk n st0.vars=none from qNA hfresh) rv (0,0) (fun k vi hk=>xVB k vi hk) (fun p c' hp=>qOA p c' hp))
  have hact3:∀b,Actv { st0 with obl:=ob,vars:=(n,⟨.set tb',.f (.get 1) [.f (.ext c.fn) ds]⟩)::st0.vars,objs:=upd o [.x n,.b (badE m (.f (.ext c.fn) ds))] st0.objs } (g.setV n rv (0,0)) b->Actv st0 g b:=by
   rintro b (⟨p,c',h1,h2⟩|⟨m,vj,h1,h2⟩)
   ·by_cases hp:o=p
    ·subst hp;exact .inl ⟨o,cs,ho,h2⟩
    ·rw[yJA hp] at h1;exact .inl ⟨p,c',h1,h2⟩
   ·by_cases hm:n=m
    ·subst hm;rw[zIA] at h1;cases h1;simp[zFA] at h2
    ·rw[zHA hm] at h1;refine .inr ⟨m,vj,h1,?_⟩;simpa[Gh.setV,Ne.symm hm] using h2
  have hokc:∀b,(okOf st0 g w b∨(w.heap.size<=b/\b<w'.heap.size))->okOf { st0 with obl:=ob,vars:=(n,⟨.set tb',.f (.get 1) [.f (.ext c.fn) ds]⟩)::st0.vars,objs:=upd o [.x n,.b (badE m (.f (.ext c.fn) ds))] st0.objs } (g.setV n rv (0,0)) w' b:=fun b hb=>by
   rcases hb with hb|hb
   ·exact⟨Nat.lt_of_lt_of_le hb.1 hf.size,fun e=>hb.2.1 (hact3 b e),hb.2.2⟩
   ·exact⟨hb.2,fun e=>by have:=hM.act_lt (hact3 b e);omega,hM.newEx hb.1⟩
  clear hact3
  obtain⟨st3,hst3⟩:∃st3:St,st3 = { st0 with obl:=ob,vars:=(n,⟨.set tb',.f (.get 1) [.f (.ext c.fn) ds]⟩)::st0.vars,objs:=upd o [.x n,.b (badE m (.f (.ext c.fn) ds))] st0.objs }:=⟨_,rfl⟩;rw[<- hst3] at hfin hE2 hX2 hokc;have hcall:xOK C.P t (.f (.get 0) [.f (.ext c.fn) ds]) n st3=some (s,st'):=by rw[hst3];exact hcall
  generalize g.setV n rv (0,0)=g3 at hfin hE2 hX2 hokc;have hok3:∀ok':Nat->Prop,(∀b,okOf st3 g3 w' b->ok' b)->Rep C.P ok' w' t v ((DE.f (.get 0) [.f (.ext c.fn) ds]).eval X J):=fun ok' h1=>by
   rw[hev];exact(hrep ok' (fun b hb=>h1 b (hokc b (.inl hb))) (fun b h2 h3=>h1 b (hokc b (.inr ⟨h2,h3⟩)))).1
  unfold xOK at hcall;rw[htd] at hcall;simp only at hcall;split at hcall
  ·rename_i hsc;cases hcall;have hrep0:=hok3 _ (fun _ h=>h);have hv:(zCD C.P n t (DE.f (.get 0) [.f (.ext c.fn) ds])).den X J g3=v/\(zCD C.P n t (DE.f (.get 0) [.f (.ext c.fn) ds])).ok X J:=by
    have:=zDE (X:=X) (J:=J) (g:=g3.setV n v (0,0)) (P:=C.P) n (t:=t) (de:=DE.f (.get 0) [.f (.ext c.fn) ds]) hrep0 (by simp[Gh.setV])
    refine⟨?_,this.2⟩;rw[<- this.1];unfold zCD;rw[htd];cases td <;> simp[qUB] at hsc
    ·rfl
    ·rfl
    ·rename_i fk;cases fk <;> simp at hsc;rfl
    ·rfl
   exact⟨g3,by rw[hv.1],hX2,hfin,hE2,hv.2⟩
  ·split at hcall
   rotate_left
   ·cases hcall
   rename_i st4 hn4;cases hcall;obtain⟨k1,k2,k3,k4,_⟩:=xJC hfin hE2 (Fr.refl (fun _=>False) w') hn4 (v:=v) (fun ok' h1 _=>hok3 ok' h1);exact⟨_,by rw[k4],hX2.trans k3,k1,k2,trivial⟩
 ·cases hcall
end
end Go.Dx
namespace Go.Dx
open Go
section
variable {P:Program} {X:Nat->List D->D} {Pre:Nat->List D->Prop} {w0:Base} {J:List D} {st:St} {g:Gh} {w:World} {a:Act}
theorem zPA{l m:List Ob}:zCA X Pre (l++m) J↔zCA X Pre l J/\zCA X Pre m J:=by
 simp only[zKA,List.mem_append];constructor
 ·intro h;exact⟨fun o ho=>h o (.inl ho),fun o ho=>h o (.inr ho)⟩
 ·rintro⟨h1,h2⟩ o (ho|ho)
  ·exact h1 o ho
  ·exact h2 o ho
theorem Mem.same(h:Mem P X w0 J st g w){st':St}(hv:st'.vars=st.vars)(ho:st'.objs=st.objs)(hl:st'.loops=st.loops)(hlv:st'.lvl=st.lvl):Mem P X w0 J st' g w:=by
 obtain⟨env,vars,objs,loops,obl,lvl,nx,nt⟩:=st;obtain⟨env',vars',objs',loops',obl',lvl',nx',nt'⟩:=st';simp only at hv ho hl hlv;subst hv;subst ho;subst hl;subst hlv
 exact⟨h.va,h.ob,h.oo,h.vv,h.ov,h.lo,h.lp,h.fr,h.lv,h.ex,h.gl⟩
theorem Ext.same{st st' s2:St}{g g':Gh}(h:Ext st g st' g')(hv:s2.vars=st.vars)(ho:s2.objs=st.objs):Ext s2 g st' g':=⟨fun n vi hn=>h.rv n vi (hv▸hn),fun o cs hc=>h.rb o cs (ho▸hc)⟩
theorem Ext.same'{st st' s2:St}{g g':Gh}(h:Ext st g st' g')(hv:s2.vars=st'.vars)(ho:s2.objs=st'.objs):Ext st g s2 g':=⟨fun n vi hn=>by rw[hv];exact h.rv n vi hn,fun o cs hc=>by rw[ho];exact h.rb o cs hc⟩
theorem yIB(a:Act)(d:Nat)(v:Value)(s:Nat):(a.put (some d) v).tmps[s]? = if s=d/\d<a.tmps.size then some v else a.tmps[s]?:=by
 simp only[Act.put,Array.set!_eq_setIfInBounds];rw[Array.getElem?_setIfInBounds];by_cases h:d=s
 ·subst h;by_cases hd:d<a.tmps.size
  ·simp[hd]
  ·simp[hd]
 ·have:¬(s=d):=fun e=>h e.symm
  simp[h,this]
theorem Env.put(h:Env X J st g a){d:Nat}{s:SV}(hd:d<st.nt)(hs:s.ok X J):Env X J { st with env:=upd d s st.env } g (a.put (some d) (s.den X J g)):=by
 refine⟨fun t sv ht=>?_,?_,?_⟩
 ·rw[yIB];by_cases htd:t=d
  ·subst htd;simp only[zZA,Option.some.injEq] at ht;subst ht;exact⟨by simp[h.sz,hd],hs⟩
  ·simp only at ht;rw[yJA (Ne.symm htd)] at ht;simp only[htd,false_and,if_false];exact h.tm t sv ht
 ·exact h.df
 ·simp[Act.put,h.sz]
theorem Env.drop(h:Env X J st g a)(d:Nat)(v:Value):Env X J { st with env:=del d st.env } g (a.put (some d) v):=by
 refine⟨fun t sv ht=>?_,h.df,by simp[Act.put,h.sz]⟩;obtain⟨h1,h2⟩:=zAB ht;rw[yIB];simp only[Ne.symm h1,false_and,if_false];exact h.tm t sv h2
theorem qGD(he:Env X J st g a){ops:Array Oper}{o:Oper}{b:Bool}(h:goS ops st o=some b):Region.wanted o (yielded ops a.tmps)=b:=by
 unfold goS at h;unfold Region.wanted;split at h
 ·rename_i hg;rw[hg];simp at h;simp[h]
 ·rename_i j want hg;rw[hg];split at h
  ·rename_i q hq;split at h
   ·rename_i d hd;split at h
    ·rename_i c hc
     have:=(he.tm d _ hc).1
     simp only[Option.some.injEq] at h;simp only[yielded,hq,Option.bind_some,hd,this,SV.den,DE.eval,D.asBool];rw[<- h];cases c <;> cases want <;> rfl
    ·rename_i hc
     have:=(he.tm d _ hc).1
     simp only[Option.some.injEq] at h;subst h;simp only[yielded,hq,Option.bind_some,hd,this,SV.den,dens];cases want <;> rfl
    ·cases h
   ·cases h
  ·cases h
def yHB(P:Program)(ops:Array Oper)(Q:Exit->Act->World->Prop)(K:Act->World->Prop)(o:Oper)(a:Act)(w:World):Prop :=
 if Region.wanted o (yielded ops a.tmps) then o.wp P a w K Q∨(o.asks P a w/\LetsOut Q) else K (a.put o.dst undef) w
theorem zMH{C:Cfg}{callF:CallF}{ops:Array Oper}{n:Nat}{o:Oper}{st':St}(h:xHE C callF ops st n o=some st'):∃l,st'.obl=l++st.obl:=by
 unfold xHE at h;split at h
 ·split at h
  ·split at h
   ·split at h
    ·cases h;exact⟨_,rfl⟩
    ·cases h
   ·cases h;exact⟨_,rfl⟩
  ·cases h
 ·split at h
  ·split at h
   ·cases h;exact⟨[],rfl⟩
   ·cases h
  ·cases h;exact⟨[],rfl⟩
 ·cases h
theorem zRF{C:Cfg}{callF:CallF}(hnm:yWA C.P)(hcall:xSC C.P X Pre (qVA C callF))(h:Mem C.P X w0 J st g w)(he:Env X J st g a){ops:Array Oper}{n:Nat}{o:Oper}{st':St}
  (hop:xHE C callF ops st n o=some st') (hob:zCA X Pre st'.obl J) {Q:Exit->Act->World->Prop} {K:Act->World->Prop}
  (hK:∀g' w' a',Ext st g st' g'->Mem C.P X w0 J st' g' w'->Env X J st' g' a'->K a' w'):yHB C.P ops Q K o a w:=by
 unfold xHE at hop;unfold yHB;split at hop
 ·rename_i hgo;rw[qGD he hgo];simp only[if_true];left;split at hop
  ·rename_i v st1 hs;have hm0:Mem C.P X w0 J { st with obl:=[] } g w:=h.same rfl rfl rfl rfl;have he0:Env X J { st with obl:=[] } g a:=he.of_env rfl rfl;split at hop
   ·rename_i d hd;split at hop
    ·rename_i hlt;cases hop;rw[zPA] at hob;refine zLH hnm hcall hm0 he0 hs hob.1 K Q (fun g' w' k1 k2 k3 k4=>?_);rw[hd];refine hK g' w' _ ((k1.same (s2:=st) rfl rfl).same' rfl rfl) (k2.same rfl rfl rfl rfl) ?_;exact(k3.put hlt k4).of_env rfl rfl
    ·cases hop
   ·rename_i hd;cases hop;rw[zPA] at hob;refine zLH hnm hcall hm0 he0 hs hob.1 K Q (fun g' w' k1 k2 k3 k4=>?_);rw[hd];exact hK g' w' _ ((k1.same (s2:=st) rfl rfl).same' rfl rfl) (k2.same rfl rfl rfl rfl) (k3.of_env rfl rfl)
  ·cases hop
 ·rename_i hgo;rw[qGD he hgo];simp only[bfZ,if_false];split at hop
  ·rename_i d hd;split at hop
   ·rename_i hlt;cases hop;rw[hd];have hp:=he.put (s:=.tup []) hlt trivial;exact hK g w _ ((Ext.refl st g).same' rfl rfl) (h.same rfl rfl rfl rfl) hp
   ·cases hop
  ·rename_i hd;cases hop;rw[hd];exact hK g w _ (Ext.refl st g) h he
 ·cases hop
def PcH(X:Nat->List D->D)(J:List D)(pc:Pc):Prop:=∀x∈pc,(x.2.1.eval X J).asBool=x.2.2
theorem qVG{x y:Nat×DE×Bool}:∀ {pc:Pc},y∈qZE x pc↔y=x∨y∈pc
 | []=>by simp[qZE]
 | z::r=>by
  simp only[qZE];split
  ·simp
  ·simp only[List.mem_cons,qVG (pc:=r)];constructor
   ·rintro(h|h|h) <;> simp[h]
   ·rintro(h|h|h) <;> simp[h]
theorem PcH.ins{x:Nat×DE×Bool}{pc:Pc}(h1:(x.2.1.eval X J).asBool=x.2.2)(h2:PcH X J pc):PcH X J (qZE x pc):=fun y hy=>by
 rcases qVG.1 hy with rfl|hy
 ·exact h1
 ·exact h2 y hy
theorem yRH{e:DE}{b:Bool}:∀ {l:List (Nat×SV)} {s:Nat} {v:SV},lk s (yQH e b l)=some v -> ∃u,lk s l=some u/\(v=u∨(u = .b e/\v = .b (.k (.bool b))))
 | [],_,_,h=>by simp[yQH,yTA,yLA] at h
 | (k,x)::r,s,v,h=>by
  simp only[yQH] at h;by_cases hk:k=s
  ·subst hk;rw[zIA] at h;refine⟨x,zIA,?_⟩;simp only[Option.some.injEq] at h;split at h
   ·split at h
    ·rename_i hb;rw[DE.beq_eq hb];exact .inr ⟨rfl,h.symm⟩
    ·exact .inl h.symm
   ·exact .inl h.symm
  ·rw[zHA hk] at h;obtain⟨u,h1,h2⟩:=yRH h;exact⟨u,by rw[zHA hk];exact h1,h2⟩
theorem Env.setB(he:Env X J st g a){e:DE}{b:Bool}(hb:(e.eval X J).asBool=b):Env X J (setB st e b) g a:=by
 refine⟨fun s v hs=>?_,he.df,he.sz⟩;obtain⟨u,hu,hh⟩:=yRH hs;obtain⟨h1,h2⟩:=he.tm s u hu;rcases hh with rfl|⟨rfl,rfl⟩
 ·exact⟨h1,h2⟩
 ·exact⟨by rw[h1];simp only[SV.den,hb];rfl,⟨b,rfl⟩⟩
theorem zQB{ops:Array Oper}{is:List Nat}:∀ {n:Nat} {pc:Pc} {st:St},Mem P X w0 J st g w->Env X J st g a->PcH X J pc ->
  ∃q∈yXB ops is n pc st,PcH X J q.1/\Mem P X w0 J q.2 g w/\Env X J q.2 g a/\Ext st g q.2 g/\q.2.obl=st.obl
 | 0,pc,st,h,he,hp=>⟨(pc,st),by simp[yXB],hp,h,he,Ext.refl st g,rfl⟩
 | n+1,pc,st,h,he,hp=>by
  simp only[yXB];split
  ·exact⟨(pc,st),by simp,hp,h,he,Ext.refl st g,rfl⟩
  ·rename_i d e hs;have hX:∀b,Ext st g (Dx.setB st e b) g:=fun b=>(Ext.refl st g).same' rfl rfl
   cases hb:(e.eval X J).asBool with
   | true =>
    obtain⟨q,hq,k1,k2,k3,k4,k5⟩:=zQB (ops:=ops) (is:=is) (n:=n) (pc:=qZE (d,e,true) pc) (st:=Dx.setB st e true) (h.same rfl rfl rfl rfl) (he.setB hb) (hp.ins hb);exact⟨q,List.mem_append_left _ hq,k1,k2,k3,(hX true).trans k4,k5⟩
   | false =>
    obtain⟨q,hq,k1,k2,k3,k4,k5⟩:=zQB (ops:=ops) (is:=is) (n:=n) (pc:=qZE (d,e,false) pc) (st:=Dx.setB st e false) (h.same rfl rfl rfl rfl) (he.setB hb) (hp.ins hb);exact⟨q,List.mem_append_right _ hq,k1,k2,k3,(hX false).trans k4,k5⟩
theorem zAC{ops:Array Oper}{is:List Nat}(X:Nat->List D->D)(J:List D):∀ {n:Nat} {pc:Pc} {st:St},PcH X J pc -> ∃q∈yXB ops is n pc st,PcH X J q.1/\q.2.obl=st.obl
 | 0,pc,st,hp=>⟨(pc,st),by simp[yXB],hp,rfl⟩
 | n+1,pc,st,hp=>by
  simp only[yXB];split
  ·exact⟨(pc,st),by simp,hp,rfl⟩
  ·rename_i d e hs;cases hb:(e.eval X J).asBool with
   | true =>
    obtain⟨q,hq,k1,k5⟩:=zAC (ops:=ops) (is:=is) X J (n:=n) (pc:=qZE (d,e,true) pc) (st:=Dx.setB st e true) (hp.ins hb);exact⟨q,List.mem_append_left _ hq,k1,k5⟩
   | false =>
    obtain⟨q,hq,k1,k5⟩:=zAC (ops:=ops) (is:=is) X J (n:=n) (pc:=qZE (d,e,false) pc) (st:=Dx.setB st e false) (hp.ins hb);exact⟨q,List.mem_append_right _ hq,k1,k5⟩
theorem xGC{C:Cfg}{callF:CallF}{ops:Array Oper}{n:Nat}{o:Oper}:∀ {ps r:List (Pc×St)},xXE C callF ops n o ps=some r -> ∀p∈ps,∃s,xHE C callF ops p.2 n o=some s/\(p.1,s)∈r
 | [],_,_,p,hp=>by cases hp
 | q::ps,r,h,p,hp=>by
  simp only[xXE] at h;split at h
  ·rename_i s r' h1 h2;cases h;rcases List.mem_cons.1 hp with rfl|hp
   ·exact⟨s,h1,by simp⟩
   ·obtain⟨s',k1,k2⟩:=xGC h2 p hp;exact⟨s',k1,List.mem_cons_of_mem _ k2⟩
  ·cases h
theorem yMD{C:Cfg}{callF:CallF}{ops:Array Oper}{base big:Nat}(X:Nat->List D->D)(J:List D):∀ {l:List Oper} {i:Nat} {ps ps':List (Pc×St)},yKB C callF ops base big i l ps=some ps' -> ∀p∈ps,PcH X J p.1 ->
  ∃q∈ps',PcH X J q.1 /\ ∀o∈p.2.obl,o∈q.2.obl
 | [],_,ps,ps',h,p,hp,hpc=>by simp only[yKB,Option.some.injEq] at h;subst h;exact⟨p,hp,hpc,fun o ho=>ho⟩
 | o::l,i,ps,ps',h,p,hp,hpc=>by
  simp only[yKB] at h;split at h
  ·rename_i ps1 h1;obtain⟨q,hq,k1,k2⟩:=zAC (ops:=ops) (is:=[i]) X J (n:=4) (pc:=p.1) (st:=p.2) hpc;obtain⟨s,e1,e2⟩:=xGC h1 q (List.mem_flatMap.2 ⟨p,hp,hq⟩);obtain⟨l1,e3⟩:=zMH e1;obtain⟨q',m1,m2,m3⟩:=yMD X J h (q.1,s) e2 k1;exact⟨q',m1,m2,fun x hx=>m3 x (by simp only;rw[e3,k2];exact List.mem_append_right _ hx)⟩
  ·cases h
theorem xRC{C:Cfg}{callF:CallF}(hnm:yWA C.P)(hcall:xSC C.P X Pre (qVA C callF)){ops:Array Oper}{base big:Nat}{Q:Exit->Act->World->Prop} :
  ∀ {l:List Oper} {i:Nat} {ps ps':List (Pc×St)},yKB C callF ops base big i l ps=some ps'->(∀q∈ps',PcH X J q.1->zCA X Pre q.2.obl J) -> ∀p∈ps,PcH X J p.1 -> ∀(g:Gh) (w:World) (a:Act),Mem C.P X w0 J p.2 g w->Env X J p.2 g a ->
   (∀q∈ps',PcH X J q.1 -> ∀g' w' a',Ext p.2 g q.2 g'->Mem C.P X w0 J q.2 g' w'->Env X J q.2 g' a'->Q .normal a' w')->wpList C.P ops Q l a w
 | [],_,ps,ps',hr,hob,p,hp,hpc,g,w,a,h,he,hQ=>by
  simp only[yKB,Option.some.injEq] at hr;subst hr;exact hQ p hp hpc g w a (Ext.refl _ g) h he
 | o::l,i,ps,ps',hr,hob,p,hp,hpc,g,w,a,h,he,hQ=>by
  simp only[yKB] at hr;split at hr
  ·rename_i ps1 h1;obtain⟨q,hq,k1,k2,k3,k4,k5⟩:=zQB (ops:=ops) (is:=[i]) (n:=4) h he hpc;obtain⟨s,e1,e2⟩:=xGC h1 q (List.mem_flatMap.2 ⟨p,hp,hq⟩);have hob1:zCA X Pre s.obl J:=by
    obtain⟨q',m1,m2,m3⟩:=yMD X J hr (q.1,s) e2 k1;exact zKA.2 fun x hx=>zKA.1 (hob q' m1 m2) x (m3 x hx)
   show yHB C.P ops Q (wpList C.P ops Q l) o a w;exact zRF hnm hcall k2 k3 e1 hob1 (fun g' w' a' j1 j2 j3=>xRC hnm hcall hr hob (q.1,s) e2 k1 g' w' a' j2 j3 (fun q' hq' hpc' g2 w2 a2 m1 m2 m3=>hQ q' hq' hpc' g2 w2 a2 ((k4.trans j1).trans m1) m2 m3))
  ·cases hr
end
end Go.Dx
namespace Go.Dx
open Go
section
variable {P:Program} {X:Nat->List D->D} {Pre:Nat->List D->Prop} {w0:Base} {J:List D} {st:St} {g:Gh} {w:World} {a:Act}
theorem yBF(h:Mem P X w0 J st g w)(he:Env X J st g a){o:Oper}{v:SV}(hv:xJK P st o=some v):(execOp a.eval o).run P w = .ok (.value (v.den X J g)) w:=by
 obtain⟨dst,op,type,pos,after,guard⟩:=o;cases op <;> simp only[xJK,reduceCtorEq] at hv
 case load t x =>
  split at hv
  ·rename_i p hp;exact yFA (by rw[yIA he hp];exact(xBD h hv).1)
  ·cases hv
 case nilCheck x =>
  split at hv
  ·rename_i o off hq;cases hv;simp[execOp,yIA he hq,SV.den]
  ·rename_i o off hq;cases hv;simp[execOp,yIA he hq,SV.den]
  ·rename_i m e off sz hq;cases hv;obtain⟨b,o,hbo⟩:=zJD (g.rv m);simp[execOp,yIA he hq,SV.den,hbo]
  ·cases hv
 case indexAddr t x i =>
  split at hv
  ·rename_i p q hp hq;exact yFA (by rw[yIA he hp,yIA he hq];exact(qPF h hv).1)
  ·cases hv
 case convert s d x =>
  split at hv
  ·rename_i k1 k k2 e hs hd hx;cases hv;obtain⟨m,hm,_⟩:=zTB he hx;refine yFA ?_;rw[yIA he hx];unfold convert;simp only[Sem.run_bind,run_underlying hs,run_underlying hd,Result.andThen_ok];simp[SV.den,Conv.intToInt,zEA,zDA,Fn.eval,hm,D.asInt]
  ·cases hv
end
section
variable {P:Program} {ops:Array Oper} {Q:Exit->Act->World->Prop} {R:List (Nat×List Nat)}
def zRC(ops:Array Oper)(L:Array Bool):Prop:=∀j o,ops[j]? = some o->L.getD j false=true -> ∀e∈o.after,Region.binds .any e=true->L.getD e.on false=true
theorem qAE{o:Oper}{i:Nat}:xKC o i=true ↔ ∃e∈o.after,Region.binds .any e=true/\e.on=i:=by
 unfold xKC;rw[Array.any_eq_true'];simp only[baZ,beq_iff_eq]
theorem qHC{L:Array Bool}{i:Nat}(h:L.getD i true=false):L.getD i false=false:=by
 rcases Nat.lt_or_ge i L.size with h'|h'
 ·simp[h'] at h ⊢;exact h
 ·simp[Array.getElem?_eq_none h'] at h
theorem yRG{L:Array Bool}{i:Nat}(h:L.getD i true=false):(L.setIfInBounds i true).getD i false=true:=by
 rcases Nat.lt_or_ge i L.size with h'|h'
 ·simp[h']
 ·simp[Array.getElem?_eq_none h'] at h
theorem zRC.set{L:Array Bool}(hc:zRC ops L){i:Nat}(hr:i∈Region.ready .any ops L):zRC ops (L.setIfInBounds i true):=fun j o ho hj e he hb=>by
 by_cases hij:i=j
 ·subst hij;obtain⟨_,o',ho',hall⟩:=mem_ready.1 hr;rw[ho] at ho';cases ho'
  exact getD_set_true (hall e he hb)
 ·rw[getD_set_ne false hij] at hj;exact getD_set_true (hc j o ho hj e he hb)
theorem zRC.no_after{L:Array Bool}(hc:zRC ops L){i j:Nat}{o:Oper}(hi:L.getD i false=false)(ho:ops[j]? = some o)(hj:L.getD j false=true):xKC o i=false:=by
 cases h:xKC o i
 ·rfl
 ·obtain⟨e,he,hb,rfl⟩:=qAE.1 h;rw[hc j o ho hj e he hb] at hi;cases hi
def InvR(P:Program)(ops:Array Oper)(R:List (Nat×List Nat))(L:Array Bool)(a:Act)(w:World):Prop :=
 ∀r∈R,L.getD r.1 false=true->(∀k∈r.2,L.getD k false=false) -> ∀o,ops[r.1]? = some o -> ∃d v,o.dst=some d/\a.tmps[d]? = some v/\(execOp a.eval o).run P w = .ok (.value v) w
def xAB(P:Program)(ops:Array Oper)(Q:Exit->Act->World->Prop)(R:List (Nat×List Nat)):Nat->Array Bool->Act->World->Prop
 | 0,L,a,w=>InvR P ops R L a w/\Region.ready .any ops L=[]/\Q .normal a w
 | n+1,L,a,w=>InvR P ops R L a w/\(Region.ready .any ops L=[]->Q .normal a w) /\ ∀i∈Region.ready .any ops L,wpOp P ops Q i (xAB P ops Q R n (L.setIfInBounds i true)) a w
theorem xAB.inv:∀ {n:Nat} {L:Array Bool} {a:Act} {w:World},xAB P ops Q R n L a w->InvR P ops R L a w
 | 0,_,_,_,h=>h.1
 | _+1,_,_,_,h=>h.1
theorem xAB.any:∀ {n:Nat} {L:Array Bool} {a:Act} {w:World},xAB P ops Q R n L a w->wpAny P .any ops Q n L a w
 | 0,_,_,_,h=>⟨h.2.1,h.2.2⟩
 | _+1,_,_,_,h=>⟨h.2.1,fun i hi=>wpOp_mono (fun _ _ k=>xAB.any k) (h.2.2 i hi)⟩
structure OkRs (ops:Array Oper) (R:List (Nat×List Nat)):Prop where
 ns:R≠[]->Region.noSelect ops=true
 ok:∀r∈R,okR ops r.1=true
 hard:∀r∈R,∀k∈r.2,∃o,ops[k]? = some o/\xKC o r.1=true/\zYE o=false /\ ∀s∈R,s.1≠k
theorem OkRs.nil:OkRs ops []:=⟨fun h=>absurd rfl h,by simp,by simp⟩
theorem yEC{ns:List Nat}:∀ {l:List Nat} {r:Nat×List Nat},r∈xQK ops ns l->r.1∈l/\r.2=(List.range ops.size).filter (hardK ops ns r.1)
 | [],r,h=>by cases h
 | i::l,r,h=>by
  rcases List.mem_cons.1 h with rfl|h
  ·exact⟨List.mem_cons_self,rfl⟩
  ·exact⟨List.mem_cons_of_mem _ (yEC h).1,(yEC h).2⟩
theorem OkRs.reads:OkRs ops (xIG ops):=by
 unfold xIG;split
 ·rename_i hs;refine⟨fun _=>hs,fun r hr=>(List.mem_filter.1 (yEC hr).1).2,fun r hr k hk=>?_⟩;rw[(yEC hr).2] at hk
  have:=(List.mem_filter.1 hk).2
  unfold hardK at this;split at this
  ·rename_i o ho;simp only[baZ,Bool.not_eq_true'] at this;refine⟨o,ho,this.1.1,this.2,fun s hs e=>?_⟩;have h1:=(yEC hs).1;rw[e] at h1;have h2:=this.1.2;rw[List.contains_eq_mem,decide_eq_false_iff_not] at h2;exact h2 h1
  ·cases this
 ·exact OkRs.nil
theorem xEG{i:Nat}{oi:Oper}(hi:ops[i]? = some oi)(h:okR ops i=true):oi.guard=none /\ ∃d,oi.dst=some d/\d∉oi.looksAt ops /\ ∀j oj,ops[j]? = some oj->j≠i ->
  oj.dst≠some d/\(d∈oj.looksAt ops->xKC oj i=true) /\ ∀e,oj.dst=some e->e∈oi.looksAt ops->xKC oi j=true:=by
 unfold okR at h;rw[hi] at h;simp only[baZ] at h;obtain⟨h1,h2⟩:=h;refine⟨?_,?_⟩
 ·unfold readK at h1;rw[baZ] at h1;simpa using h1.2
 ·split at h2
  ·rename_i d hd;simp only[baZ,Bool.not_eq_true',List.contains_eq_mem,decide_eq_false_iff_not,List.all_eq_true,List.mem_range] at h2;refine⟨d,hd,h2.1,fun j oj hj hne=>?_⟩;have h3:=h2.2 j (Array.getElem?_eq_some_iff.1 hj).1;unfold okRj at h3;rw[hj] at h3;simp only[Bool.or_eq_true,beq_iff_eq,hne,false_or,baZ,bne_iff_ne,ne_eq,Bool.not_eq_true',List.contains_eq_mem,decide_eq_false_iff_not] at h3;refine⟨h3.1.1,fun hm=>h3.1.2.resolve_left (fun k=>k hm),fun e he hm=>?_⟩;have h4:=h3.2;rw[he] at h4;simp only[Bool.or_eq_true,Bool.not_eq_true',List.contains_eq_mem,decide_eq_false_iff_not] at h4;exact h4.resolve_left (fun k=>k hm)
  ·cases h2
theorem InvR.drop(hR:OkRs ops R){L:Array Bool}(hc:zRC ops L){i:Nat}{oi:Oper}{d:Nat}{v:Value}(hi:ops[i]? = some oi)(hd:oi.dst=some d)(hr:L.getD i true=false)
  (hsoft:∀r∈R,i∉r.2) {a:Act} {w:World} (h:InvR P ops R (L.setIfInBounds i true) (a.put (some d) v) w):InvR P ops R L a w:=by
 intro r hrR hrL hh o ho;have hri:r.1≠i:=fun e=>by rw[e,qHC hr] at hrL;cases hrL
 obtain⟨d',v',e1,e2,e3⟩:=h r hrR (getD_set_true hrL) (fun k hk=>by
  have:i≠k:=fun e=>hsoft r hrR (e▸hk)
  rw[getD_set_ne false this];exact hh k hk) o ho
 obtain⟨hg,d2,f1,f2,f3⟩:=xEG ho (hR.ok r hrR);rw[e1] at f1;cases f1
 obtain⟨g1,g2,g3⟩:=f3 i oi hi (Ne.symm hri);have hna:d∉o.looksAt ops:=fun hm=>by
  have:=g3 d hd hm
  rw[hc.no_after (qHC hr) ho hrL] at this;cases this
 refine⟨d',v',e1,?_,?_⟩
 ·rw[yIB] at e2
  have:d'≠d:=fun e=>g1 (by rw[hd,e])
  simpa[this] using e2
 ·rw[execOp_put (ops:=ops) o (fun cs b=>Region.noSelect_spec (hR.ns (List.ne_nil_of_mem hrR)) r.1 o cs b ho) a (some d) v (fun x hx=>by cases hx;exact hna)] at e3;exact e3
def xYH(o:Oper)(v:Value):Oper:={ o with op:=.move (.const v),guard:=none }
theorem xZH{o:Oper}{v:Value}:(xYH o v).looksAt ops=[]:=by
 simp[xYH,Oper.looksAt,Op.operands]
theorem qKG{o:Oper}{v:Value}{a:Act}:Yields P ops (xYH o v) v a:=.inl ⟨rfl,fun w=>rfl⟩
theorem takeR(hR:OkRs ops R)(hQ:∀c a w,¬Q (.panic c) a w){r:Nat×List Nat}(hrR:r∈R){oi:Oper}{v:Value}(hi:ops[r.1]? = some oi) :
  ∀(n:Nat) (L:Array Bool) (a:Act) (w:World),zRC ops L->r.1∈Region.ready .any ops L->(execOp a.eval oi).run P w = .ok (.value v) w->InvR P ops R L a w ->
   xAB P ops Q R n (L.setIfInBounds r.1 true) (a.put oi.dst v) w->xAB P ops Q R (n+1) L a w:=by
 obtain⟨hg,d,hd,hself,hoth⟩:=xEG hi (hR.ok r hrR);have hns:=Region.noSelect_spec (hR.ns (List.ne_nil_of_mem hrR));have hsoft:∀s∈R,r.1∉s.2:=fun s hs hk=>by
  obtain⟨_,_,_,_,h4⟩:=hR.hard s hs r.1 hk;exact h4 r hrR rfl
 have first:∀ {K:Act->World->Prop} {a:Act} {w:World},(execOp a.eval oi).run P w = .ok (.value v) w->K (a.put oi.dst v) w->wpOp P ops Q r.1 K a w:=fun {K a w} hrun hk=>by
  unfold wpOp;rw[hi];simp only[Region.wanted,hg,if_true,Oper.wp,hrun,Oper.upon];exact .inl hk
 intro n
 induction n with
 | zero =>
  intro L a w hc hr hrun hI H;refine⟨hI,fun h=>(by rw[h] at hr;cases hr),fun j hj=>?_⟩;by_cases hji:j=r.1
  ·subst hji;exact first hrun H
  ·have:=ready_mono hj hji
   rw[H.2.1] at this;cases this
 | succ n ih =>
  intro L a w hc hr hrun hI H;refine⟨hI,fun h=>(by rw[h] at hr;cases hr),fun j hj=>?_⟩;by_cases hji:j=r.1
  ·subst hji;exact first hrun H
  ·have h1:=H.2.2 j (ready_mono hj hji);obtain⟨hjun,oj,hoj,hall⟩:=mem_ready.1 hj;have hir:=(mem_ready.1 hr).1;have hcj:=hc.set hj;have hrj:=ready_mono hr (Ne.symm hji);have hjnot:xKC oj r.1=false:=by
    cases h:xKC oj r.1
    ·rfl
    ·obtain⟨e,he,hb,heq⟩:=qAE.1 h
     have:=hall e he hb
     rw[heq,qHC hir] at this;cases this
   obtain⟨g1,g2,g3⟩:=hoth j oj hoj hji;have hap:(xYH oi v).apart ops oj=true:=by
    simp only[Oper.apart,xZH];have e0:(xYH oi v).dst=some d:=hd;rw[e0];have e1:(oj.looksAt ops).contains d=false:=by
     rw[List.contains_eq_mem,decide_eq_false_iff_not];exact fun hm=>by rw[g2 hm] at hjnot;cases hjnot
    have e2:(oj.dst != some d)=true:=by simpa using g1
    simp only[e1,e2];cases oj.dst <;> simp
   have h2:=wpOp_put (oi:=xYH oi v) (v:=v) hoj hap (fun cs b=>by simp[xYH]) (fun cs b=>hns j oj cs b hoj) (fun c a' w' hq=>absurd hq (hQ c _ w')) qKG h1;refine wpOp_mono (fun a' w' h3=>?_) h2;have h4:xAB P ops Q R n ((L.setIfInBounds j true).setIfInBounds r.1 true) (a'.put oi.dst v) w':=by
    rw[Array.setIfInBounds_comm _ _ hji];exact h3.2
   have hI':=h4.inv;rw[hd] at hI';have hrun':(execOp a'.eval oi).run P w' = .ok (.value v) w':=by
    obtain⟨d',v',k1,k2,k3⟩:=hI' r hrR (yRG (mem_ready.1 hrj).1) (fun k hk=>by
     obtain⟨ok,hok,hk2,_,hk4⟩:=hR.hard r hrR k hk;rw[getD_set_ne false (hk4 r hrR)];cases hkl:(L.setIfInBounds j true).getD k false
     ·rfl
     ·rw[hcj.no_after (qHC (mem_ready.1 hrj).1) hok hkl] at hk2;cases hk2) oi hi
    rw[hd] at k1;cases k1
    rw[execOp_put (ops:=ops) oi (fun cs b=>hns r.1 oi cs b hi) a' (some d) v (fun x hx=>by cases hx;exact hself)] at k3;rw[yIB] at k2;split at k2
    ·cases k2;exact k3
    ·rename_i hlt;simp only[true_and] at hlt;rw[Array.getElem?_eq_none (by omega)] at k2;cases k2
   exact ih (L.setIfInBounds j true) a' w' hcj hrj hrun' (hI'.drop hR hcj hi hd (mem_ready.1 hrj).1 hsoft) h4
theorem takeQ(hR:OkRs ops R)(hQ:∀c a w,¬Q (.panic c) a w)(hns:Region.noSelect ops=true){i:Nat}{oi:Oper}{v:Value}(hi:ops[i]? = some oi)(hq:zYE oi=true) :
  ∀(n:Nat) (L:Array Bool) (a:Act) (w:World),zRC ops L->Region.free .any ops L i=true->i∈Region.ready .any ops L->Yields P ops oi v a->InvR P ops R L a w ->
   xAB P ops Q R n (L.setIfInBounds i true) (a.put oi.dst v) w->xAB P ops Q R (n+1) L a w:=by
 have hsel:=Region.noSelect_spec hns;have hsoft:∀s∈R,i∉s.2:=fun s hs hk=>by
  obtain⟨o,h1,_,h3,_⟩:=hR.hard s hs i hk;rw[hi] at h1;cases h1
  rw[hq] at h3;cases h3
 suffices main:∀(n:Nat) (L:Array Bool) (a:Act) (w:World),zRC ops L ->
   (∀j oj,ops[j]? = some oj->j≠i->L.getD j true=false->(∀e∈oj.after,Region.binds .any e=true->e.on≠i)->oi.apart ops oj=true)->i∈Region.ready .any ops L->Yields P ops oi v a->InvR P ops R L a w ->
   xAB P ops Q R n (L.setIfInBounds i true) (a.put oi.dst v) w->xAB P ops Q R (n+1) L a w from
  fun n L a w hc hf=>main n L a w hc (Region.free_spec hi hf)
 intro n
 induction n with
 | zero =>
  intro L a w hc hf hr hy hI H;refine⟨hI,fun h=>(by rw[h] at hr;cases hr),fun j hj=>?_⟩;by_cases hji:j=i
  ·subst hji;exact hy.wpOp hi H
  ·have:=ready_mono hj hji
   rw[H.2.1] at this;cases this
 | succ n ih =>
  intro L a w hc hf hr hy hI H;refine⟨hI,fun h=>(by rw[h] at hr;cases hr),fun j hj=>?_⟩;by_cases hji:j=i
  ·subst hji;exact hy.wpOp hi H
  ·have h1:=H.2.2 j (ready_mono hj hji);obtain⟨hjun,oj,hoj,hall⟩:=mem_ready.1 hj;have hir:=(mem_ready.1 hr).1;have hcj:=hc.set hj;have hrj:=ready_mono hr (Ne.symm hji);have hnot:∀e∈oj.after,Region.binds .any e=true->e.on≠i:=fun e he hb heq=>by
    have:=hall e he hb
    rw[heq,qHC hir] at this;cases this
   have h2:=wpOp_put hoj (hf j oj hoj hji hjun hnot) (fun cs b=>hsel i oi cs b hi) (fun cs b=>hsel j oj cs b hoj) (fun c a' w' hq=>absurd hq (hQ c _ w')) hy h1;have hf':∀k ok,ops[k]? = some ok->k≠i->(L.setIfInBounds j true).getD k true=false ->
     (∀e∈ok.after,Region.binds .any e=true->e.on≠i)->oi.apart ops ok=true:=fun k ok hk hki hun hno=>by
    refine hf k ok hk hki ?_ hno;by_cases hjk:j=k
    ·subst hjk;exact hjun
    ·rw[getD_set_ne true hjk] at hun;exact hun
   refine wpOp_mono (fun a' w' h3=>?_) h2;have h4:xAB P ops Q R n ((L.setIfInBounds j true).setIfInBounds i true) (a'.put oi.dst v) w':=by
    rw[Array.setIfInBounds_comm _ _ hji];exact h3.2
   refine ih (L.setIfInBounds j true) a' w' hcj hf' hrj h3.1 ?_ h4;cases hd:oi.dst with
   | none =>
    have hI':=h4.inv;rw[hd] at hI';intro s hs hsL hh o ho;exact hI' s hs (getD_set_true hsL) (fun k hk=>by
     have:i≠k:=fun e=>hsoft s hs (e▸hk)
     rw[getD_set_ne false this];exact hh k hk) o ho
   | some d =>
    have hI':=h4.inv;rw[hd] at hI';exact hI'.drop hR hcj hi hd (mem_ready.1 hrj).1 hsoft
end
end Go.Dx
namespace Go.Dx
open Go
mutual
theorem Ob.beq_eq:∀ {a b:Ob},Ob.beq a b=true->a=b
 | .room d n,b,h=>by
  cases b <;> simp only[Ob.beq,bfZ,baZ,beq_iff_eq] at h
  rw[DE.beq_eq h.1,h.2]
 | .cap d n,b,h=>by
  cases b <;> simp only[Ob.beq,bfZ,baZ,beq_iff_eq] at h
  rw[DE.beq_eq h.1,h.2]
 | .nz d,b,h=>by
  cases b <;> simp only[Ob.beq,bfZ] at h
  rw[DE.beq_eq h]
 | .ge0 d,b,h=>by
  cases b <;> simp only[Ob.beq,bfZ] at h
  rw[DE.beq_eq h]
 | .term lv go i bs,b,h=>by
  cases b <;> simp only[Ob.beq,bfZ,baZ,beq_iff_eq] at h
  rw[h.1.1.1,DE.beq_eq h.1.1.2,xBA h.1.2,xBA h.2]
 | .defn n lv go i bs,b,h=>by
  cases b <;> simp only[Ob.beq,bfZ,baZ,beq_iff_eq] at h
  rw[h.1.1.1.1,h.1.1.1.2,DE.beq_eq h.1.1.2,xBA h.1.2,xBA h.2]
 | .idx d e x,b,h=>by
  cases b <;> simp only[Ob.beq,bfZ,baZ,beq_iff_eq] at h
  rw[DE.beq_eq h.1.1,DE.beq_eq h.1.2,h.2]
 | .pre n l,b,h=>by
  cases b <;> simp only[Ob.beq,bfZ,baZ,beq_iff_eq] at h
  rw[h.1,xBA h.2]
 | .all s i bs o,b,h=>by
  cases b <;> simp only[Ob.beq,bfZ,baZ] at h
  rw[DE.beq_eq h.1.1.1,xBA h.1.1.2,xBA h.1.2,zVB h.2]
 | .when c x o,b,h=>by
  cases b <;> simp only[Ob.beq,bfZ,baZ,beq_iff_eq] at h
  rw[DE.beq_eq h.1.1,h.1.2,zVB h.2]
theorem zVB:∀ {a b:List Ob},yAC a b=true->a=b
 | [],b,h=>by cases b <;> simp_all [yAC]
 | x::xs,b,h=>by
  cases b with
  | nil=>simp[yAC] at h
  | cons y ys =>
   simp only[yAC,baZ] at h;rw[Ob.beq_eq h.1,zVB h.2]
end
theorem qMD:∀ {a b:List Lp},yWE a b=true->a=b
 | [],b,h=>by cases b <;> simp_all [yWE]
 | x::xs,b,h=>by
  cases b with
  | nil=>simp[yWE] at h
  | cons y ys =>
   simp only[yWE,baZ,beq_iff_eq] at h;obtain⟨r,s,e,l⟩:=x;obtain⟨r',s',e',l'⟩:=y;simp only at h;rw[h.1.1.1.1,SV.beq_eq h.1.1.1.2,h.1.1.2,h.1.2,qMD h.2]
section
variable {P:Program} {X:Nat->List D->D} {Pre:Nat->List D->Prop} {w0:Base} {J:List D} {st:St} {g:Gh} {w:World} {a:Act}
theorem Mem.weaken(h:Mem P X w0 J st g w){m:St}(hlv:m.lvl=st.lvl)(hlp:∀l∈m.loops,l∈st.loops)
  (hv:∀n vi,lk n m.vars=some vi->vi.vt = .dead ∨ ∃vj,lk n st.vars=some vj/\vj.vt=vi.vt/\vj.de.eval X J=vi.de.eval X J)
  (ho:∀o cs,lk o m.objs=some cs -> ∃cs',lk o st.objs=some cs'/\dens X J g cs'=dens X J g cs/\oks X J cs):Mem P X w0 J m g w:=by
 have hact:∀b,Actv m g b->Actv st g b:=by
  rintro b (⟨o,cs,h1,h2⟩|⟨n,vi,h1,h2⟩)
  ·obtain⟨cs',h3,_⟩:=ho o cs h1;exact .inl ⟨o,cs',h3,h2⟩
  ·rcases hv n vi h1 with hd|⟨vj,h3,h4,_⟩
   ·rw[hd] at h2;simp[zFA] at h2
   ·exact .inr ⟨n,vj,h3,by rw[h4];exact h2⟩
 refine⟨?_,?_,?_,?_,?_,fun b hb=>h.lo b (hact b hb),fun l hl=>h.lp l (hlp l hl),h.fr,by rw[hlv];exact h.lv,h.ex,h.gl⟩
 ·intro n vi hn;rcases hv n vi hn with hd|⟨vj,h3,h4,h5⟩
  ·rw[hd];trivial
  ·rw[<- h4,<- h5];exact(h.va n vj h3).mono (fun b hb=>⟨hb.1,fun e=>hb.2.1 (hact b e),hb.2.2⟩) (fun _ _=>rfl) (fun _ _=>rfl)
 ·intro o cs hc;obtain⟨cs',h1,h2,h3⟩:=ho o cs hc;obtain⟨h4,h5,h6⟩:=h.ob o cs' h1;rw[h2] at h4 h5;exact⟨h4,h5,h3⟩
 ·intro o o' c c' h1 h2;obtain⟨c1,h3,_⟩:=ho o c h1;obtain⟨c2,h4,_⟩:=ho o' c' h2;exact h.oo o o' c1 c2 h3 h4
 ·intro n m' vi vj b h1 h2 h3 h4;rcases hv n vi h1 with hd|⟨vi',h5,h6,_⟩
  ·rw[hd] at h3;simp[zFA] at h3
  ·rcases hv m' vj h2 with hd|⟨vj',h7,h8,_⟩
   ·rw[hd] at h4;simp[zFA] at h4
   ·exact h.vv n m' vi' vj' b h5 h7 (by rw[h6];exact h3) (by rw[h8];exact h4)
 ·intro o n c vi h1 h2;obtain⟨c1,h3,_⟩:=ho o c h1;rcases hv n vi h2 with hd|⟨vi',h5,h6,_⟩
  ·rw[hd];simp[zFA]
  ·rw[<- h6];exact h.ov o n c1 vi' h3 h5
theorem zEF{s t:St}(hl:leS s t=true)(h:Mem P X w0 J s g w)(he:Env X J s g a):Mem P X w0 J t g w/\Env X J t g a/\Ext s g t g:=by
 simp only[leS,baZ,List.all_eq_true,beq_iff_eq] at hl;obtain⟨⟨⟨⟨⟨⟨⟨⟨h1,h2⟩,h3⟩,h4⟩,h5⟩,h6⟩,h7⟩,h8⟩,h9⟩:=hl;have h6':=qMD h6;refine⟨h.weaken h7.symm (fun l hl=>by rw[h6'];exact hl) (fun n vi hn=>?_) (fun o cs ho=>?_),⟨fun k sv hk=>?_,he.df,he.sz.trans h8⟩,Ext.keys (fun n vi hn=>?_) (fun o cs ho=>?_)⟩
 ·have:=h2 _ (zBB hn)
  simp only at this;split at this
  ·rename_i v hv;simp only[baZ,dtZ] at this;exact .inr ⟨v,hv,this.1,by rw[DE.beq_eq this.2]⟩
  ·cases this
 ·have:=h4 _ (zBB ho)
  simp only at this;split at this
  ·rename_i v hv;have e:=zBD this;subst e;exact⟨v,hv,rfl,(h.ob o v hv).2.2⟩
  ·cases this
 ·have:=h1 _ (zBB hk)
  simp only at this;split at this
  ·rename_i v hv;have e:=SV.beq_eq this;subst e;exact he.tm k v hv
  ·cases this
 ·exact Option.isSome_iff_exists.1 (h3 _ (zBB hn))
 ·exact Option.isSome_iff_exists.1 (h5 _ (zBB ho))
theorem leS_obl{s t:St}(hl:leS s t=true):∀o∈s.obl,o∈t.obl:=by
 simp only[leS,baZ,List.all_eq_true,beq_iff_eq] at hl;intro o ho
 have:=hl.2 o ho
 simp only[List.any_eq_true] at this;obtain⟨o',h1,h2⟩:=this;rw[Ob.beq_eq h2];exact h1
def yKE(s t:St):Prop:=s=t∨leS s t=true
theorem yKE.obl{s t:St}(h:yKE s t):∀o∈s.obl,o∈t.obl:=by
 rcases h with rfl|h
 ·exact fun o ho=>ho
 ·exact leS_obl h
theorem yKE.mem{s t:St}(hl:yKE s t)(h:Mem P X w0 J s g w)(he:Env X J s g a):Mem P X w0 J t g w/\Env X J t g a/\Ext s g t g:=by
 rcases hl with rfl|hl
 ·exact⟨h,he,Ext.refl s g⟩
 ·exact zEF hl h he
theorem xZI:∀ {p q:Pc},yOJ p q=true->p=q
 | [],q,h=>by cases q <;> simp_all [yOJ]
 | (d,e,b)::p,q,h=>by
  cases q with
  | nil=>simp[yOJ] at h
  | cons x q =>
   obtain⟨d',e',b'⟩:=x;simp only[yOJ,baZ,beq_iff_eq] at h;rw[h.1.1.1,DE.beq_eq h.1.1.2,h.1.2,xZI h.2]
theorem xZG{m:List Bool}{pc:Pc}{s:St}:∀ {l l':List (List Bool×Pc×St)},addL m pc s l=some l'->(∀p∈l,p∈l') /\ ∃t,(m,pc,t)∈l'/\yKE s t
 | [],l',h=>by simp only[addL,Option.some.injEq] at h;subst h;exact⟨by simp,s,by simp,.inl rfl⟩
 | p::r,l',h=>by
  simp only[addL] at h;split at h
  ·rename_i hm;rw[baZ,baZ,beq_iff_eq] at hm;split at h
   ·rename_i hle;cases h;refine⟨fun q hq=>hq,p.2.2,?_,.inr hle⟩;rw[hm.1.1,xZI hm.1.2];simp
   ·cases h
  ·split at h
   ·rename_i r' hr;cases h;obtain⟨h1,t,h2,h3⟩:=xZG hr;refine⟨fun q hq=>?_,t,List.mem_cons_of_mem _ h2,h3⟩;rcases List.mem_cons.1 hq with rfl|hq
    ·simp
    ·exact List.mem_cons_of_mem _ (h1 q hq)
   ·cases h
theorem xVF{m:List Bool}:∀ {ps:List (Pc×St)} {l l':List (List Bool×Pc×St)},xWJ m ps l=some l'->(∀p∈l,p∈l') /\ ∀q∈ps,∃t,(m,q.1,t)∈l'/\yKE q.2 t
 | [],l,l',h=>by simp only[xWJ,Option.some.injEq] at h;subst h;exact⟨fun p hp=>hp,by simp⟩
 | p::ps,l,l',h=>by
  simp only[xWJ] at h;split at h
  ·rename_i acc' h1;obtain⟨k1,t,k2,k3⟩:=xZG h1;obtain⟨m1,m2⟩:=xVF h;refine⟨fun q hq=>m1 q (k1 q hq),fun q hq=>?_⟩;rcases List.mem_cons.1 hq with rfl|hq
   ·exact⟨t,m1 _ k2,k3⟩
   ·exact m2 q hq
  ·cases h
theorem zQF{C:Cfg}{callF:CallF}{ops:Array Oper}{base big:Nat}{m:List Bool}{pc:Pc}{s:St}:∀ {is:List Nat} {l l':List (List Bool×Pc×St)},zJH C callF ops base big m pc s is l=some l' ->
  (∀p∈l,p∈l') /\ ∀i∈is,∃o s',ops[i]? = some o/\xHE C callF ops s (base+i*big) o=some s' /\ ∀q∈yXB ops (Region.ready .any ops (m.set i true).toArray) 6 pc s',∃t,(m.set i true,q.1,t)∈l'/\yKE q.2 t
 | [],l,l',h=>by simp only[zJH,Option.some.injEq] at h;subst h;exact⟨fun p hp=>hp,by simp⟩
 | i::is,l,l',h=>by
  simp only[zJH,qUD] at h;split at h
  ·cases h
  ·rename_i o ho;split at h
   ·cases h
   ·rename_i s' hs;split at h
    ·cases h
    ·rename_i acc' ha;obtain⟨h1,h2⟩:=xVF ha;obtain⟨k1,k2⟩:=zQF h;refine⟨fun p hp=>k1 p (h1 p hp),fun j hj=>?_⟩;rcases List.mem_cons.1 hj with rfl|hj
     ·exact⟨o,s',ho,hs,fun q hq=>by
       obtain⟨t,e1,e2⟩:=h2 q hq;exact⟨t,k1 _ e1,e2⟩⟩
     ·exact k2 j hj
theorem zWE(P:Program)(ops:Array Oper)(R:List (Nat×List Nat))(m:List Bool)(st:St)(rs:List Nat):xGG P ops R m st rs=rs∨(∃i∈rs,xGG P ops R m st rs=[i]/\Region.noSelect ops=true/\zDI ops m i=true) ∨
  ∃i∈rs,xGG P ops R m st rs=[i] /\ ∃r∈R,r.1=i /\ ∃o v,ops[i]? = some o/\xJK P st o=some v:=by
 unfold xGG;split
 ·rename_i i hi;split
  ·rename_i hs;exact .inr (.inl ⟨i,List.mem_of_find?_eq_some hi,rfl,hs,List.find?_some hi⟩)
  ·exact .inl rfl
 ·split
  ·rename_i i hi;refine .inr (.inr ⟨i,List.mem_of_find?_eq_some hi,rfl,?_⟩)
   have:=List.find?_some hi
   unfold readAt at this;rw[baZ,List.any_eq_true] at this;obtain⟨⟨r,hr,h1⟩,h2⟩:=this;refine⟨r,hr,by simpa using h1,?_⟩;split at h2
   ·rename_i o ho;obtain⟨v,hv⟩:=Option.isSome_iff_exists.1 h2;exact⟨o,v,ho,hv⟩
   ·cases h2
  ·exact .inl rfl
theorem pickR_ne{ops:Array Oper}{R:List (Nat×List Nat)}{m:List Bool}{st:St}{rs:List Nat}(h:rs≠[]):xGG P ops R m st rs≠[]:=by
 rcases zWE P ops R m st rs with e|⟨i,_,e,_⟩|⟨i,_,e,_⟩
 ·rw[e];exact h
 ·rw[e];simp
 ·rw[e];simp
theorem zQH{C:Cfg}{callF:CallF}{ops:Array Oper}{n:Nat}{o:Oper}{st st':St}{g:Gh}{a:Act}{w:World}(hmem:Mem C.P X w0 J st g w)(he:Env X J st g a)(hop:xHE C callF ops st n o=some st')(hq:zYE o=true):Region.wanted o (yielded ops a.tmps)=false ∨ ∃v,Region.wanted o (yielded ops a.tmps)=true /\ ∀w,(execOp a.eval o).run C.P w = .ok (.value v) w:=by
 unfold zYE at hq;unfold xHE at hop;split at hop
 rotate_left
 ·rename_i hgo;exact .inl (qGD he hgo)
 ·cases hop
 rename_i hgo;have hw:Region.wanted o (yielded ops a.tmps)=true:=qGD he hgo;refine .inr ?_;split at hop
 rotate_left
 ·cases hop
 rename_i v st1 h1;obtain⟨dst,op,type,pos,after,guard⟩:=o;cases op <;> simp only[bfZ] at hq
 case move x=>exact⟨_,hw,fun w=>rfl⟩
 case call c =>
  obtain⟨callee,cargs,ats⟩:=c;cases callee with
  | value f=>simp[isLen] at hq
  | invoke r m=>simp[isLen] at hq
  | builtin bi =>
   cases bi <;> simp[isLen] at hq
   simp only[opS] at h1;simp only[Option.bind_eq_bind,Option.bind_eq_some_iff] at h1;obtain⟨as,has,h1⟩:=h1;have hm0:Mem C.P X w0 J { st with obl:=[] } g w:=hmem.same rfl rfl rfl rfl;have he0:Env X J { st with obl:=[] } g a:=he.of_env rfl rfl;obtain⟨k1,k2⟩:=qLA he0 has;split at h1
   ·rename_i x t hts;have hats:ats = #[t]:=by apply Array.ext';simpa using hts
    have hargs:cargs.map a.eval = #[x.den X J g]:=by apply Array.ext';simpa[dens] using k1
    split at h1
    ·rename_i kd hkd;split at h1
     ·rename_i hk;cases h1;refine⟨(SV.i .i64 (mkf .len [kd.2])).den X J g,hw,fun w2=>?_⟩;have k3:=(lenS_any hm0 (k:=kd.1) (d:=kd.2) k2.1 hkd hk.1 hk.2 type w2).1;simp only[execOp,resolve,Sem.run_bind,Sem.run_pure,Result.andThen_ok,invoke,builtin,hats,hargs,k3]
     ·cases h1
    ·obtain⟨r,hr,hrv⟩:=Option.map_eq_some_iff.1 h1;simp only[Prod.mk.injEq] at hrv;obtain⟨hrv,_⟩:=hrv;subst hrv;refine⟨r.den X J g,hw,fun w2=>?_⟩;have k3:=(xMI hm0 hr type w2).1;simp only[execOp,resolve,Sem.run_bind,Sem.run_pure,Result.andThen_ok,invoke,builtin,hats,hargs,k3]
   ·cases h1
 case fieldAddr t x f =>
  simp only[opS,Option.bind_eq_bind,Option.bind_eq_some_iff] at h1;obtain⟨ft,hft,q,hq',h1⟩:=h1;have hc:=yIA he hq';have main:∀b o,a.eval x = .pointer (some ⟨b,o,none⟩) -> ∃v,∀w,(execOp a.eval ⟨dst,.fieldAddr t x f,type,pos,after,guard⟩).run C.P w = .ok (.value v) w:=fun b o hbo =>
   ⟨_,fun w=>yFA (by rw[hbo];exact qYB (off:=ft.1) (t:=ft.2) hft b o w)⟩
  have fin:∀b o,a.eval x = .pointer (some ⟨b,o,none⟩) -> ∃v,Region.wanted ⟨dst,.fieldAddr t x f,type,pos,after,guard⟩ (yielded ops a.tmps)=true /\ ∀w,(execOp a.eval ⟨dst,.fieldAddr t x f,type,pos,after,guard⟩).run C.P w = .ok (.value v) w:=fun b o hbo=>by
   obtain⟨v,hv⟩:=main b o hbo;exact⟨v,hw,hv⟩
  split at h1
  ·exact fin _ _ (by rw[hc];rfl)
  ·exact fin _ _ (by rw[hc];rfl)
  ·rename_i m e off sz;obtain⟨b,o,hbo⟩:=zJD (g.rv m);exact fin _ _ (by rw[hc];simp only[SV.den,hbo];rfl)
  ·cases h1
theorem zTE{C:Cfg}{callF:CallF}{ops:Array Oper}{base big:Nat}{R:List (Nat×List Nat)}:∀ {l acc l':List (List Bool×Pc×St)},yRK C callF ops base big R l acc=some l' ->
  (∀p∈acc,p∈l') /\ ∀p∈l,Region.ready .any ops p.1.toArray≠[]/\chkR C.P ops R p.1 p.2.2=true /\ ∀i∈xGG C.P ops R p.1 p.2.2 (Region.ready .any ops p.1.toArray),∃o s',ops[i]? = some o/\xHE C callF ops p.2.2 (base+i*big) o=some s' /\
   ∀q∈yXB ops (Region.ready .any ops (p.1.set i true).toArray) 6 p.2.1 s',∃t,(p.1.set i true,q.1,t)∈l'/\yKE q.2 t
 | [],acc,l',h=>by simp only[yRK,Option.some.injEq] at h;subst h;exact⟨fun p hp=>hp,by simp⟩
 | p::r,acc,l',h=>by
  simp only[yRK,qUD] at h;split at h
  ·cases h
  ·rename_i hne;rw[Bool.or_eq_true,not_or] at hne;split at h
   ·cases h
   ·rename_i acc' ha;obtain⟨h1,h2⟩:=zQF ha;obtain⟨k1,k2⟩:=zTE h;refine⟨fun q hq=>k1 q (h1 q hq),fun q hq=>?_⟩;rcases List.mem_cons.1 hq with rfl|hq
    ·refine⟨fun e=>hne.1 (by rw[e];rfl),by simpa using hne.2,fun i hi=>?_⟩;obtain⟨o,s',e1,e2,e3⟩:=h2 i hi;exact⟨o,s',e1,e2,fun x hx=>by
      obtain⟨t,f1,f2⟩:=e3 x hx;exact⟨t,k1 _ f1,f2⟩⟩
    ·exact k2 q hq
theorem zKE{P:Program}{ops:Array Oper}{R:List (Nat×List Nat)}:∀ {l:List (List Bool×Pc×St)} {ps:List (Pc×St)},doneL P ops R l=some ps -> ∀p∈l,Region.ready .any ops p.1.toArray=[]/\chkR P ops R p.1 p.2.2=true/\p.2∈ps
 | [],_,_,p,hp=>by cases hp
 | q::l,ps,h,p,hp=>by
  simp only[doneL,qUD] at h;split at h
  ·rename_i r' hr;split at h
   ·rename_i he;rw[baZ] at he;cases h;rcases List.mem_cons.1 hp with rfl|hp
    ·exact⟨by simpa using he.1,he.2,by simp⟩
    ·obtain⟨k1,k2,k3⟩:=zKE hr p hp;exact⟨k1,k2,List.mem_cons_of_mem _ k3⟩
   ·cases h
  ·cases h
theorem yLD{C:Cfg}{callF:CallF}{ops:Array Oper}{base big:Nat}{R:List (Nat×List Nat)}(X:Nat->List D->D)(J:List D):∀ {n:Nat} {l:List (List Bool×Pc×St)} {ps:List (Pc×St)},yJB C callF ops base big R n l=some ps -> ∀p∈l,PcH X J p.2.1 ->
  ∃q∈ps,PcH X J q.1 /\ ∀o∈p.2.2.obl,o∈q.2.obl
 | 0,l,ps,h,p,hp,hpc=>⟨p.2,(zKE h p hp).2.2,hpc,fun o ho=>ho⟩
 | n+1,l,ps,h,p,hp,hpc=>by
  simp only[yJB] at h;split at h
  ·cases h
  ·rename_i l' hl;have hs:=(zTE hl).2;obtain⟨hne,_,hall⟩:=hs p hp;obtain⟨i,hi⟩:=List.exists_mem_of_ne_nil _ (pickR_ne (P:=C.P) (R:=R) (m:=p.1) (st:=p.2.2) hne);obtain⟨op,s',e1,e2,e3⟩:=hall i hi;obtain⟨q,eq⟩:=zMH e2;obtain⟨x,hx,k1,k2⟩:=zAC (ops:=ops) (is:=Region.ready .any ops (p.1.set i true).toArray) X J (n:=6) (pc:=p.2.1) (st:=s') hpc;obtain⟨t,f1,f2⟩:=e3 x hx;obtain⟨y,m1,m2,m3⟩:=yLD X J h _ f1 k1;exact⟨y,m1,m2,fun o ho=>m3 o (f2.obl o (by rw[k2,eq];exact List.mem_append_right _ ho))⟩
theorem yEF{C:Cfg}{callF:CallF}{ops:Array Oper}{base big n:Nat}{l:List (List Bool×Pc×St)}{ps:List (Pc×St)}(h:qTC C callF ops base big n l=some ps):∃R,(R=xIG ops∨R=[])/\yJB C callF ops base big R n l=some ps:=by
 unfold qTC at h;split at h
 ·rename_i ps' h1;cases h;exact⟨_,.inl rfl,h1⟩
 ·exact⟨_,.inr rfl,h⟩
theorem yQG(m:List Bool)(i:Nat)(d:Bool):m.toArray.getD i d=m.getD i d:=by
 simp
theorem yNI{ops:Array Oper}{R:List (Nat×List Nat)}{m:List Bool}(hm:Mem P X w0 J st g w)(he:Env X J st g a)(h:chkR P ops R m st=true):InvR P ops R m.toArray a w:=by
 intro r hr hL hh o ho;have h1:=List.all_eq_true.1 h r hr;unfold chk1 at h1;rw[yQG] at hL;rw[hL,ho] at h1;simp only[Bool.not_true,Bool.false_or,Bool.or_eq_true,List.any_eq_true] at h1;rcases h1 with⟨k,hk,h2⟩|h1
 ·have:=hh k hk
  rw[yQG,h2] at this;cases this
 ·split at h1
  ·rename_i v d hv hd;split at h1
   ·rename_i v' hv';have e:=SV.beq_eq h1;subst e;exact⟨d,_,hd,(he.tm d v hv').1,yBF hm he hv⟩
   ·cases h1
  ·cases h1
theorem xQC{C:Cfg}{callF:CallF}(hnm:yWA C.P)(hcall:xSC C.P X Pre (qVA C callF)){ops:Array Oper}{base big:Nat}{R:List (Nat×List Nat)}(hR:OkRs ops R){Q:Exit->Act->World->Prop}(hQp:∀c a w,¬Q (.panic c) a w) :
  ∀ {n:Nat} {l:List (List Bool×Pc×St)} {ps:List (Pc×St)},yJB C callF ops base big R n l=some ps->(∀q∈ps,PcH X J q.1->zCA X Pre q.2.obl J) ->
   ∀p∈l,zRC ops p.1.toArray->PcH X J p.2.1 -> ∀(g:Gh) (w:World) (a:Act),Mem C.P X w0 J p.2.2 g w->Env X J p.2.2 g a ->
    (∀q∈ps,PcH X J q.1 -> ∀g' w' a',Ext p.2.2 g q.2 g'->Mem C.P X w0 J q.2 g' w'->Env X J q.2 g' a'->Q .normal a' w')->xAB C.P ops Q R n p.1.toArray a w
 | 0,l,ps,h,hob,p,hp,hcl,hpc,g,w,a,hm,he,hQ=>by
  obtain⟨k1,k2,k3⟩:=zKE h p hp;exact⟨yNI hm he k2,k1,hQ p.2 k3 hpc g w a (Ext.refl _ g) hm he⟩
 | n+1,l,ps,h,hob,p,hp,hcl,hpc,g,w,a,hm,he,hQ=>by
  simp only[yJB] at h;split at h
  ·cases h
  ·rename_i l' hl;have hs:=(zTE hl).2;obtain⟨hne,hck,hall⟩:=hs p hp;have hinv:=yNI hm he hck;have hsub:∀i∈xGG C.P ops R p.1 p.2.2 (Region.ready .any ops p.1.toArray),i∈Region.ready .any ops p.1.toArray:=fun i hi=>by
    rcases zWE C.P ops R p.1 p.2.2 (Region.ready .any ops p.1.toArray) with ep|⟨j,hj,ep,_⟩|⟨j,hj,ep,_⟩
    ·rw[ep] at hi;exact hi
    ·rw[ep] at hi;rw[List.mem_singleton.1 hi];exact hj
    ·rw[ep] at hi;rw[List.mem_singleton.1 hi];exact hj
   have hstep:∀i∈xGG C.P ops R p.1 p.2.2 (Region.ready .any ops p.1.toArray),∃op s',ops[i]? = some op/\xHE C callF ops p.2.2 (base+i*big) op=some s' /\ ∀Q',yHB C.P ops Q' (xAB C.P ops Q R n (p.1.set i true).toArray) op a w:=fun i hi=>by
    obtain⟨op,s',e1,e2,e3⟩:=hall i hi;have hcl':zRC ops (p.1.set i true).toArray:=by
     have:=hcl.set (hsub i hi)
     simpa using this
    have hob':zCA X Pre s'.obl J:=by
     obtain⟨x,hx,k1,k2⟩:=zAC (ops:=ops) (is:=Region.ready .any ops (p.1.set i true).toArray) X J (n:=6) (pc:=p.2.1) (st:=s') hpc;obtain⟨t,f1,f2⟩:=e3 x hx;obtain⟨y,m1,m2,m3⟩:=yLD X J h _ f1 k1;exact zKA.2 fun o ho=>zKA.1 (hob y m1 m2) o (m3 o (f2.obl o (by rw[k2];exact ho)))
    refine⟨op,s',e1,e2,fun Q'=>zRF hnm hcall hm he e2 hob' (fun g' w' a' k1 k2 k3=>?_)⟩;obtain⟨x,hx,j1,j2,j3,j4,j5⟩:=zQB (ops:=ops) (is:=Region.ready .any ops (p.1.set i true).toArray) (n:=6) (pc:=p.2.1) k2 k3 hpc;obtain⟨t,f1,f2⟩:=e3 x hx;obtain⟨m1,m2,m3⟩:=f2.mem j2 j3;exact xQC hnm hcall hR hQp h hob _ f1 hcl' j1 g' w' a' m1 m2 (fun q hq hqc g2 w2 a2 q1 q2 q3=>hQ q hq hqc g2 w2 a2 (k1.trans (j4.trans (m3.trans q1))) q2 q3)
   rcases zWE C.P ops R p.1 p.2.2 (Region.ready .any ops p.1.toArray) with ep|⟨i,hir,ep,hns,hqa⟩|⟨i,hir,ep,r,hrR,hri,o,v,ho,hv⟩
   ·refine⟨hinv,fun e=>absurd e hne,fun i hi=>?_⟩;obtain⟨op,s',e1,e2,e3⟩:=hstep i (by rw[ep];exact hi);unfold wpOp;rw[e1];show yHB C.P ops Q _ op a w
    have:=e3 Q
    simpa using this
   ·obtain⟨op,s',e1,e2,e3⟩:=hstep i (by rw[ep];simp);unfold zDI at hqa;rw[freeB_eq] at hqa;rw[e1] at hqa;simp only[baZ] at hqa;rcases zQH hm he e2 hqa.1 with hw1|⟨v,hw1,hv1⟩
    ·have h4:=e3 (fun _ _ _=>False);unfold yHB at h4;rw[hw1] at h4;simp only[bfZ,if_false] at h4;refine takeQ hR hQp hns e1 hqa.1 n _ a w hcl hqa.2 hir (.inr ⟨hw1,rfl⟩) hinv ?_;simpa using h4
    have h4:=e3 (fun _ _ _=>False);unfold yHB at h4;rw[hw1] at h4;simp only[if_true] at h4;have h5:xAB C.P ops Q R n (p.1.set i true).toArray (a.put op.dst v) w:=by
     rcases h4 with h4|⟨_,h4⟩
     ·unfold Oper.wp at h4;rw[hv1] at h4;exact h4
     ·obtain⟨_,_,h4⟩:=h4;exact h4.elim
    refine takeQ hR hQp hns e1 hqa.1 n _ a w hcl hqa.2 hir (.inl ⟨hw1,hv1⟩) hinv ?_;simpa using h5
   ·obtain⟨op,s',e1,e2,e3⟩:=hstep i (by rw[ep];simp);rw[ho] at e1;cases e1
    have hrun:=yBF hm he hv;obtain⟨hg,_⟩:=xEG (hri▸ho) (hR.ok r hrR);have h4:=e3 (fun _ _ _=>False);unfold yHB at h4;have hw1:Region.wanted o (yielded ops a.tmps)=true:=by simp only[Region.wanted,hg]
    rw[hw1] at h4;simp only[if_true] at h4;have h5:xAB C.P ops Q R n (p.1.set i true).toArray (a.put o.dst (v.den X J g)) w:=by
     rcases h4 with h4|⟨_,h4⟩
     ·unfold Oper.wp at h4;rw[hrun] at h4;exact h4
     ·obtain⟨_,_,h4⟩:=h4;exact h4.elim
    subst hri;refine takeR hR hQp hrR ho n _ a w hcl hir hrun hinv ?_;simpa using h5
theorem yLE(ops:Array Oper)(n:Nat):zRC ops (List.replicate n false).toArray:=fun j o _ h=>by
 exfalso;rw[yQG,List.getD_eq_getElem?_getD,List.getElem?_replicate] at h;split at h <;> cases h
theorem qUC{C:Cfg}{callF:CallF}(hnm:yWA C.P)(hcall:xSC C.P X Pre (qVA C callF)){ops:Array Oper}{base big:Nat}{Q:Exit->Act->World->Prop}(hQp:∀c a w,¬Q (.panic c) a w)
  {n:Nat} {l:List (List Bool×Pc×St)} {ps:List (Pc×St)} (h:qTC C callF ops base big n l=some ps) (hob:∀q∈ps,PcH X J q.1->zCA X Pre q.2.obl J)
   (p:List Bool×Pc×St) (hp:p∈l) (hcl:zRC ops p.1.toArray) (hpc:PcH X J p.2.1) (g:Gh) (w:World) (a:Act) (hm:Mem C.P X w0 J p.2.2 g w) (he:Env X J p.2.2 g a)
    (hQ:∀q∈ps,PcH X J q.1 -> ∀g' w' a',Ext p.2.2 g q.2 g'->Mem C.P X w0 J q.2 g' w'->Env X J q.2 g' a'->Q .normal a' w'):wpAny C.P .any ops Q n p.1.toArray a w:=by
 obtain⟨R,hR,hr⟩:=yEF h
 have:OkRs ops R:=by
  rcases hR with rfl|rfl
  ·exact OkRs.reads
  ·exact OkRs.nil
 exact(xQC hnm hcall this hQp hr hob p hp hcl hpc g w a hm he hQ).any
end
end Go.Dx
