/- Part of a verified symbolic run of the program's code (no condition of its own). -/
import Derived.Test.YtefilhocfegfhaaDoorQ5
import Derived.Maps.RangeWalk
import Derived.Maps.OwnSet
import Derived.LaidSub
import Derived.Shelf.Bin.BEUint64
import Derived.Shelf.Bin.BEUint32
set_option linter.unusedVariables false
set_option linter.unusedSimpArgs false
noncomputable section
namespace Go.Mx
open Go Go.Dx
def zOI(v:Value):Option (DataW Value×List MemPlace):=some (.held v,[])
section
variable {P:Program} {ok:Nat->Prop} {w:World} {m k e r:Nat} {ds:List (Int×D)}
theorem qRK:∀(l:List Int) (lo hi:Int),l.Pairwise (· < ·)->(∀x∈l,lo<=x/\x<hi)->lo<=hi->(l.length:Int)<=hi-lo
 | [],lo,hi,_,_,h=>by simp;omega
 | x::l,lo,hi,hp,hb,h=>by
  obtain⟨h1,h2⟩:=List.pairwise_cons.1 hp;have hx:=hb x (by simp)
  have:=qRK l (x+1) hi h2 (fun y hy=>⟨by have:=h1 y hy;omega,(hb y (by simp[hy])).2⟩) (by omega)
  simp only[List.length_cons];omega
theorem tags_few(hs:(ds.map (·.1)).Pairwise (· < ·))(hw:∀d∈ds,(Lit.int .u32 d.1).wf=true):ds.length<=4294967296:=by
 have:=qRK (ds.map (·.1)) 0 4294967296 hs (fun x hx=>by
  obtain⟨d,hd,rfl⟩:=List.mem_map.1 hx
  have:=hw d hd
  simp[Lit.wf,IntKind.min,IntKind.max,IntKind.signed,IntKind.bits] at this;omega) (by omega)
 rw[List.length_map] at this;omega
theorem zRG(h:TagsAt P ok w m (.map (some r)) (.map ds)):(ds.map (·.1)).Pairwise (· < ·)/\(∀d∈ds,(Lit.int .u32 d.1).wf=true)/\ds.length<=4294967296:=by
 cases h with
 | map hu hk hh hkeys hkw hs hborn hclock hr=>exact⟨hs,hkw,tags_few hs hkw⟩
theorem qWK(h:TagsAt P ok w m (.map (some r)) (.map ds))(hm:P.underlying m=some (.map k e)):∃D:DataW Value,w.ownsMap P k zOI r ds.length D/\Maps.size D=ds.length /\ ∀x,x∈ds.map (·.1)↔Maps.has D (.int .u32 x)=true:=by
 obtain⟨_,_,hfew⟩:=zRG h;cases h with
 | map hu hk hh hkeys hkw hs hborn hclock hr =>
  rw[hm] at hu;cases hu
  rename_i clock es;have hsz:es.size=ds.length:=by
   have:=hkeys.length_eq
   simpa using this
  have hkr:=zDF hk hkeys hkw;have hnd:(es.toList.map (·.key)).Nodup:=by
   refine hkeys.nodup_iff.2 ?_
   have:(ds.map (·.1)).Nodup:=hs.imp (fun {a b} h=>by omega)
   have e1:(ds.map fun d=>Value.int .u32 d.1)=(ds.map (·.1)).map (fun i=>Value.int .u32 i):=by rw[List.map_map];rfl
   rw[e1];exact List.Pairwise.map _ (fun a b (hab:a≠b) hc=>hab (by cases hc;rfl)) this
  have hrd:∀x∈es.toList,∀d,x.key = .int .u32 d->(Lit.int .u32 d).wf=true->WideElems.rd P k zOI x=some (.int .u32 d,.held x.val):=fun x hx d hd hw=>by
   have:keyOf P k x.key=some (.int .u32 d):=by rw[hd];exact Maps.keyOf_int_mk hk hw
   simp[WideElems.rd,this,zOI]
  have F:WideElems.Fit P k zOI es clock:=by
   refine⟨by rw[hsz];unfold maxLen;omega,(MapKept.stamped_iff es clock).2 ⟨hclock,hborn,List.pairwise_map.1 hnd⟩,fun x hx=>?_⟩;obtain⟨d,hd,he,_⟩:=hkr x hx;exact⟨_,hrd x hx d.1 he (hkw d hd)⟩
  refine⟨_,⟨es,clock,hh,F,by rw[hsz];exact Nat.le_refl _,rfl⟩,by simp[Maps.size,length_sorted,hsz],fun x=>?_⟩;have hrg:∀y∈es.toList,∀d,y.key = .int .u32 d->(Lit.int .u32 d).wf=true->(WideElems.rg P k zOI y).1 = .int .u32 d:=fun y hy d hd hw=>by
   rw[WideElems.rg_of (hrd y hy d hd hw)]
  rw[Maps.has_eq,List.any_eq_true];constructor
  ·intro hx;obtain⟨d,hd,rfl⟩:=List.mem_map.1 hx
   have:Value.int .u32 d.1∈es.toList.map (·.key):=hkeys.symm.subset (List.mem_map.2 ⟨d,hd,rfl⟩)
   obtain⟨y,hy,hye⟩:=List.mem_map.1 this;refine⟨WideElems.rg P k zOI y,mem_sorted.2 (List.mem_map.2 ⟨y,hy,rfl⟩),?_⟩;rw[hrg y hy d.1 hye (hkw d hd)];exact WideAt.sameKey_self trivial
  ·rintro⟨p,hp,hpk⟩;obtain⟨y,hy,rfl⟩:=List.mem_map.1 (mem_sorted.1 hp);obtain⟨d,hd,he,_⟩:=hkr y hy;rw[hrg y hy d.1 he (hkw d hd)] at hpk
   have:=WideAt.sameKey_eq hpk
   cases this;exact List.mem_map.2 ⟨d,hd,rfl⟩
theorem zWI{n:Int}{d:D}(h:TagsAt P ok w m (.map (some r)) (.map ds))(hm:P.underlying m=some (.map k e))(hn:(n,d)∈ds) :
  ∃v,Rep P ok w e v d /\ ∀w':World,w'.heap[r]? = w.heap[r]? -> (Instr.lookup m (.map (some r)) (.int .u32 n) false).run P w' = .ok v w':=by
 cases h with
 | map hu hk hh hkeys hkw hs hborn hclock hr =>
  rw[hm] at hu;cases hu
  rename_i clock es;have K:=Maps.int_keyed hk;have hkey:=Maps.keyOf_int_mk hk (hkw _ hn);have hkr:=zDF hk hkeys hkw;have hmem:Value.int .u32 n∈es.toList.map (·.key):=hkeys.symm.subset (List.mem_map.2 ⟨(n,d),hn,rfl⟩);obtain⟨y,hy,hye⟩:=List.mem_map.1 hmem;have hfind:=fun w'=>K.find w' hkey es.toList (fun x hx=>by obtain⟨d,_,_,h⟩:=hkr x hx;exact⟨_,h⟩)
  refine⟨y.val,hr y hy n d hye hn,fun w' hw'=>?_⟩;rcases hfind w' with⟨_,h2⟩|⟨j,e0,h1,h2,h3⟩
  ·exact absurd hye (h2 y hy)
  ·have hnd:(es.toList.map (·.key)).Nodup:=by
    refine hkeys.nodup_iff.2 ?_
    have:(ds.map (·.1)).Nodup:=hs.imp (fun {a b} h=>by omega)
    have e1:(ds.map fun d=>Value.int .u32 d.1)=(ds.map (·.1)).map (fun i=>Value.int .u32 i):=by rw[List.map_map];rfl
    rw[e1];exact List.Pairwise.map _ (fun a b (hab:a≠b) hc=>hab (by cases hc;rfl)) this
   have hje:y=e0:=by
    obtain⟨i,hi,hyi⟩:=List.mem_iff_getElem.1 hy;have hj:=(List.getElem?_eq_some_iff.1 h2).1;have hje0:=(List.getElem?_eq_some_iff.1 h2).2
    have:(es.toList.map (·.key))[i]'(by rw[List.length_map];exact hi)=(es.toList.map (·.key))[j]'(by rw[List.length_map];exact hj):=by
     rw[List.getElem_map,List.getElem_map,hyi,hje0,hye,h3]
    have hij:=(List.getElem_inj hnd).1 this;subst hij;rw[<- hyi,<- hje0]
   subst hje;simp[Instr.lookup,run_underlying hm,Go.MapKept.run_getObj_map (hw'.trans hh),K.check w' _ hkey,h1,Result.andThen]
end
def tb(y:Int×D):List UInt8:=tagB y.1.toNat y.2.asStr
end Go.Mx
namespace Go.Mx
open Go Go.Dx Go.RowKit
def deC:DE:=.f .app [.v 2,.f .mklist [.f .mkrow [.v 0,.f .app [.k .nil,.v 1]]]]
def osC:List Ob:=[.room deC 32,.room (.f .app [.k .nil,.v 1]) 1]
def tgD(x:Int×D):D:=.row [.int x.1,D.appd .nil x.2]
def accD(l:List (Int×D)):D:=D.appd .nil (.list (l.map tgD))
theorem xVJ(l:List (Int×D))(x:Int×D):(accD l).appd (.list [tgD x])=accD (l++[x]):=by
 cases l with
 | nil=>rfl
 | cons a l=>simp[accD,D.appd]
theorem accD_len(l:List (Int×D)):(accD l).len=l.length:=by
 cases l with
 | nil=>rfl
 | cons a l=>simp[accD,D.appd,D.len]
theorem yHJ{val:Option (List UInt8)}:(D.appd .nil (encB val)).len=(val.getD []).length:=by
 cases val with
 | none=>rfl
 | some s=>cases s <;> rfl
theorem evClo{key:Int}{val:Option (List UInt8)}{l:List (Int×D)}(hl:l.length+1<=100001)(hv:(val.getD []).length<=lim) :
  zCA X side osC [.int key,encB val,accD l]/\deC.eval X [.int key,encB val,accD l]=accD (l++[(key,encB val)]):=by
 have e:deC.eval X [.int key,encB val,accD l]=accD (l++[(key,encB val)]):=by
  simp only[deC,ev_f,zAA,zBA,ev_v,ev_k,gzZ,gsZ,yPA,qFA];exact xVJ l (key,encB val)
 refine⟨⟨?_,?_,trivial⟩,e⟩
 ·show (deC.eval X [.int key,encB val,accD l]).len*32<=LIM/\(deC.eval X [.int key,encB val,accD l]).len<=maxLen;rw[e,accD_len,List.length_append,List.length_singleton];exact⟨by simp only[LIM];omega,by simp only[maxLen];omega⟩
 ·show (D.appd .nil (encB val)).len*1<=LIM/\(D.appd .nil (encB val)).len<=maxLen;rw[yHJ];exact yEB hv
def EachOk(P:Program)(f g m u:Nat):Prop:=∀(W:World) (b off r n B:Nat) (D:DataW Value) (ks:List Int) (_:∀x,x∈ks↔Maps.has D (.int .u32 x)=true) (_:ks.Pairwise (· < ·)) (M:Nat->Prop) (_:∀x,M x->x<W.heap.size) (_:¬M b)
 (R:World->Nat->World->Prop) (_:∀ws,Below W.heap.size W ws->R ws 0 ws) (_:∀ws k wl,R ws k wl->Fr M ws wl)
 (_:∀ws k wl,Below W.heap.size W ws->k<ks.length->R ws k wl -> ∃vk,(Instr.lookup m (.map (some r)) (.int .u32 (ks.getD k 0)) false).run P wl = .ok vk wl/\Calls P g #[.int .u32 (ks.getD k 0),vk,.pointer (some ⟨B,0,none⟩)] wl fun e w'=>e = .returned (.tuple #[])/\R ws (k+1) w')
 (_:W.cell? ⟨b,off,none⟩=some (.map (some r))) (_:W.ownsMap P u zOI r n D) (_:0<Maps.size D) (_:Maps.size D<=4294967296) (_:b<W.heap.size) (_:B<W.heap.size),
 Calls P f #[.pointer (some ⟨b,off,none⟩),.func (.func g) #[] #[.pointer (some ⟨B,0,none⟩)]] W fun e w'=>e = .returned (.tuple #[]) /\ ∃ws,Below W.heap.size W ws/\R ws ks.length w'
def EachNo(P:Program)(f g m ti:Nat):Prop:=∀(w:World) (b off B:Nat) (q:Option Nat) (_:w.cell? ⟨b,off,none⟩=some (.map q)) (_:(Builtin.len_ #[m] ti #[.map q]).run P w = .ok (goInt 0) w),
 Calls P f #[.pointer (some ⟨b,off,none⟩),.func (.func g) #[] #[.pointer (some ⟨B,0,none⟩)]] w fun e w2=>e = .returned (.tuple #[])/\w2=w
theorem five{cs:Array Value}{v:Value}(hn:cs.size=5)(hv:cs[4]? = some v):∃a0 a1 a2 a3,cs = #[a0,a1,a2,a3,v]:=by
 obtain⟨l⟩:=cs
 match l,hn with
 | [a,b,c,d,e],_ =>
  simp only[List.getElem?_toArray,List.getElem?_cons_succ,List.getElem?_cons_zero,Option.some.injEq] at hv;subst hv;exact⟨a,b,c,d,rfl⟩
theorem own_nil{P:Program}{ok:Nat->Prop}{w:World}{t:TypeId}{v:Value}(h:yRA P ok w t v .nil):v = .slice none 0 0:=by
 obtain⟨e,i,n,xs,_,_,_,h4⟩:=h;cases h4 with
 | nil hv=>exact hv
theorem each_ctr{C:Cfg}{f m u tb tU pt ti:Nat}{gs:List Nat}(hnm:yWA C.P)(hord:C.P.follows .mixedOrders=true)(hctr:∀f c,C.ctr f=some c->xDA C.P X side f c)
  (hbody:∃fn b,C.P.funcs[f]? = some fn/\fn.body=some b) (hum:C.P.underlying m=some (.map u tb)) (hby:isBy C.P tb=true) (hsU:qZB C.P tU=true)
  (hno:∀g,gs.elem g=true->EachNo C.P f g m ti) (hea:∀g,gs.elem g=true->EachOk C.P f g m u) (hrun:∀g,gs.elem g=true->zXI C tb tU g deC osC=true)
  (hl0:∀w,(Builtin.len_ #[m] ti #[.map none]).run C.P w = .ok (goInt 0) w)
  (hl1:∀(w:World) (r clock:Nat) (es:Array MapEntry),w.heap[r]? = some (.map es clock)->(Builtin.len_ #[m] ti #[.map (some r)]).run C.P w = .ok (goInt es.size) w) :
  xDA C.P X side f ⟨[.mcell pt m,.ccell gs 4 tU],.ccell tU,300,true⟩:=by
 obtain⟨eU,iU,huU,hiU⟩:=zPB hsU;refine⟨hbody,fun ok w vs ds hA hok hRd hp hgw=>?_⟩;obtain @⟨⟩ | @⟨_,v1,d1,_,_,_,h1,hA⟩:=hA;obtain @⟨⟩ | @⟨_,v2,d2,_,_,_,h2,hA⟩:=hA;cases hA;cases h2 with
 | ccell hf hh hc hn h2 hne hone =>
 rename_i g B mv ty cs;cases h1 with
 | mcell hc1 h =>
 rename_i b off mv1;obtain⟨hd2,hfew0,hvl⟩:d2 = .nil/\(mapL d1).length<=100000 /\ ∀x∈mapL d1,x.2.len<=lim:=hp rfl;subst hd2;have hmv:=own_nil h2;subst hmv;obtain⟨a0,a1,a2,a3,rfl⟩:=five hn hc;have hcB:w.cell? ⟨B,4,none⟩=some (.slice none 0 0):=by simp[World.cell?,hh]
 have hWr:∀x,Wr w [AK.mcell pt m,.ccell gs 4 tU] [.pointer (some ⟨b,off,none⟩),.func (.func g) #[] #[.pointer (some ⟨B,0,none⟩)]] x↔x=B:=fun x=>by
  constructor
  ·intro hx;simp only[Wr,wrA,or_false,false_or] at hx;obtain⟨a,ha,hx⟩:=hx;simp only[List.getElem?_toArray,List.getElem?_cons_zero,Option.some.injEq,Value.pointer.injEq] at ha;subst ha;rcases hx with hx|⟨v,hv,hx⟩
   ·exact hx
   ·rw[hcB] at hv;cases hv;simp[Value.ownBlock] at hx
  ·rintro rfl;exact .inr (.inl ⟨_,rfl,.inl rfl⟩)
 have hBl:B<w.heap.size:=(Array.getElem?_eq_some_iff.1 hh).1;have hbl:b<w.heap.size:=by
  cases hhb:w.heap[b]? with
  | none=>simp[World.cell?,hhb] at hc1
  | some o=>exact(Array.getElem?_eq_some_iff.1 hhb).1
 have hbB:b≠B:=fun e=>hRd b (.inl (.inl rfl)) ((hWr b).2 e)
 have hokB:∀x,ok x->x<w.heap.size/\x≠B:=fun x hx=>⟨(hok x hx).1,fun e=>(hok x hx).2 ((hWr x).2 e)⟩
 have hres:∀(w':World) (ty2:TypeId) (v:Value),w'.heap[B]? = some (.cells #[a0,a1,a2,a3,v] ty2 (0,0))->(∀r,v.ownBlock=some r->w.heap.size<=r/\r<w'.heap.size) ->
   (∀ok':Nat->Prop,(∀x,ok x->ok' x)->(∀k,w.heap.size<=k->k<w'.heap.size->v.ownBlock≠some k->ok' k)->yRA C.P ok' w' tU v (X 300 [d1,.nil])) ->
   yOB C.P ok w w' ⟨[.mcell pt m,.ccell gs 4 tU],.ccell tU,300,true⟩ [.pointer (some ⟨b,off,none⟩),.func (.func g) #[] #[.pointer (some ⟨B,0,none⟩)]] (.tuple #[]) (X 300 [d1,.nil]):=fun w' ty2 v q1 q2 q3 =>
  ⟨rfl,B,4,ty,ty2,_,v,⟨gs,g,1,rfl,rfl⟩,hh,q1,fun r hr=>⟨.inl (q2 r hr).1,(q2 r hr).2,by have:=(q2 r hr).1;omega⟩,q3⟩
 have hnone:∀q,mv1 = .map q->mapL d1=[]->(Builtin.len_ #[m] ti #[.map q]).run C.P w = .ok (goInt 0) w ->
   Calls C.P f #[.pointer (some ⟨b,off,none⟩),.func (.func g) #[] #[.pointer (some ⟨B,0,none⟩)]] w fun e w'=>∃v,e = .returned v/\Fr (Wr w [AK.mcell pt m,.ccell gs 4 tU] [.pointer (some ⟨b,off,none⟩),.func (.func g) #[] #[.pointer (some ⟨B,0,none⟩)]]) w w' /\
    yOB C.P ok w w' ⟨[.mcell pt m,.ccell gs 4 tU],.ccell tU,300,true⟩ [.pointer (some ⟨b,off,none⟩),.func (.func g) #[] #[.pointer (some ⟨B,0,none⟩)]] v (X 300 [d1,.nil]):=by
  intro q hq hnil hlen;subst hq;refine(hno g hf w b off B q hc1 hlen).mono fun e w' he=>?_
  obtain⟨rfl,rfl⟩:=he;refine⟨_,rfl,Fr.refl _ _,hres w' ty (.slice none 0 0) hh (fun r hr=>by simp[Value.ownBlock] at hr) (fun ok' _ _=>?_)⟩;rw[X_300,hnil];exact yRA.nilv huU hiU
 cases h with
 | nil hu=>exact hnone none rfl rfl (hl0 w)
 | map hu hk hh' hkeys hkw hs hborn hclock hr =>
  rename_i kk ee r clock es dd;have hl:es.size=dd.length:=by
   have:=hkeys.length_eq
   simpa using this
  have hrl:r<w.heap.size:=(Array.getElem?_eq_some_iff.1 hh').1;have hrne:r≠B:=fun e=>hRd r (.inl (.inr hc1)) ((hWr r).2 e)
  by_cases hdd:dd=[]
  ·subst hdd;refine hnone (some r) rfl rfl ?_
   have:=hl1 w r clock es hh'
   rw[hl] at this;exact this
  have ht:TagsAt C.P ok w m (.map (some r)) (.map dd):=.map hu hk hh' hkeys hkw hs hborn hclock hr;obtain⟨_,_,hfew⟩:=zRG ht;obtain⟨DD,hown,hDs,hDk⟩:=qWK ht hum;have hpos:0<dd.length:=by cases dd with|nil=>exact absurd rfl hdd|cons a l=>simp
  have hX:X 300 [.map dd,.nil]=accD dd:=by
   rw[X_300]
   have:(mapL (.map dd)).isEmpty=false:=by cases dd with|nil=>exact absurd rfl hdd|cons a l=>rfl
   rw[this];rfl
  refine((hea g hf w b off r dd.length B DD (dd.map (·.1)) hDk hs (fun x=>x=B) (fun x hx=>hx▸hBl) hbB
   (fun ws k wl=>Fr (fun x=>x=B) ws wl /\ ∃v ty,wl.heap[B]? = some (.cells #[a0,a1,a2,a3,v] ty (0,0))/\v.ownBlock≠some B/\(∀x,v.ownBlock=some x->ws.heap.size<=x/\x<wl.heap.size) /\
    yRA C.P (fun x=>ok x∨(w.heap.size<=x/\x<wl.heap.size/\v.ownBlock≠some x)) wl tU v (accD (dd.take k)))
   ?_ (fun ws k wl h=>h.1) ?_ hc1 hown (by rw[hDs];exact hpos) (by rw[hDs];exact hfew) hbl hBl).mono ?_)
  ·intro ws hws;refine⟨Fr.refl _ _,.slice none 0 0,ty,?_,by simp[Value.ownBlock],fun x hx=>by simp[Value.ownBlock] at hx,?_⟩
   ·rw[hws.block B hBl,hh]
   ·exact yRA.nilv huU hiU
  ·rintro ws k wl hws hk' ⟨hfr,v,ty1,hBc,hvB,hvb,hov⟩;rw[List.length_map] at hk';have hkd:(dd.map (·.1)).getD k 0=(dd[k]).1:=by simp[List.getD_eq_getElem?_getD,hk']
   rw[hkd];have hmem:((dd[k]).1,(dd[k]).2)∈dd:=List.getElem_mem hk';obtain⟨vk,hrep,hlook⟩:=zWI ht hum hmem;have hwl:∀x,x<w.heap.size->x≠B->wl.heap[x]? = w.heap[x]?:=fun x hx hn=>by
    rw[hfr.block x (Nat.lt_of_lt_of_le hx hws.size) hn,hws.block x hx]
   refine⟨vk,hlook wl (hwl r hrl hrne),?_⟩;obtain⟨val,hval⟩:KOk .byts (dd[k]).2:=xWE hby hrep;have hnk:=hkw _ hmem;have htk:dd.take (k+1)=dd.take k++[dd[k]]:=by rw[List.take_succ_eq_append_getElem hk']
   have hdd0:dd.length<=100000:=hfew0;have hvl':(val.getD []).length<=lim:=by have:=hvl _ hmem;rw[hval,yEA] at this;exact this
   have hev:=evClo (key:=(dd[k]).1) (val:=val) (l:=dd.take k) (by rw[List.length_take];omega) hvl';rw[<- hval] at hev;refine(xKJ (C:=C) (ok:=fun x=>ok x∨(w.heap.size<=x/\x<wl.heap.size/\v.ownBlock≠some x)) hnm hord hctr (hrun g hf) hBc (fun u hu'=>hone u (by
     simp only[List.mem_cons,List.not_mem_nil,or_false] at hu';simp only[List.mem_toArray,List.mem_cons];rcases hu' with h|h|h|h <;> simp[h])) hov (hrep.mono (fun _ h=>.inl h) (fun x hx=>hwl x (hokB x hx).1 (hokB x hx).2)) hnk (fun x hx=>?_) hvB hev.1).mono ?_
   ·rcases hx with hx|⟨q1,q2,q3⟩
    ·obtain⟨q1,q2⟩:=hokB x hx;have h3:=hws.size;have h4:=hfr.size
     refine⟨by omega,q2,fun e=>?_⟩
     have:=(hvb x e).1
     omega
    ·exact⟨q2,by omega,q3⟩
   ·rintro e w' ⟨rfl,hf2,v',ty',hB',hvB',hvb',ho'⟩;have hsz2:=hf2.size;have hsz1:=hfr.size;have hsz0:=hws.size;refine⟨rfl,⟨hf2.os.trans hfr.os,hf2.tape.trans hfr.tape,hf2.output.trans hfr.output,Nat.le_trans hsz1 hsz2,fun x hx hm=>?_⟩,v',ty',hB',hvB',fun x hx=>?_,?_⟩
    ·rw[hf2.block x (Nat.lt_of_lt_of_le hx hsz1) (fun hm2=>by
      rcases hm2 with h|h
      ·exact hm h
      ·have:=(hvb x h).1;omega),hfr.block x hx hm]
    ·obtain⟨q1,q2⟩:=hvb' x hx;refine⟨?_,q1⟩;rcases q2 with h|h
     ·omega
     ·exact(hvb x h).1
    ·have:=ho' (fun x=>ok x∨(w.heap.size<=x/\x<w'.heap.size/\v'.ownBlock≠some x)) (fun x hx=>by
      rcases hx with hx|⟨q1,q2,q3⟩
      ·exact .inl hx
      ·by_cases hv':v'.ownBlock=some x
       ·have:=(hvb' x hv').2
        rcases this with h|h
        ·omega
        ·exact absurd h q3
       ·exact .inr ⟨q1,by omega,hv'⟩) (fun x hx hxl hn=>.inr ⟨by
       rcases hx with h|h
       ·omega
       ·have:=(hvb x h).1;omega,hxl,hn⟩)
     rw[hev.2] at this;rw[htk];exact this
  ·rintro e w' ⟨rfl,ws,hws,hfr,v,ty1,hBc,hvB,hvb,hov⟩;have hsz1:=hfr.size;have hsz0:=hws.size;refine⟨_,rfl,⟨hfr.os.trans hws.os,hfr.tape.trans hws.tape,hfr.output.trans hws.output,by omega,fun x hx hm=>?_⟩,hres w' ty1 v hBc (fun x hx=>?_) (fun ok' q1 q2=>?_)⟩
   ·have hxB:x≠B:=fun e=>hm ((hWr x).2 e)
    rw[hfr.block x (by omega) hxB,hws.block x hx]
   ·have:=hvb x hx;omega
   ·rw[hX];rw[List.length_map,List.take_length] at hov;exact hov.mono (fun x hx=>by
     rcases hx with hx|⟨p1,p2,p3⟩
     ·exact q1 x hx
     ·exact q2 x p1 p2 p3) (fun _ _=>rfl) (fun _ _=>rfl)
end Go.Mx
namespace Go.Mx
open Go Go.Dx
def fbS:DE:=.f .app [.f .app [.f (.ext 45) [.v 0,.k (.int 2)],.f (.ext 45) [.v 1,.k (.int 2)]],.f (.ext 45) [.f (.wrap .i64) [.v 2],.k (.int 4)]]
def fbT:DE:=.f .app [fbS,.f (.ext 45) [.f .len [.v 4],.k (.int 2)]]
def fbI:DE:=.f .app [fbT,.v 4]
def fbN:DE:=.f .app [fbS,.f (.ext 45) [.k (.int (-1)),.k (.int 2)]]
def fbA:DE:=.f .ite [.v 3,fbI,fbN]
def fbZ:DE:=.f .app [fbA,.f .mkbytes [.k (.int 0)]]
def fbB:DE:=.f .ite [.v 5,fbZ,fbA]
def fbC:DE:=.f .app [fbB,.v 6]
def qUJ:DE:=.f .app [.f (.ext 45) [.f .len [fbC],.k (.int 4)],fbC]
def ob309:List Ob :=
 [.room qUJ 1,.pre 45 [.f .len [fbC],.k (.int 4)],.room fbC 1,.when (.v 5) true [.room fbZ 1],
  .when (.v 3) true [.room fbI 1,.room fbT 1,.pre 45 [.f .len [.v 4],.k (.int 2)]],.when (.v 3) false [.room fbN 1,.pre 45 [.k (.int (-1)),.k (.int 2)]],
  .room fbS 1,.pre 45 [.f (.wrap .i64) [.v 2],.k (.int 4)],.room (.f .app [.f (.ext 45) [.v 0,.k (.int 2)],.f (.ext 45) [.v 1,.k (.int 2)]]) 1,.pre 45 [.v 1,.k (.int 2)],.pre 45 [.v 0,.k (.int 2)]]
theorem qDH(n:Int):zSA (IntKind.i64.wrap n) 4=zSA n 4:=zXC _ _ _ fun i hi=>by
 rw[IntKind.wrap_i64]
 match i,hi with
 | 0,_=>simp only[Nat.mul_zero,Int.pow_zero,Int.ediv_one];omega
 | 1,_=>simp only[Nat.mul_one,(by decide:(2:Int) ^ 8=256)];omega
 | 2,_=>simp only[(by decide:(2:Int) ^ (8*2)=65536)];omega
 | 3,_=>simp only[(by decide:(2:Int) ^ (8*3)=16777216)];omega
theorem zBK(i:Option (List UInt8)):encB i = .nil ∨ ∃s,encB i = .bytes s∨encB i = .str s:=by
 cases i with
 | none=>exact .inl rfl
 | some s=>exact .inr ⟨s,.inl rfl⟩
theorem qQE(s:List UInt8):encN s = .nil ∨ ∃r,encN s = .bytes r∨encN s = .str r:=by
 cases s with
 | nil=>exact .inl rfl
 | cons a l=>exact .inr ⟨_,.inl rfl⟩
theorem xYB{s:List UInt8}{d:DE}{J:List D}(e:d.eval X J=encN s)(h:s.length<=lim):(Ob.room d 1).holds X side J:=by
 show (d.eval X J).len*1<=_/\(d.eval X J).len<=_;rw[e,xKA];exact yEB h
theorem encB_len(i:Option (List UInt8)):(encB i).len=(i.getD []).length:=by cases i <;> rfl
theorem zKD(i:Option (List UInt8)):(encB i).asStr=i.getD []:=by cases i <;> rfl
theorem encN_nz{s:List UInt8}(h:s≠[]):encN s = .bytes s:=by
 cases s with
 | nil=>exact absurd rfl h
 | cons a l=>rfl
theorem ev309(k v n:Int)(h:Bool)(i:Option (List UInt8))(x:Bool)(b:Option (List UInt8))(hs:side 309 [.int k,.int v,.int n,.bool h,encB i,.bool x,encB b]) :
  zCA X side ob309 [.int k,.int v,.int n,.bool h,encB i,.bool x,encB b]/\qUJ.eval X [.int k,.int v,.int n,.bool h,encB i,.bool x,encB b]=X 309 [.int k,.int v,.int n,.bool h,encB i,.bool x,encB b]:=by
 have hs:(encB i).asStr.length+(encB b).asStr.length+100<=lim:=hs;rw[zKD,zKD] at hs;generalize hδ:[D.int k,.int v,.int n,.bool h,encB i,.bool x,encB b]=J;have v0:(DE.v 0).eval X J = .int k:=by rw[<- hδ];rfl
 have v1:(DE.v 1).eval X J = .int v:=by rw[<- hδ];rfl
 have v2:(DE.v 2).eval X J = .int n:=by rw[<- hδ];rfl
 have v3:(DE.v 3).eval X J = .bool h:=by rw[<- hδ];rfl
 have v4:(DE.v 4).eval X J=encB i:=by rw[<- hδ];rfl
 have v5:(DE.v 5).eval X J = .bool x:=by rw[<- hδ];rfl
 have v6:(DE.v 6).eval X J=encB b:=by rw[<- hδ];rfl
 have eF:∀(d:DE) (m:Int) (s:Int),d.eval X J = .int m->(DE.f (.ext 45) [d,.k (.int s)]).eval X J=encN (zSA m s.toNat):=fun d m s hd=>by
  rw[ev_f,zAA,zAA,zBA,hd,ev_k,zNA,X_45,zLA,zLA]
 have eApp:∀(p q:DE) (s:List UInt8) (d:D),p.eval X J=encN s->q.eval X J=d->(d = .nil ∨ ∃r,d = .bytes r∨d = .str r)->(DE.f .app [p,q]).eval X J=encN (s++d.asStr):=fun p q s d hp hq hd=>by
  rw[ev_f,zAA,zAA,zBA,hp,hq,yPA,yPB _ _ hd]
 have eL4:(DE.f .len [.v 4]).eval X J = .int ((i.getD []).length:Nat):=by
  rw[ev_f,zAA,zBA,v4,yDA,encB_len]
 have e2:(DE.f (.wrap .i64) [.v 2]).eval X J = .int (IntKind.i64.wrap n):=by
  rw[ev_f,zAA,zBA,v2,yGA]
 have eS0:(DE.f .app [.f (.ext 45) [.v 0,.k (.int 2)],.f (.ext 45) [.v 1,.k (.int 2)]]).eval X J=encN (zSA k 2++zSA v 2):=by
  rw[eApp _ _ _ _ (eF _ _ _ v0) (eF _ _ _ v1) (qQE _),xBB];rfl
 have eS:fbS.eval X J=encN (zSA k 2++zSA v 2++zSA n 4):=by
  unfold fbS;rw[eApp _ _ _ _ eS0 (eF _ _ _ e2) (qQE _),xBB,show (4:Int).toNat=4 from rfl,qDH]
 generalize hS:zSA k 2++zSA v 2++zSA n 4=S at eS;have lS:S.length=8:=by rw[<- hS];simp[ySA]
 have eT:fbT.eval X J=encN (S++zSA ((i.getD []).length:Nat) 2):=by
  unfold fbT;rw[eApp _ _ _ _ eS (eF _ _ _ eL4) (qQE _),xBB];rfl
 have eI:fbI.eval X J=encN (S++zSA ((i.getD []).length:Nat) 2++i.getD []):=by
  unfold fbI;rw[eApp _ _ _ _ eT v4 (zBK i),zKD]
 have eN:fbN.eval X J=encN (S++zSA (-1) 2):=by
  unfold fbN;rw[eApp _ _ _ _ eS (eF _ _ _ (ev_k _ _)) (qQE _),xBB];rfl
 have eA:fbA.eval X J=encN (S++(if h then zSA ((i.getD []).length:Nat) 2++i.getD [] else zSA (-1) 2)):=by
  unfold fbA;rw[ev_f,zAA,zAA,zAA,zBA,v3,eI,eN,zUA];cases h <;> simp
 generalize hA:(if h then zSA ((i.getD []).length:Nat) 2++i.getD [] else zSA (-1) 2)=A at eA;have lA:A.length<=2+(i.getD []).length:=by
  rw[<- hA];split
  ·rw[List.length_append,ySA];omega
  ·rw[ySA];omega
 have eZ:fbZ.eval X J=encN (S++A++[0]):=by
  unfold fbZ;rw[eApp _ _ _ (.bytes [0]) eA (by rw[ev_f,zAA,zBA,ev_k];rfl) (.inr ⟨_,.inl rfl⟩)];rfl
 have eB:fbB.eval X J=encN (S++A++(if x then ([0]:List UInt8) else [])):=by
  unfold fbB;rw[ev_f,zAA,zAA,zAA,zBA,v5,eZ,eA,zUA];cases x <;> simp
 generalize hZ:(if x then ([0]:List UInt8) else [])=Z at eB;have lZ:Z.length<=1:=by rw[<- hZ];split <;> simp
 have eC:fbC.eval X J=encN (S++A++Z++b.getD []):=by
  unfold fbC;rw[eApp _ _ _ _ eB v6 (zBK b),zKD]
 have eLC:(DE.f .len [fbC]).eval X J = .int ((S++A++Z++b.getD []).length:Nat):=by
  rw[ev_f,zAA,zBA,eC,yDA,xKA]
 have lC:(S++A++Z++b.getD []).length<=11+(i.getD []).length+(b.getD []).length:=by
  simp only[List.length_append,lS];omega
 have eD:qUJ.eval X J=encN (zSA ((S++A++Z++b.getD []).length:Nat) 4++(S++A++Z++b.getD [])):=by
  unfold qUJ;rw[eApp _ _ _ _ (eF _ _ _ eLC) eC (qQE _),xBB];rfl
 have hh:hdrB k v n h (i.getD []) x++b.getD []=S++A++Z++b.getD []:=by
  rw[hdrB,<- hS,<- hA,<- hZ];simp only[List.append_assoc]
 constructor
 ·have s45:∀(d:DE) (s:Int),0<=s->s<=8->(Ob.pre 45 [d,.k (.int s)]).holds X side J:=fun d s h0 h1=>by
   simp only[Ob.holds,zAA,zBA,ev_k];rw[zQC];exact⟨h0,h1⟩
  refine⟨xYB eD ?_,s45 _ _ (by decide) (by decide),xYB eC ?_,fun hx=>⟨xYB eZ ?_,trivial⟩,fun hh=>⟨xYB eI ?_,xYB eT ?_,s45 _ _ (by decide) (by decide),trivial⟩,fun hh=>⟨xYB eN ?_,s45 _ _ (by decide) (by decide),trivial⟩,
   xYB eS ?_,s45 _ _ (by decide) (by decide),xYB eS0 ?_,s45 _ _ (by decide) (by decide),s45 _ _ (by decide) (by decide),trivial⟩
  ·rw[List.length_append,ySA];omega
  ·omega
  ·simp only[List.length_append,lS,List.length_singleton];omega
  ·simp only[List.length_append,lS,ySA];omega
  ·simp only[List.length_append,lS,ySA];omega
  ·simp only[List.length_append,lS,ySA];omega
  ·omega
  ·simp only[List.length_append,ySA];simp only[lim];omega
 ·rw[eD,<- hδ,X_309,zLA,zLA,zLA,zVA,zVA,zKD,zKD,zNK,hh,encN_nz];rw[Fixed4];simp
def de16:DE:=.f .app [.f (.ext 10) [.v 0,.f (.add .u32) [.k (.int 1),.f (.wrap .u32) [.f .len [.v 1]]]],.v 1]
def ob16:List Ob:=[.room de16 1,.pre 10 [.v 0,.f (.add .u32) [.k (.int 1),.f (.wrap .u32) [.f .len [.v 1]]]]]
def de18:DE:=.f .ite [.f .isNil [.v 1],.f (.ext 10) [.v 0,.k (.int 0)],.f (.ext 16) [.v 0,.v 1]]
def ob18:List Ob:=[.when (.f .isNil [.v 1]) true [.pre 10 [.v 0,.k (.int 0)]],.when (.f .isNil [.v 1]) false [.pre 16 [.v 0,.v 1]]]
theorem ev16(o s:Option (List UInt8))(h:side 16 [encB o,encB s]):zCA X side ob16 [encB o,encB s]/\de16.eval X [encB o,encB s]=X 16 [encB o,encB s]:=by
 rw[qGK,yEA,yZA] at h;obtain⟨h1,h2⟩:=h;have ew:IntKind.u32.wrap (1+IntKind.u32.wrap ((s.getD []).length:Nat))=(((s.getD []).length+1:Nat):Int):=by
  rw[xSD (x:=((s.getD []).length:Nat)) (by omega) (by omega),xSD (by omega) (by omega)];omega
 have e:de16.eval X [encB o,encB s]=X 16 [encB o,encB s]:=by
  simp only[de16,X_16,X_10,ev_f,zAA,zBA,ev_v,ev_k,gzZ,gsZ,yDA,yEA,yGA,xLC,ew,zNA,zLA,Int.toNat_natCast,yPA,app_b,yZA]
 have hu:(zOA ((s.getD []).length+1)).length<=5:=by
  rw[qYI]
  have:=zTG 5 ((s.getD []).length+1) (Nat.lt_of_lt_of_le (by omega) (by decide:4294967296<=128 ^ 5))
  omega
 refine⟨⟨?_,?_,trivial⟩,e⟩
 ·show (de16.eval X [encB o,encB s]).len*1<=_/\(de16.eval X [encB o,encB s]).len<=_;rw[e,X_16,xUA,List.length_append,yEA,yZA,yZA];exact yEB (by omega)
 ·simp only[Ob.holds,ev_f,zAA,zBA,ev_v,ev_k,gzZ,gsZ,yDA,yEA,yGA,xLC,ew];show (X 10 _).len<=lim;rw[X_10,xUA,zLA,Int.toNat_natCast,yZA];omega
theorem ev18(o s:Option (List UInt8))(h:side 18 [encB o,encB s]):zCA X side ob18 [encB o,encB s]/\de18.eval X [encB o,encB s]=X 18 [encB o,encB s]:=by
 have h0:=h;rw[side_18,yEA] at h;obtain⟨h1,h2⟩:=h;constructor
 ·refine⟨fun hc=>⟨?_,trivial⟩,fun hc=>⟨?_,trivial⟩,trivial⟩
  ·simp only[Ob.holds,zAA,zBA,ev_v,ev_k,gzZ];show (X 10 _).len<=lim;rw[X_10,xUA]
   have:(zOA (D.asInt (.int 0)).toNat).length=1:=by rw[zLA];simp[zOA]
   rw[this];omega
  ·simp only[Ob.holds,zAA,zBA,ev_v,gzZ,gsZ];rw[qGK,yEA];exact⟨h1,h2⟩
 ·simp only[de18,X_18,X_16,X_10,ev_f,zAA,zBA,ev_v,ev_k,gzZ,gsZ,qAD,zOD,zNA,zLA,zUA];cases s <;> rfl
end Go.Mx
namespace Go.Mx
open Go Go.Dx
def ob301:List Ob :=
 [.all (.v 0) [] [] [.when (.f .ite [.f .ltI [.k (.int 0),.v 1],.f .ltI [.f (.get 0) [.v 2],.f (.get 0) [.f .at [.v 0,.f (.sub .i64) [.v 1,.k (.int 1)]]]],.k (.bool false)]) true [.nz (.k (.int 0))],
  .when (.f .ltI [.k (.int 0),.v 1]) true [.idx (.f (.sub .i64) [.v 1,.k (.int 1)]) (.v 0) true]]]
theorem ev301(u:Option (List Tg))(h:side 301 [encU u]):zCA X side ob301 [encU u]:=by
 obtain⟨hp,hl⟩:=h;generalize hd:encU u=d at hp hl;have hlen:d.len=d.rows.length:=by
  rw[<- hd];cases u with
  | none=>rfl
  | some l=>rfl
 refine⟨?_,trivial⟩;simp only[Ob.holds];have e0:(DE.v 0).eval X [d]=d:=rfl;rw[e0];intro k hk;have hst:∀n r,zQA (fun i r acc=>zDA X [] ([d]++(.int i::r::acc))) n r (zDA X [] [d])=[]:=fun n r=>by
  rw[zBA]
  have:∀(r:List D) (n:Nat),zQA (fun i r acc=>zDA X [] ([d]++(.int i::r::acc))) n r []=[]:=fun r=>by
   induction r with
   | nil=>intro n;rfl
   | cons a r ih=>intro n;rw[zQA,zBA];exact ih _
  exact this r n
 rw[hst];generalize hr:d.rows.getD k .nil=r;have hrk:d.rows[k]? = some r:=by
  rw[List.getD_eq_getElem?_getD,List.getElem?_eq_getElem hk,Option.getD_some] at hr;rw[List.getElem?_eq_getElem hk,hr]
 have v0:(DE.v 0).eval X ([d]++[D.int (k:Nat),r])=d:=rfl;have v1:(DE.v 1).eval X ([d]++[D.int (k:Nat),r]) = .int (k:Nat):=rfl;have v2:(DE.v 2).eval X ([d]++[D.int (k:Nat),r])=r:=rfl;have elt:(DE.f .ltI [.k (.int 0),.v 1]).eval X ([d]++[D.int (k:Nat),r]) = .bool (decide ((0:Int)<(k:Nat))):=by
  rw[ev_f,zAA,zAA,zBA,v1,ev_k,yYB]
 have esub:k≠0->(DE.f (.sub .i64) [.v 1,.k (.int 1)]).eval X ([d]++[D.int (k:Nat),r]) = .int ((k-1:Nat):Nat):=fun h0=>by
  rw[ev_f,zAA,zAA,zBA,v1,ev_k];show D.int (IntKind.i64.wrap ((k:Int)-1))=_;rw[IntKind.wrap_i64]
  congr 1
  omega
 show zCA X side _ ([d]++[D.int (k:Nat),r]);refine⟨fun h=>?_,fun h=>?_,trivial⟩
 ·exfalso;rw[ev_f,zAA,zAA,zAA,zBA,elt,ev_k,zUA] at h;by_cases h0:k=0
  ·subst h0;simp[D.asBool] at h
  ·have hdd:decide ((0:Int)<(k:Nat))=true:=by simp;omega
   rw[hdd,if_pos rfl,ev_f,zAA,zAA,zBA,ev_f,zAA,zBA,v2,ev_f,zAA,zBA,ev_f,zAA,zAA,zBA,v0,esub h0] at h;have e3:Fn.eval X .at [d,.int ((k-1:Nat):Nat)]=d.rows.getD (k-1) .nil:=by
    show d.rows.getD (((k-1:Nat):Int)).toNat .nil=_;rw[Int.toNat_natCast]
   rw[e3] at h;have hk1:k-1<d.rows.length:=by omega
   have hlt:=List.pairwise_iff_getElem.1 hp (k-1) k (by rw[List.length_map];omega) (by rw[List.length_map];exact hk) (by omega);simp only[List.getElem_map] at hlt;have hrk2:d.rows[k]=r:=by
    rw[List.getElem?_eq_getElem hk] at hrk;exact Option.some.inj hrk
   rw[hrk2] at hlt;rw[List.getD_eq_getElem?_getD,List.getElem?_eq_getElem hk1,Option.getD_some] at h;have h:decide ((r.cells.getD 0 .nil).asInt<((d.rows[k-1]).cells.getD 0 .nil).asInt)=true:=h
   have:=of_decide_eq_true h
   omega
 ·refine⟨?_,trivial⟩;rw[elt] at h;have h:decide ((0:Int)<(k:Nat))=true:=h;have h0:k≠0:=by have:=of_decide_eq_true h;omega
  simp only[Ob.holds];rw[esub h0,v0,hlen];simp only[D.asInt,if_true];omega
end Go.Mx
namespace Go.Mx
open Go Go.Dx
def deK3:Nat->DE
 | 16=>de16
 | 18=>de18
 | 301=>.k .nil
 | 303=>de303
 | 304=>de304
 | 305=>de305
 | 306=>de306
 | 307=>de307
 | 309=>qUJ
 | _=>.k .nil
def obK3:Nat->List Ob
 | 16=>ob16
 | 18=>ob18
 | 301=>ob301
 | 303=>ob303
 | 304=>ob304
 | 305=>ob305
 | 306=>ob306
 | 307=>ob307
 | 309=>ob309
 | _=>[]
def sig3:Nat->List K
 | 16=>[.byts,.byts]
 | 18=>[.byts,.byts]
 | 301=>[.tags]
 | 303=>[.fls,.int .i64,.bool,.tree,.tree]
 | 304=>[.fl,.int .i64,.bool,.tree,.tree]
 | 305=>[.fls,.tree]
 | 306=>[.int .i64,.int .i64]
 | 307=>[.fls,.tree]
 | 309=>[.int .i64,.int .i64,.int .i32,.bool,.byts,.bool,.byts]
 | _=>[]
def xHG:Nat->Nat
 | 18=>1
 | 303=>5
 | 304=>5
 | 305=>5
 | 307=>6
 | _=>0
def known3?:Nat->Bool
 | 16=>true
 | 18=>true
 | 301=>true
 | 303=>true
 | 304=>true
 | 305=>true
 | 306=>true
 | 307=>true
 | 309=>true
 | _=>false
theorem xIK{n k:Nat}{ds:List D}(h:Pre3 n k ds):side k ds:=h.2
theorem evC(k:Nat)(hk:known3? k=true)(hr:xOA k=false):∀(ds:List D),KsOk (sig3 k) ds->side k ds->zCA X side (obK3 k) ds/\(deK3 k).eval X ds=X k ds:=by
 unfold known3? at hk;split at hk
 ·intro ds hk h;obtain @⟨⟩ | @⟨_,d1,_,_,k1,hk⟩:=hk;obtain @⟨⟩ | @⟨_,d2,_,_,k2,hk⟩:=hk;cases hk;obtain⟨x1,rfl⟩:=k1;obtain⟨x2,rfl⟩:=k2;exact ev16 x1 x2 h
 ·intro ds hk h;obtain @⟨⟩ | @⟨_,d1,_,_,k1,hk⟩:=hk;obtain @⟨⟩ | @⟨_,d2,_,_,k2,hk⟩:=hk;cases hk;obtain⟨x1,rfl⟩:=k1;obtain⟨x2,rfl⟩:=k2;exact ev18 x1 x2 h
 ·intro ds hk h;obtain @⟨⟩ | @⟨_,d1,_,_,k1,hk⟩:=hk;cases hk;obtain⟨x1,rfl⟩:=k1;exact⟨ev301 x1 h,rfl⟩
 ·simp[xOA] at hr
 ·simp[xOA] at hr
 ·simp[xOA] at hr
 ·intro ds hk h;obtain @⟨⟩ | @⟨_,d1,_,_,k1,hk⟩:=hk;obtain @⟨⟩ | @⟨_,d2,_,_,k2,hk⟩:=hk;cases hk;obtain⟨x1,rfl,w1⟩:=k1;obtain⟨x2,rfl,w2⟩:=k2;exact⟨trivial,ev306 x1 x2⟩
 ·intro ds hk h;obtain @⟨⟩ | @⟨_,d1,_,_,k1,hk⟩:=hk;obtain @⟨⟩ | @⟨_,d2,_,_,k2,hk⟩:=hk;cases hk;obtain⟨x1,rfl⟩:=k1;obtain⟨x2,rfl⟩:=k2;have e:=ev307 x1 x2 0;exact⟨Obs.mono (fun _ _ h=>xIK h) _ _ e.1,e.2⟩
 ·intro ds hk h;obtain @⟨⟩ | @⟨_,d1,_,_,k1,hk⟩:=hk;obtain @⟨⟩ | @⟨_,d2,_,_,k2,hk⟩:=hk;obtain @⟨⟩ | @⟨_,d3,_,_,k3,hk⟩:=hk;obtain @⟨⟩ | @⟨_,d4,_,_,k4,hk⟩:=hk;obtain @⟨⟩ | @⟨_,d5,_,_,k5,hk⟩:=hk;obtain @⟨⟩ | @⟨_,d6,_,_,k6,hk⟩:=hk;obtain @⟨⟩ | @⟨_,d7,_,_,k7,hk⟩:=hk;cases hk;obtain⟨x1,rfl,_⟩:=k1;obtain⟨x2,rfl,_⟩:=k2;obtain⟨x3,rfl,_⟩:=k3;obtain⟨x4,rfl⟩:=k4;obtain⟨x5,rfl⟩:=k5;obtain⟨x6,rfl⟩:=k6;obtain⟨x7,rfl⟩:=k7;exact ev309 x1 x2 x3 x4 x5 x6 x7 h
 ·cases hk
theorem evCR(k:Nat)(hk:known3? k=true)(hr:xOA k=true)(n:Nat):∀(ds:List D),KsOk (sig3 k) ds->Pre3 (n+1) k ds->zCA X (Pre3 n) (obK3 k) ds/\(deK3 k).eval X ds=X k ds:=by
 unfold known3? at hk;split at hk
 ·simp[xOA] at hr
 ·simp[xOA] at hr
 ·simp[xOA] at hr
 ·intro ds hk h;obtain @⟨⟩ | @⟨_,d1,_,_,k1,hk⟩:=hk;obtain @⟨⟩ | @⟨_,d2,_,_,k2,hk⟩:=hk;obtain @⟨⟩ | @⟨_,d3,_,_,k3,hk⟩:=hk;obtain @⟨⟩ | @⟨_,d4,_,_,k4,hk⟩:=hk;obtain @⟨⟩ | @⟨_,d5,_,_,k5,hk⟩:=hk;cases hk;obtain⟨x1,rfl⟩:=k1;obtain⟨x2,rfl,w2⟩:=k2;obtain⟨x3,rfl⟩:=k3;obtain⟨x4,rfl⟩:=k4;obtain⟨x5,rfl⟩:=k5;exact ev303 x1 x2 x3 x4 x5 n h
 ·intro ds hk h;obtain @⟨⟩ | @⟨_,d1,_,_,k1,hk⟩:=hk;obtain @⟨⟩ | @⟨_,d2,_,_,k2,hk⟩:=hk;obtain @⟨⟩ | @⟨_,d3,_,_,k3,hk⟩:=hk;obtain @⟨⟩ | @⟨_,d4,_,_,k4,hk⟩:=hk;obtain @⟨⟩ | @⟨_,d5,_,_,k5,hk⟩:=hk;cases hk;obtain⟨x1,rfl⟩:=k1;obtain⟨x2,rfl,w2⟩:=k2;obtain⟨x3,rfl⟩:=k3;obtain⟨x4,rfl⟩:=k4;obtain⟨x5,rfl⟩:=k5;exact ev304 x1 x2 x3 x4 x5 n h
 ·intro ds hk h;obtain @⟨⟩ | @⟨_,d1,_,_,k1,hk⟩:=hk;obtain @⟨⟩ | @⟨_,d2,_,_,k2,hk⟩:=hk;cases hk;obtain⟨x1,rfl⟩:=k1;obtain⟨x2,rfl⟩:=k2;exact ev305 x1 x2 n h
 ·simp[xOA] at hr
 ·simp[xOA] at hr
 ·simp[xOA] at hr
 ·cases hk
def qTJ(base tab:List (Nat×Ctr))(r:Nat)(f:FuncId):Option Ctr :=
 match lk f tab with
 | some c=>if xHG c.fn<r || (r==5&&xOA c.fn) then some c else none
 | none=>lk f base
def hn3(k:Nat):List (Nat×Nat×Nat×Hint):=if k==301 then [(0,999999,0,([],0)),(45,0,1,([],0))] else [(120,0,5,([(.slot 2,.bool)],1)),(120,2,5,([],1))]
def zXH(P:Program)(base tab:List (Nat×Ctr))(f:FuncId)(c:Ctr):Bool :=
 match P.funcs[f]? with
 | some fn =>
  match runF ⟨P,qTJ base tab (xHG c.fn),lookH (hn3 c.fn)⟩ 100000 8 c fn with
  | some (d,os)=>noRd c.res&&(d.beq (deK3 c.fn)&&yAC os (obK3 c.fn))
  | none=>false
 | none=>false
def ctrOk3?(P:Program)(base tab:List (Nat×Ctr))(f:FuncId)(c:Ctr):Bool :=
 known3? c.fn&&areA P (sig3 c.fn) c.args&&c.pre&&zXH P base tab f c
theorem xLK{k:Nat}(hk:known3? k=true):xHG k=5↔xOA k=true:=by
 unfold known3? at hk;split at hk
 all_goals first|cases hk;done|decide
theorem zJE{base tab:List (Nat×Ctr)}{r:Nat}{f:FuncId}{c:Ctr}(h:qTJ base tab r f=some c):(lk f tab=some c/\(xHG c.fn<r∨(r=5/\xOA c.fn=true)))∨(lk f tab=none/\lk f base=some c):=by
 unfold qTJ at h;split at h
 ·rename_i c' hc;split at h
  ·rename_i hb;cases h;simp only[Bool.or_eq_true,dtZ,baZ,beq_iff_eq] at hb;exact .inl ⟨hc,hb⟩
  ·cases h
 ·rename_i hn;exact .inr ⟨hn,h⟩
theorem qYH{P:Program}{A B:Nat->List D->Prop}{base tab:List (Nat×Ctr)}(hnm:yWA P)(hord:P.follows .mixedOrders=true){f:FuncId}{c:Ctr}(hrun:zXH P base tab f c=true)(hsig:areA P (sig3 c.fn) c.args=true)(hpre:c.pre=true)
  (hc:∀g d,qTJ base tab (xHG c.fn) g=some d->xDA P X A g d) (hX:∀ds,KsOk (sig3 c.fn) ds->B c.fn ds->zCA X A (obK3 c.fn) ds/\(deK3 c.fn).eval X ds=X c.fn ds):xDA P X B f c:=by
 unfold zXH at hrun;split at hrun
 rotate_left
 ·cases hrun
 rename_i fn hf;split at hrun
 rotate_left
 ·cases hrun
 rename_i d os hr;simp only[baZ] at hrun;have e1:=DE.beq_eq hrun.2.1;have e2:=zVB hrun.2.2;subst e1;subst e2
 exact xTB (C:=⟨P,qTJ base tab (xHG c.fn),lookH (hn3 c.fn)⟩) hnm hord hc hf hr (fun ok w vs ds hA hp=>by
  obtain⟨q1,q2⟩:=hX ds (qDE hsig hA) (hp hpre);exact⟨q1,q2,zYC hrun.1 _⟩)
theorem all_ok3{P:Program}{base tab:List (Nat×Ctr)}(hnm:yWA P)(hord:P.follows .mixedOrders=true)(hb:∀f c,lk f base=some c->xDA P X side f c)
  (hchk:∀f c,lk f tab=some c->ctrOk3? P base tab f c=true):∀f c,lk f tab=some c->xDA P X side f c:=by
 have key:∀r f c,lk f tab=some c->xHG c.fn=r->xDA P X side f c:=by
  intro r
  induction r using Nat.strongRecOn with
  | ind r ih =>
   intro f c hl hr;have h:=hchk f c hl;unfold ctrOk3? at h;simp only[baZ] at h;obtain⟨⟨⟨hk,hsig⟩,hpre⟩,hrun⟩:=h;cases hrec:xOA c.fn with
   | false =>
    refine qYH hnm hord hrun hsig hpre (A:=side) (fun g d hg=>?_) (evC c.fn hk hrec);rcases zJE hg with⟨h1,h2⟩|⟨_,h1⟩
    ·rcases h2 with h2|⟨h2,_⟩
     ·exact ih _ (by omega) g d h1 rfl
     ·have:=(xLK hk).1 h2
      rw[hrec] at this;cases this
    ·exact hb g d h1
   | true =>
    have h5:r=5:=by rw[<- hr];exact(xLK hk).2 hrec
    have main:∀n f c,lk f tab=some c->known3? c.fn=true->xOA c.fn=true->areA P (sig3 c.fn) c.args=true->c.pre=true->zXH P base tab f c=true->xDA P X (Pre3 n) f c:=by
     intro n
     induction n with
     | zero =>
      intro f c hl hk hrec hsig hpre hrun;refine qYH hnm hord hrun hsig hpre (A:=fun _ _=>False) (fun g d hg=>?_) (fun ds _ hB=>?_)
      ·rcases zJE hg with⟨h1,_⟩|⟨_,h1⟩
       ·have h:=hchk g d h1;unfold ctrOk3? at h;simp only[baZ] at h;obtain⟨⟨⟨_,_⟩,hp⟩,hr⟩:=h;unfold zXH at hr;split at hr
        ·rename_i fn hf;split at hr
         ·rename_i d' os hr';unfold runF at hr';split at hr'
          ·rename_i body q hb' _;exact⟨⟨fn,body,hf,hb'⟩,fun ok w vs ds _ _ _ h4 _=>(h4 hp).elim⟩
          ·cases hr'
         ·cases hr
        ·cases hr
       ·exact zHD (fun _ h=>h.elim) (hb g d h1)
      ·exact absurd (hB.1 hrec) (by omega)
     | succ n ihn =>
      intro f c hl hk hrec hsig hpre hrun;refine qYH hnm hord hrun hsig hpre (A:=Pre3 n) (fun g d hg=>?_) (evCR c.fn hk hrec n);rcases zJE hg with⟨h1,h2⟩|⟨_,h1⟩
      ·have hr5:=(xLK hk).2 hrec;by_cases hd:xHG d.fn<5
       ·exact zHD (fun _ h=>h.2) (ih (xHG d.fn) (by omega) g d h1 rfl)
       ·have hdr:xOA d.fn=true:=by
         rcases h2 with h2|h2
         ·omega
         ·exact h2.2
        have h:=hchk g d h1;unfold ctrOk3? at h;simp only[baZ] at h;obtain⟨⟨⟨q1,q2⟩,q3⟩,q4⟩:=h;exact ihn g d h1 q1 hdr q2 q3 q4
      ·exact zHD (fun _ h=>h.2) (hb g d h1)
    have hfin:=fun n=>main n f c hl hk hrec hsig hpre hrun
    refine⟨(hfin 0).1,fun ok w vs ds h1 h2 h3 h4 h5=>?_⟩;exact(hfin (yLK c.fn ds+1)).2 ok w vs ds h1 h2 h3 (fun hp=>⟨fun _=>by omega,h4 hp⟩) h5
 exact fun f c h=>key _ f c h rfl
end Go.Mx
namespace Go.Mx
open Go Go.Dx
theorem yQC{P:Program}{X Y:Nat->List D->D}{A B:Nat->List D->Prop}{f:FuncId}{c:Ctr}(hX:∀ds,Y c.fn ds=X c.fn ds)(hp:∀ds,B c.fn ds->A c.fn ds)(hg:∀w M,GlW Y w M->GlW X w M)(h:xDA P X A f c):xDA P Y B f c :=
 ⟨h.1,fun ok w vs ds h1 h2 h3 h4 h5=>by
  have:=h.2 ok w vs ds h1 h2 h3 (fun hq=>hp ds (h4 hq)) (hg _ _ h5)
  rw[hX];exact this⟩
def yTJ(k:Nat):Nat:=if lvl1.elem k then 1 else if lvl2.elem k then 2 else 3
def ctrsU(base tab:List (Nat×Ctr))(r:Nat)(f:FuncId):Option Ctr :=
 match lk f tab with
 | some c=>if yTJ c.fn<r then some c else none
 | none=>lk f base
def rdSig(c:Ctr):Bool :=
 lvls.elem c.fn&&c.pre&&match c.args,c.res with
  | [.rd _ true],.rd _ true=>c.fn != 371
  | [.rd _ true,.val _],.rd _ true=>c.fn==371
  | _,_=>false
def ctrOkU?(P:Program)(base tab:List (Nat×Ctr))(f:FuncId)(c:Ctr):Bool :=
 rdSig c&&match P.funcs[f]? with
  | some fn=>match runF ⟨P,ctrsU base tab (yTJ c.fn),fun _ _ _=>none⟩ 100000 8 c fn with
   | some (d,os)=>d.beq (deU c.fn)&&yAC os (obU c.fn)
   | none=>false
  | none=>false
theorem one_okU{P:Program}{ge:Int}{base tab:List (Nat×Ctr)}(hnm:yWA P)(hord:P.follows .mixedOrders=true){f:FuncId}{c:Ctr}(h:ctrOkU? P base tab f c=true)
  (hc:∀g d,ctrsU base tab (yTJ c.fn) g=some d->xDA P (X1 ge) zOB g d):xDA P (X1 ge) zOB f c:=by
 simp only[ctrOkU?,baZ] at h;obtain⟨hsig,hrun⟩:=h;split at hrun
 rotate_left
 ·cases hrun
 rename_i fn hf;split at hrun
 rotate_left
 ·cases hrun
 rename_i d os hr;simp only[baZ] at hrun;have e1:=DE.beq_eq hrun.1;have e2:=zVB hrun.2;subst e1;subst e2
 simp only[rdSig,baZ] at hsig;obtain⟨⟨hk,hpre⟩,hsig⟩:=hsig;have hk:c.fn∈lvls:=by simpa using hk
 exact xTB (C:=⟨P,ctrsU base tab (yTJ c.fn),fun _ _ _=>none⟩) hnm hord hc hf hr (fun ok w vs ds hA hp=>by
  have hs:=hp hpre;split at hsig
  ·rename_i t1 t2 ha hres;rw[ha] at hA;obtain @⟨⟩ | @⟨_,_,d,_,_,_,_,hA⟩:=hA;cases hA;have h371:c.fn≠371:=by simpa using hsig
   exact⟨yYK hk hs (fun e=>absurd e h371) (fun _=>⟨d,rfl⟩),(xUF c.fn hk _).symm,fun t ht=>by rw[hres] at ht;cases ht⟩
  ·rename_i t1 t2 t3 ha hres;rw[ha] at hA;obtain @⟨⟩ | @⟨_,_,d,_,_,_,_,hA⟩:=hA;obtain @⟨⟩ | @⟨_,_,l,_,_,_,_,hA⟩:=hA;cases hA;have h371:c.fn=371:=by simpa using hsig
   exact⟨yYK hk hs (fun _=>⟨d,l,rfl⟩) (fun e=>absurd h371 e),(xUF c.fn hk _).symm,fun t ht=>by rw[hres] at ht;cases ht⟩
  ·cases hsig)
theorem all_okU{P:Program}{ge:Int}{base tab:List (Nat×Ctr)}(hnm:yWA P)(hord:P.follows .mixedOrders=true)(hb:∀f c,lk f base=some c->xDA P (X1 ge) zOB f c)
  (hchk:∀f c,lk f tab=some c->ctrOkU? P base tab f c=true):∀f c,lk f tab=some c->xDA P (X1 ge) zOB f c:=by
 have key:∀r f c,lk f tab=some c->yTJ c.fn<=r->xDA P (X1 ge) zOB f c:=by
  intro r
  induction r with
  | zero =>
   intro f c _ hr;unfold yTJ at hr;split at hr
   ·omega
   ·split at hr <;> omega
  | succ r ih =>
   intro f c h hr;refine one_okU hnm hord (hchk f c h) (fun g d hg=>?_);unfold ctrsU at hg;split at hg
   ·rename_i c' hc;split at hg
    ·rename_i hlt;cases hg;exact ih g _ hc (by omega)
    ·cases hg
   ·exact hb g d hg
 exact fun f c h=>key _ f c h (Nat.le_refl _)
theorem base_okU{P:Program}{ge:Int}{f:FuncId}{c:Ctr}(hc:isRd c.fn=false)(h9:c.fn≠399)(h:xDA P X side f c):xDA P (X1 ge) zOB f c:=by
 have hk:c.fn∉lvls:=fun hk=>by
  simp only[lvls,List.mem_cons,List.not_mem_nil,or_false] at hk;simp only[isRd,Bool.and_eq_false_iff,decide_eq_false_iff_not] at hc;omega
 refine yQC (fun ds=>?_) (fun ds hs=>?_) (fun w M _ k hk=>absurd rfl hk) h
 ·rw[zEC hk];simp only[Xb,h9,if_false]
 ·unfold zOB at hs;rw[hc] at hs;simpa using hs
def envU(v:Int):List A:=[.int v v,.oct 1000]
structure UP where
 ge:Int
 P:Program
 C:Int->Cfg
 f:Nat
 c:Ctr
noncomputable def runR(P:Program)(C:Cfg)(f:Nat)(c:Ctr)(v:Int):Option (DE×List Ob) :=
 match P.funcs[f]? with
 | some fn=>zWH C 100000 8 c fn [(0,v)]
 | none=>none
noncomputable def UP.run(U:UP)(v:Int):DE×List Ob:=(runR U.P (U.C v) U.f U.c v).getD (.k .nil,[])
noncomputable def UP.S(U:UP)(v:Int):Sx:=sxOf U.ge (envU v) (U.run v).2
noncomputable def UP.xv(U:UP)(v:Int):Nat->List D->D:=XT (X1 U.ge) (U.S v).tab
noncomputable def UP.X(U:UP):Nat->List D->D:=fun k args =>
 if k=148 then (match args with
  | [a,d]=>(U.run a.asInt).1.eval (U.xv a.asInt) [a,d]
  | _=>.nil)
 else if k=308 then .bool true else X1 U.ge k args
def xHD(most:Int)(k:Nat)(ds:List D):Prop :=
 if k=148 then ∃(v:Int) (s:Option (List UInt8)),ds=[.int v,encB s]/\0<=v/\v<=most/\sL s<=1000
 else if k=308 then ∃t:T,ds=[t.d,t.d] else zOB k ds
noncomputable def chkT(U:UP)(fU:Nat)(v:Int):Bool :=
 match runR U.P (U.C v) U.f U.c v,runR U.P (U.C v) fU U.c v with
 | some (d,os),some (d',os')=>d'.beq d&&chkV U.ge (envU v) d os&&chkO (sxOf U.ge (envU v) os) (envU v) os'
 | _,_=>false
theorem XT_ok{ge:Int}{tab:List Nm}(h:∀m∈tab,1000000<=m.n):XOk (XT (X1 ge) tab) absE:=fun k as1 ds hg=>by
 by_cases hk:∀m∈tab,k≠m.n
 ·rw[zYD hk];exact xUJ k as1 ds hg
 ·obtain⟨m,hm,hkm⟩:∃m∈tab,k=m.n:=Classical.byContradiction fun hh=>hk fun m hm e=>hh ⟨m,hm,e⟩
  have:=h m hm
  have h1:lvls.elem k=false:=by
   have:k∉lvls:=fun hk=>by
    simp only[lvls,List.mem_cons,List.not_mem_nil,or_false] at hk;omega
   simpa using this
  have h2:absE k as1 = .any:=by
   unfold absE xUC;rw[h1,if_neg (by simp),if_neg (by omega)]
  rw[h2];trivial
theorem sx_ok{ge:Int}{env:List A}{d:DE}{os:List Ob}(h:chkV ge env d os=true):XOb (sxOf ge env os) (XT (X1 ge) (sxOf ge env os).tab)/\(∀m∈(sxOf ge env os).tab,1000000<=m.n) /\
  zKH (sxOf ge env os) (ttOf (sxOf ge env os).cs) env [] none none os=true/\xJJ (abs absE (ttOf (sxOf ge env os).cs) env d)=true:=by
 unfold chkV at h;simp only[baZ] at h;obtain⟨⟨⟨⟨h1,h2⟩,h3⟩,h4⟩,h5⟩:=h;have hn:∀m∈(sxOf ge env os).tab,1000000<=m.n:=fun m hm=>by simpa using List.all_eq_true.1 h2 m hm
 have hout:∀k,k<1000000 -> ∀m∈(sxOf ge env os).tab,k≠m.n:=fun k hk m hm e=>by
  have:=hn m hm;omega
 refine⟨⟨XT_ok hn,fun m hm args=>XT_def h1 _ (fun _ _=>rfl) m hm args,h3,?_,?_⟩,hn,h4,h5⟩
 ·rw[zYD (hout 399 (by omega))];exact XOb1.h399
 ·rw[zYD (hout 300 (by omega))];exact(XOb1 (ge:=ge)).h300
theorem qRI:∀l:List D,(toTl l).length=l.length
 | []=>by simp[toTl]
 | a::r=>by simp[toTl,qRI r]
theorem yIH:∀ {l:List D},(∀x∈l,smT (toT x)=true)->smTl (toTl l)=true
 | [],_=>by simp[toTl,smTl]
 | a::r,h=>by
  simp only[toTl,smTl,baZ];exact⟨h a List.mem_cons_self,yIH fun x hx=>h x (List.mem_cons_of_mem _ hx)⟩
theorem qUI:∀ {a:A} {d:D},treeA a=true->a.g d->smT (toT d)=true:=by
 intro a
 fun_induction treeA a with
 | case1 n s b l u ih =>
  intro d h hd;rw[baZ] at h;obtain⟨ds,rfl,e0,r0,rfl,_,e1,r1,rfl,_,e2,r2,rfl,_,e3,r3,rfl,hl,e4,r4,rfl,hu,rfl⟩:=hd;have e:toT (.row [e0,e1,e2,e3,e4]) = .mk e0.asInt (decB e1) e2.asBool (decT e3) (decU e4):=by rw[toT]
  rw[e];simp only[smT,baZ];refine⟨?_,?_⟩
  ·have h1:=h.1;split at h1
   ·cases hl;simp[decT,smTo]
   ·rename_i m f;rw[baZ,dtZ] at h1;rcases hl with rfl|⟨ls,rfl,h3,h4⟩
    ·simp[decT,smTo]
    ·have e5:decT (.list ls)=some (toTl ls):=by rw[decT]
     rw[e5];simp only[smTo,baZ,dtZ];exact⟨by rw[qRI];omega,yIH fun x hx=>ih h1.2 (h4 x hx)⟩
   ·cases h1
  ·have h2:=h.2;split at h2
   ·cases hu;simp[decU]
   ·rename_i m f;rw[dtZ] at h2;rcases hu with rfl|⟨ls,rfl,h3,_⟩
    ·simp[decU]
    ·simp only[decU,Option.getD_some,List.length_map,dtZ];omega
   ·cases h2
 | case2=>intro d h hd;cases hd
 | case3=>intro d h hd;cases h
end Go.Mx
namespace Go.Mx
open Go Go.Dx
theorem xYK{P:Program}{C:Cfg}{f:Nat}{c:Ctr}{v:Int}{x:DE×List Ob}(h:runR P C f c v=some x):∃fn,P.funcs[f]? = some fn/\zWH C 100000 8 c fn [(0,v)]=some x:=by
 unfold runR at h;split at h
 ·rename_i fn hf;exact⟨fn,hf,h⟩
 ·cases h
theorem tell_okU{U:UP}{fU:Nat}{most:Int}{ti tby tt:Nat}(hnm:yWA U.P)(hord:U.P.follows .mixedOrders=true)(hcc:U.c=⟨[.val ti,.val tby],.valB tt,148,true⟩)(hsig:areA U.P [.int .i64,.byts] U.c.args=true)
  (hP:∀v,(U.C v).P=U.P) (hctr:∀v f c,(U.C v).ctr f=some c->c.fn<1000000/\xDA U.P (X1 U.ge) zOB f c) (hchk:∀v,0<=v->v<=most->chkT U fU v=true)
  {f:Nat} (hf:f=U.f∨f=fU) (hb:zOE U.P f=true):xDA U.P U.X (xHD most) f U.c:=by
 obtain⟨fn,b,hfn,hbd⟩:=zMD hb;refine⟨⟨fn,b,hfn,hbd⟩,fun ok w vs ds hA hok hRd hp hgw=>?_⟩;have hfn148:U.c.fn=148:=by rw[hcc]
 have hpre:U.c.pre=true:=by rw[hcc]
 have hs:=hp hpre;rw[hfn148] at hs;unfold xHD at hs;rw[if_pos rfl] at hs;obtain⟨v,s,rfl,hv0,hv1,hsl⟩:=hs;have hck:=hchk v hv0 hv1;unfold chkT at hck;split at hck
 rotate_left
 ·cases hck
 rename_i d os d' os' hr1 hr2;simp only[baZ] at hck;obtain⟨⟨hbeq,hcv⟩,hco⟩:=hck;have hd:=DE.beq_eq hbeq;subst hd;have hrun:U.run v=(d',os):=by unfold UP.run;rw[hr1];rfl
 have hS:U.S v=sxOf U.ge (envU v) os:=by unfold UP.S;rw[hrun]
 obtain⟨hx,hn,hos,htr⟩:=sx_ok hcv;have hxv:U.xv v=XT (X1 U.ge) (sxOf U.ge (envU v) os).tab:=by unfold UP.xv;rw[hS]
 have henv:A.gs (envU v) [.int v,encB s]:=⟨_,_,rfl,⟨v,rfl,Int.le_refl _,Int.le_refl _⟩,_,_,rfl,(by
  cases s with
  | none=>exact .inl rfl
  | some s=>exact .inr ⟨s,rfl,hsl⟩),rfl⟩
 have hXr:U.X U.c.fn [.int v,encB s]=d'.eval (U.xv v) [.int v,encB s]:=by
  rw[hfn148];show (U.run (D.int v).asInt).1.eval (U.xv (D.int v).asInt) [.int v,encB s]=_;show (U.run v).1.eval (U.xv v) [.int v,encB s]=_;rw[hrun]
 rw[hXr,hxv];have hgl:GlOk (XT (X1 U.ge) (sxOf U.ge (envU v) os).tab) (Dx.startB ok w U.c.args vs):=fun k hk=>hgw k (by
  rw[zYD (fun m hm e=>by have:=hn m hm;omega)] at hk;exact hk)
 have hall:∀f c,(U.C v).ctr f=some c->xDA (U.C v).P (XT (X1 U.ge) (sxOf U.ge (envU v) os).tab) zOB f c:=fun f c hc=>by
  obtain⟨h1,h2⟩:=hctr v f c hc;rw[hP];refine yQC (fun ds=>?_) (fun _ h=>h) (fun w M hg k hk=>hg k ?_) h2
  ·rw[zYD (fun m hm e=>by have:=hn m hm;omega)]
  ·rw[zYD (fun m hm e=>by have:=hn m hm;omega)];exact hk
 have hgood:∀r,xPJ U.c r:=fun r t ht=>by rw[hcc] at ht;cases ht
 have hkn:∀j k,lk j [(0,v)]=some k->([D.int v,encB s]:List D).getD j .nil = .int k:=fun j k hjk=>by
  simp only[yTA,yLA] at hjk;split at hjk
  ·rename_i hj;cases hjk;rw[beq_iff_eq] at hj;subst hj;rfl
  ·cases hjk
 rcases hf with rfl|rfl
 ·obtain⟨fn',hf',hr⟩:=xYK hr1;rw[hfn] at hf';cases hf'
  have:=qCF (C:=U.C v) (X:=XT (X1 U.ge) (sxOf U.ge (envU v) os).tab) (Pre:=zOB) (by rw[hP];exact hnm) (by rw[hP];exact hord) hall (by rw[hP];exact hfn) hr (by rw[hP];exact hA) hok hkn
   (xQB hx os (K:=none) henv (fun _ h=>by cases h) trivial hos) rfl (hgood _) hgl
  rw[hP] at this;exact this
 ·obtain⟨fn',hf',hr⟩:=xYK hr2;rw[hfn] at hf';cases hf'
  have:=qCF (C:=U.C v) (X:=XT (X1 U.ge) (sxOf U.ge (envU v) os).tab) (Pre:=zOB) (by rw[hP];exact hnm) (by rw[hP];exact hord) hall (by rw[hP];exact hfn) hr (by rw[hP];exact hA) hok hkn
   (xQB hx os' (K:=none) henv (fun _ h=>by cases h) trivial hco) rfl (hgood _) hgl
  rw[hP] at this;exact this
theorem qZK{U:UP}{fU:Nat}{v:Int}{s:Option (List UInt8)}(h:chkT U fU v=true)(hs:sL s<=1000):∃t b,U.X 148 [.int v,encB s] = .row [t,.bool b]/\smT (toT t)=true:=by
 unfold chkT at h;split at h
 rotate_left
 ·cases h
 rename_i d os d' os' hr1 hr2;simp only[baZ] at h;obtain⟨⟨hbeq,hcv⟩,_⟩:=h;have hd:=DE.beq_eq hbeq;subst hd;have hrun:U.run v=(d',os):=by unfold UP.run;rw[hr1];rfl
 have hS:U.S v=sxOf U.ge (envU v) os:=by unfold UP.S;rw[hrun]
 obtain⟨hx,hn,hos,htr⟩:=sx_ok hcv;have hxv:U.xv v=XT (X1 U.ge) (sxOf U.ge (envU v) os).tab:=by unfold UP.xv;rw[hS]
 have henv:A.gs (envU v) [.int v,encB s]:=⟨_,_,rfl,⟨v,rfl,Int.le_refl _,Int.le_refl _⟩,_,_,rfl,(by
  cases s with
  | none=>exact .inl rfl
  | some s=>exact .inr ⟨s,rfl,hs⟩),rfl⟩
 have hXr:U.X 148 [.int v,encB s]=d'.eval (U.xv v) [.int v,encB s]:=by
  show (U.run v).1.eval (U.xv v) [.int v,encB s]=_;rw[hrun]
 have hg:=xSB hx.e (zXB hx.e hx.tab hx.cs).1 henv d';rw[hXr,hxv];have htr':xJJ (abs (sxOf U.ge (envU v) os).E (ttOf (sxOf U.ge (envU v) os).cs) (envU v) d')=true:=htr;unfold xJJ at htr';split at htr'
 ·rename_i t ha;rw[ha] at hg;obtain⟨ds,e,hds⟩:=hg;obtain⟨x,y,rfl,h1,⟨b,rfl⟩⟩:=gs2 hds;exact⟨x,b,e,qUI htr' h1⟩
 ·cases htr'
def sideN(most:Int)(n:Nat)(k:Nat)(ds:List D):Prop:=xHD most k ds/\(k=308 -> ∃t:T,ds=[t.d,t.d]/\wT t<n)
def ctrS(base:List (Nat×Ctr))(f:Nat)(c:Ctr)(g:Nat):Option Ctr:=if g=f then some c else lk g base
def sameOk?(P:Program)(base:List (Nat×Ctr))(f:Nat)(c:Ctr):Bool :=
 c.fn==308&&c.pre&&areA P [.tree,.tree] c.args&&noRd c.res&&match P.funcs[f]? with
  | some fn=>match runF ⟨P,ctrS base f c,fun _ _ _=>none⟩ 100000 8 c fn with
   | some (d,os)=>d.beq de308&&yAC os ob308
   | none=>false
  | none=>false
theorem foldF{X:Nat->List D->D}{body:DE}{J:List D}{rows:List D}(h:∀(i:Nat) (r:D),rows[i]? = some r->zDA X [body] (J++(.int i::r::[.bool false]))=[.bool false]) :
  ∀k,k<=rows.length->zQA (fun(i:Nat) r acc=>zDA X [body] (J++(.int i::r::acc))) 0 (rows.take k) [.bool false]=[.bool false]:=by
 intro k
 induction k with
 | zero=>intro _;simp[zQA]
 | succ k ih =>
  intro hk;have e1:rows.take (k+1)=rows.take k++[rows[k]]:=by rw[List.take_add_one,List.getElem?_eq_getElem (by omega)];rfl
  rw[e1,xRA,ih (by omega)];simp only[Nat.zero_add,List.length_take,Nat.min_eq_left (Nat.le_of_lt (by omega:k<rows.length))];exact h k _ (List.getElem?_eq_getElem (by omega))
theorem qYK:∀ {l:List T} {i:Nat} {r:D},(tds l)[i]? = some r -> ∃t,l[i]? = some t/\r=t.d
 | [],i,r,h=>by simp[tds] at h
 | t::l,0,r,h=>by simp only[tds,List.getElem?_cons_zero,Option.some.injEq] at h;exact⟨t,rfl,h.symm⟩
 | t::l,i+1,r,h=>by
  simp only[tds,List.getElem?_cons_succ] at h;obtain⟨t',h1,h2⟩:=qYK h;exact⟨t',by simpa using h1,h2⟩
theorem rowsT(o:Option (List T)):(encT o).rows=tds (o.getD []):=by cases o <;> rfl
def xJH:DE:=.f .ite [.v 4,.k (.bool true),.f .not [.f (.ext 308) [.v 3,.f .at [.f (.get 3) [.v 1],.v 2]]]]
def xKH:DE:=.f .ite [.v 4,.k (.bool true),.f .ite [.f .neI [.f (.get 0) [.v 3],.f (.get 0) [.f .at [.f (.get 4) [.v 1],.v 2]]],.k (.bool true),.f .not [.f (.ext 52) [.f (.get 1) [.v 3],.f (.get 1) [.f .at [.f (.get 4) [.v 1],.v 2]]]]]]
theorem qCK{X:Nat->List D->D}(h308:∀l,X 308 l = .bool true)(h52:∀a b:D,X 52 [a,b] = .bool (a.asStr==b.asStr)){Q:Nat->List D->Prop}{t:T}(hQ52:∀a b,Q 52 [a,b])(hQ:∀x∈t.L,Q 308 [x.d,x.d]) :
  zCA X Q ob308 [t.d,t.d]/\de308.eval X [t.d,t.d] = .bool true:=by
 obtain⟨n,s,b,l,u⟩:=t;have hc1:∀c:DE,c=(.f .ite [.f .neI [.f (.get 0) [.v 0],.f (.get 0) [.v 1]],.k (.bool true),.f .ite [.f .ite [.f (.get 2) [.v 0],.f .not [.f (.get 2) [.v 1]],.f (.get 2) [.v 1]],.k (.bool true),.f .ite [.f .not [.f (.ext 52) [.f (.get 1) [.v 0],.f (.get 1) [.v 1]]],.k (.bool true),.f .ite [.f .neI [.f .len [.f (.get 3) [.v 0]],.f .len [.f (.get 3) [.v 1]]],.k (.bool true),.f .neI [.f .len [.f (.get 4) [.v 0]],.f .len [.f (.get 4) [.v 1]]]]]]]) ->
   (c.eval X [(T.mk n s b l u).d,(T.mk n s b l u).d]).asBool=false:=by
  intro c hc;subst hc;have e1:(DE.f .neI [.f (.get 0) [.v 0],.f (.get 0) [.v 1]]).eval X [(T.mk n s b l u).d,(T.mk n s b l u).d] = .bool (n != n):=by
   simp only[T.d];rfl
  have e2:(DE.f .ite [.f (.get 2) [.v 0],.f .not [.f (.get 2) [.v 1]],.f (.get 2) [.v 1]]).eval X [(T.mk n s b l u).d,(T.mk n s b l u).d] = .bool (if b then !b else b):=by
   simp only[T.d];cases b <;> rfl
  have e3:(DE.f .not [.f (.ext 52) [.f (.get 1) [.v 0],.f (.get 1) [.v 1]]]).eval X [(T.mk n s b l u).d,(T.mk n s b l u).d] = .bool (!((encB s).asStr==(encB s).asStr)):=by
   have:(DE.f .not [.f (.ext 52) [.f (.get 1) [.v 0],.f (.get 1) [.v 1]]]).eval X [(T.mk n s b l u).d,(T.mk n s b l u).d] = .bool (!(X 52 [encB s,encB s]).asBool):=by simp only[T.d];rfl
   rw[this,h52];rfl
  have e4:(DE.f .neI [.f .len [.f (.get 3) [.v 0]],.f .len [.f (.get 3) [.v 1]]]).eval X [(T.mk n s b l u).d,(T.mk n s b l u).d] = .bool (((encT l).len:Int) != ((encT l).len:Int)):=by simp only[T.d];rfl
  have e5:(DE.f .neI [.f .len [.f (.get 4) [.v 0]],.f .len [.f (.get 4) [.v 1]]]).eval X [(T.mk n s b l u).d,(T.mk n s b l u).d] = .bool (((encU u).len:Int) != ((encU u).len:Int)):=by simp only[T.d];rfl
  rw[xMA,e1,xMA,e2,xMA,e3,xMA,e4,e5];cases b <;> simp[D.asBool]
 have hg3:(DE.f (.get 3) [.v 0]).eval X [(T.mk n s b l u).d,(T.mk n s b l u).d]=encT l:=by simp only[T.d];rfl
 have hg4:(DE.f (.get 4) [.v 0]).eval X [(T.mk n s b l u).d,(T.mk n s b l u).d]=encU u:=by simp only[T.d];rfl
 have hat3:∀(i:Nat) (r:D) (e:D),(DE.f .at [.f (.get 3) [.v 1],.v 2]).eval X ([(T.mk n s b l u).d,(T.mk n s b l u).d]++(.int i::r::[e]))=(encT l).rows.getD i .nil:=fun i r e=>by
  simp only[T.d];rfl
 have hat4:∀(i:Nat) (r:D) (e:D),(DE.f .at [.f (.get 4) [.v 1],.v 2]).eval X ([(T.mk n s b l u).d,(T.mk n s b l u).d]++(.int i::r::[e]))=(encU u).rows.getD i .nil:=fun i r e=>by
  simp only[T.d];rfl
 have hbL:∀(i:Nat) (r:D),(encT l).rows[i]? = some r->zDA X [xJH] ([(T.mk n s b l u).d,(T.mk n s b l u).d]++(.int i::r::[.bool false]))=[.bool false]:=fun i r hr=>by
  have:zDA X [xJH] ([(T.mk n s b l u).d,(T.mk n s b l u).d]++(.int i::r::[.bool false]))=[.bool (!(X 308 [r,(DE.f .at [.f (.get 3) [.v 1],.v 2]).eval X ([(T.mk n s b l u).d,(T.mk n s b l u).d]++(.int i::r::[.bool false]))]).asBool)]:=rfl
  rw[this,h308];rfl
 have hbU:∀(i:Nat) (r:D),(encU u).rows[i]? = some r->zDA X [xKH] ([(T.mk n s b l u).d,(T.mk n s b l u).d]++(.int i::r::[.bool false]))=[.bool false]:=fun i r hr=>by
  have hat:=hat4 i r (.bool false);have hri:(encU u).rows.getD i .nil=r:=by rw[List.getD_eq_getElem?_getD,hr];rfl
  rw[hri] at hat
  have:zDA X [xKH] ([(T.mk n s b l u).d,(T.mk n s b l u).d]++(.int i::r::[.bool false])) =
    [if ((r.cells.getD 0 .nil).asInt != (((DE.f .at [.f (.get 4) [.v 1],.v 2]).eval X ([(T.mk n s b l u).d,(T.mk n s b l u).d]++(.int i::r::[.bool false]))).cells.getD 0 .nil).asInt) then .bool true
     else .bool (!(X 52 [r.cells.getD 1 .nil,((DE.f .at [.f (.get 4) [.v 1],.v 2]).eval X ([(T.mk n s b l u).d,(T.mk n s b l u).d]++(.int i::r::[.bool false]))).cells.getD 1 .nil]).asBool)]:=rfl
  rw[this,hat,h52];simp[D.asBool]
 have hfL:=foldF (X:=X) (body:=xJH) hbL;have hfU:=foldF (X:=X) (body:=xKH) hbU;have hfoldL:((DE.fold 2 (.f (.get 3) [.v 0]) [.k (.bool false)] [xJH] 0).eval X [(T.mk n s b l u).d,(T.mk n s b l u).d]) = .bool false:=by
  have:=hfL _ (Nat.le_refl _)
  rw[List.take_length] at this;simp only[DE.eval];show (zQA _ 0 ((DE.f (.get 3) [.v 0]).eval X [(T.mk n s b l u).d,(T.mk n s b l u).d]).rows [D.bool false]).getD 0 .nil=_;rw[hg3];exact congrArg (fun x:List D=>x.getD 0 .nil) this
 have hfoldU:((DE.fold 2 (.f (.get 4) [.v 0]) [.k (.bool false)] [xKH] 0).eval X [(T.mk n s b l u).d,(T.mk n s b l u).d]) = .bool false:=by
  have:=hfU _ (Nat.le_refl _)
  rw[List.take_length] at this;simp only[DE.eval];show (zQA _ 0 ((DE.f (.get 4) [.v 0]).eval X [(T.mk n s b l u).d,(T.mk n s b l u).d]).rows [D.bool false]).getD 0 .nil=_;rw[hg4];exact congrArg (fun x:List D=>x.getD 0 .nil) this
 have hlenL:(encT l).rows.length=(encT l).len:=by cases l <;> rfl
 have hlenU:(encU u).rows.length=(encU u).len:=by cases u <;> rfl
 have hg31:∀(i:Nat) (r e:D),(DE.f (.get 3) [.v 1]).eval X ([(T.mk n s b l u).d,(T.mk n s b l u).d]++(.int i::r::[e]))=encT l:=fun i r e=>by simp only[T.d];rfl
 have hg41:∀(i:Nat) (r e:D),(DE.f (.get 4) [.v 1]).eval X ([(T.mk n s b l u).d,(T.mk n s b l u).d]++(.int i::r::[e]))=encU u:=fun i r e=>by simp only[T.d];rfl
 refine⟨⟨fun _=>⟨fun _=>⟨?_,trivial⟩,?_,trivial⟩,fun _=>⟨fun _=>⟨hQ52 _ _,trivial⟩,trivial⟩,trivial⟩,?_⟩
 ·skip
  intro k hk;rw[hg4] at hk ⊢;have ha:=hfU k (Nat.le_of_lt hk);have ha':zQA (fun(i:Nat) r acc=>zDA X [xKH] ([(T.mk n s b l u).d,(T.mk n s b l u).d]++(.int i::r::acc))) 0 ((encU u).rows.take k) (zDA X [.k (.bool false)] [(T.mk n s b l u).d,(T.mk n s b l u).d])=[.bool false]:=ha;show zCA X Q _ ([(T.mk n s b l u).d,(T.mk n s b l u).d]++(.int k::(encU u).rows.getD k .nil::zQA (fun(i:Nat) r acc=>zDA X [xKH] ([(T.mk n s b l u).d,(T.mk n s b l u).d]++(.int i::r::acc))) 0 ((encU u).rows.take k) (zDA X [.k (.bool false)] [(T.mk n s b l u).d,(T.mk n s b l u).d])));rw[ha'];have hidx:(Ob.idx (.v 2) (.f (.get 4) [.v 1]) true).holds X Q ([(T.mk n s b l u).d,(T.mk n s b l u).d]++(.int k::(encU u).rows.getD k .nil::[.bool false])):=by
   simp only[Ob.holds];rw[hg41];exact⟨Int.natCast_nonneg k,by show k<(encU u).len;omega⟩
  exact⟨fun _=>⟨fun _=>⟨hQ52 _ _,hidx,trivial⟩,hidx,trivial⟩,trivial⟩
 ·skip
  intro k hk;rw[hg3] at hk ⊢;have ha:=hfL k (Nat.le_of_lt hk);have ha':zQA (fun(i:Nat) r acc=>zDA X [xJH] ([(T.mk n s b l u).d,(T.mk n s b l u).d]++(.int i::r::acc))) 0 ((encT l).rows.take k) (zDA X [.k (.bool false)] [(T.mk n s b l u).d,(T.mk n s b l u).d])=[.bool false]:=ha;show zCA X Q _ ([(T.mk n s b l u).d,(T.mk n s b l u).d]++(.int k::(encT l).rows.getD k .nil::zQA (fun(i:Nat) r acc=>zDA X [xJH] ([(T.mk n s b l u).d,(T.mk n s b l u).d]++(.int i::r::acc))) 0 ((encT l).rows.take k) (zDA X [.k (.bool false)] [(T.mk n s b l u).d,(T.mk n s b l u).d])));rw[ha'];have hidx:(Ob.idx (.v 2) (.f (.get 3) [.v 1]) true).holds X Q ([(T.mk n s b l u).d,(T.mk n s b l u).d]++(.int k::(encT l).rows.getD k .nil::[.bool false])):=by
   simp only[Ob.holds];rw[hg31];exact⟨Int.natCast_nonneg k,by show k<(encT l).len;omega⟩
  refine⟨fun _=>⟨?_,hidx,trivial⟩,trivial⟩;have hgk:(encT l).rows[k]? = some ((encT l).rows.getD k .nil):=by
   rw[List.getD_eq_getElem?_getD,List.getElem?_eq_getElem hk];rfl
  have hgk2:=hgk;rw[rowsT] at hgk2;obtain⟨x,hx,hxd⟩:=qYK hgk2;have e:zDA X [.v 3,.f .at [.f (.get 3) [.v 1],.v 2]] ([(T.mk n s b l u).d,(T.mk n s b l u).d]++(.int k::(encT l).rows.getD k .nil::[.bool false]))=[x.d,x.d]:=by
   rw[zAA,zAA,zBA,hat3];show [(encT l).rows.getD k .nil,(encT l).rows.getD k .nil]=_;rw[rowsT,hxd]
  simp only[Ob.holds];rw[e];exact hQ x (List.mem_of_getElem? hx)
 ·skip
  show (DE.f .ite [_,.k (.bool false),.f .ite [.fold 2 (.f (.get 3) [.v 0]) [.k (.bool false)] [xJH] 0,.k (.bool false),.f .ite [.fold 2 (.f (.get 4) [.v 0]) [.k (.bool false)] [xKH] 0,.k (.bool false),.k (.bool true)]]]).eval X _=_;rw[xMA,hc1 _ rfl,xMA,hfoldL,xMA,hfoldU];rfl
end Go.Mx
namespace Go.Mx
open Go Go.Dx
theorem UP.X_out{U:UP}{k:Nat}(h1:k≠148)(h2:k≠308):U.X k=X1 U.ge k:=by
 funext args;simp only[UP.X,h1,h2,if_false]
theorem UP.X_308{U:UP}(l:List D):U.X 308 l = .bool true:=by simp only[UP.X];rfl
theorem move_okL{U:UP}{most:Int}{f:FuncId}{c:Ctr}(h1:c.fn≠148)(h2:c.fn≠308)(h:xDA U.P (X1 U.ge) zOB f c):xDA U.P U.X (xHD most) f c:=by
 refine yQC (fun ds=>by rw[UP.X_out h1 h2]) (fun ds hs=>?_) (fun w M hg k hk=>hg k ?_) h
 ·simp only[xHD,h1,h2,if_false] at hs;exact hs
 ·rw[UP.X_out (by omega) (by omega)];exact hk
theorem same_okU{U:UP}{most:Int}(hnm:yWA U.P)(hord:U.P.follows .mixedOrders=true){base:List (Nat×Ctr)}{f:Nat}{c:Ctr}(h:sameOk? U.P base f c=true)
  (hb:∀g d,lk g base=some d->d.fn≠148/\d.fn≠308/\xDA U.P (X1 U.ge) zOB g d):xDA U.P U.X (xHD most) f c:=by
 simp only[sameOk?,baZ,beq_iff_eq] at h;obtain⟨⟨⟨⟨hfn,hpre⟩,hsig⟩,hnr⟩,hrun⟩:=h;split at hrun
 rotate_left
 ·cases hrun
 rename_i fn hf;split at hrun
 rotate_left
 ·cases hrun
 rename_i d os hr;simp only[baZ] at hrun;have e1:=DE.beq_eq hrun.1;have e2:=zVB hrun.2;subst e1;subst e2
 have hbody:∃fn b,U.P.funcs[f]? = some fn/\fn.body=some b:=by
  unfold runF at hr;split at hr
  ·rename_i body q hb _;exact⟨fn,body,hf,hb⟩
  ·cases hr
 have h52:∀a b:D,U.X 52 [a,b] = .bool (a.asStr==b.asStr):=fun a b=>by
  rw[UP.X_out (by decide) (by decide),zEC (by decide +kernel)];rfl
 have main:∀n,xDA U.P U.X (sideN most n) f c:=by
  intro n
  induction n with
  | zero =>
   refine⟨hbody,fun ok w vs ds _ _ _ hp _=>?_⟩
   have:=(hp hpre).2 hfn
   obtain⟨t,_,h⟩:=this;omega
  | succ n ih =>
   refine xTB (C:=⟨U.P,ctrS base f c,fun _ _ _=>none⟩) (Pre:=sideN most n) hnm hord (fun g d hg=>?_) hf hr (fun ok w vs ds hA hp=>?_)
   ·simp only[ctrS] at hg;split at hg
    ·rename_i hgf;cases hg;subst hgf;exact ih
    ·obtain⟨k1,k2,k3⟩:=hb g d hg;exact yQC (fun _=>rfl) (fun ds hs=>hs.1) (fun _ _ h=>h) (move_okL (most:=most) k1 k2 k3)
   ·obtain⟨t,e,hlt⟩:=(hp hpre).2 hfn;subst e
    have:=qCK (X:=U.X) UP.X_308 h52 (Q:=sideN most n) (t:=t) (fun a b=>⟨by
     simp only[xHD];show zOB 52 [a,b];show side 52 [a,b];trivial,fun h=>by cases h⟩) (fun x hx=>⟨by
     simp only[xHD];exact⟨x,rfl⟩,fun _=>⟨x,rfl,by have:=wT_L hx;omega⟩⟩)
    refine⟨this.1,?_,zYC hnr _⟩;rw[this.2,hfn];exact(UP.X_308 _).symm
 refine⟨hbody,fun ok w vs ds h1 h2 h3 h4 h5=>?_⟩;have hs:=h4 hpre;have hs':=hs;rw[hfn] at hs';simp only[xHD] at hs';obtain⟨t,e⟩:∃t:T,ds=[t.d,t.d]:=hs';exact(main (wT t+1)).2 ok w vs ds h1 h2 h3 (fun _=>⟨hs,fun _=>⟨t,e,Nat.lt_succ_self _⟩⟩) h5
def xOF(m:Int):DE:=.f (.ext 148) [.f (.ext 58) [.v 0,.k (.int m)],.v 1]
def oneU(m:Int):DE:=.f (.get 1) [xOF m]
def gotU(m:Int):DE:=.f (.ext 44) [.f (.get 0) [xOF m]]
def bigU(n:Int):DE:=.f .ltI [.k (.int n),.f .len [.v 1]]
def bothU(m:Int):DE:=.f .ite [oneU m,oneU m,.f .not [oneU m]]
def lawEU(m:Int):DE:=.f .ite [bigU 2147483647,.k (.bool true),.f .ite [bigU 1000,.k (.bool true),.f .ite [bothU m,.f .ite [.f .not [oneU m],.k (.bool true),.f (.ext 308) [gotU m,gotU m]],.k (.bool false)]]]
def lawOU(m:Int):List Ob:=[.when (bigU 2147483647) false [.when (bigU 1000) false [.when (bothU m) true [.when (.f .not [oneU m]) false [.pre 308 [gotU m,gotU m],.pre 44 [.f (.get 0) [xOF m]],.pre 44 [.f (.get 0) [xOF m]]]],
 .pre 148 [.f (.ext 58) [.v 0,.k (.int m)],.v 1],.pre 58 [.v 0,.k (.int m)],.pre 148 [.f (.ext 58) [.v 0,.k (.int m)],.v 1],.pre 58 [.v 0,.k (.int m)]]]]
theorem law_okU{U:UP}{fU:Nat}{most:Int}(hm:0<=most/\most<=1000)(hchk:∀v,0<=v->v<=most->chkT U fU v=true){n:Int}(hn:0<=n)(s:Option (List UInt8)) :
  zCA U.X (xHD most) (lawOU most) [.int n,encB s]/\(lawEU most).eval U.X [.int n,encB s] = .bool true:=by
 have h58:U.X 58 [.int n,.int most] = .int (n%(most+1)):=by
  rw[UP.X_out (by decide) (by decide),zEC (by decide +kernel)];rfl
 have hv0:0<=n%(most+1):=Int.emod_nonneg _ (by omega);have hv1:n%(most+1)<=most:=by have:=Int.emod_lt_of_pos n (show 0<most+1 by omega);omega
 have e58:(DE.f (.ext 58) [.v 0,.k (.int most)]).eval U.X [.int n,encB s] = .int (n%(most+1)):=by
  rw[ev_f,zNA];exact h58
 have hbig:∀k:Int,((bigU k).eval U.X [.int n,encB s]).asBool=decide (k<((encB s).len:Nat)):=fun k=>rfl
 have hdef:∀c:Bool,c=true -> ∀x:D,(if c=true then D.bool true else x) = .bool true:=fun c hc x=>by rw[hc];rfl
 by_cases hs:sL s<=1000
 ·obtain⟨t,b,e1,e2⟩:=qZK (s:=s) (hchk _ hv0 hv1) hs;have et:(xOF most).eval U.X [.int n,encB s] = .row [t,.bool b]:=by
   rw[xOF,ev_f,zNA,zAA,zAA,zBA,e58];exact e1
  have eo:(oneU most).eval U.X [.int n,encB s] = .bool b:=by
   show ((xOF most).eval U.X [.int n,encB s]).cells.getD 1 .nil=_;rw[et];rfl
  have e0:(DE.f (.get 0) [xOF most]).eval U.X [.int n,encB s]=t:=by
   show ((xOF most).eval U.X [.int n,encB s]).cells.getD 0 .nil=_;rw[et];rfl
  have eg:(gotU most).eval U.X [.int n,encB s]=(given (toT t)).d:=by
   rw[gotU,ev_f,zNA,zAA,zBA,e0,UP.X_out (by decide) (by decide),zEC (by decide +kernel)];rfl
  have ebo:((bothU most).eval U.X [.int n,encB s]).asBool=true:=by
   rw[bothU,xMA,eo]
   have:(DE.f .not [oneU most]).eval U.X [.int n,encB s] = .bool (!((oneU most).eval U.X [.int n,encB s]).asBool):=rfl
   rw[this,eo];cases b <;> rfl
  have p148:(Ob.pre 148 [.f (.ext 58) [.v 0,.k (.int most)],.v 1]).holds U.X (xHD most) [.int n,encB s]:=by
   simp only[Ob.holds];rw[zAA,zAA,zBA,e58];exact⟨_,s,rfl,hv0,hv1,hs⟩
  have p58:(Ob.pre 58 [.v 0,.k (.int most)]).holds U.X (xHD most) [.int n,encB s]:=by
   show 0<=n/\0<=most/\most<=1000;exact⟨hn,hm.1,hm.2⟩
  have p44:(Ob.pre 44 [.f (.get 0) [xOF most]]).holds U.X (xHD most) [.int n,encB s]:=by
   simp only[Ob.holds];rw[zAA,zBA,e0];show smT (toT t)=true;exact e2
  refine⟨⟨fun _=>⟨fun _=>⟨fun _=>⟨fun _=>⟨?_,p44,p44,trivial⟩,trivial⟩,p148,p58,p148,p58,trivial⟩,trivial⟩,trivial⟩,?_⟩
  ·simp only[Ob.holds];rw[zAA,zAA,zBA,eg];exact⟨_,rfl⟩
  ·rw[lawEU,xMA,xMA,xMA,ebo,xMA];have h308:(DE.f (.ext 308) [gotU most,gotU most]).eval U.X [.int n,encB s] = .bool true:=by
    rw[ev_f,zNA];exact UP.X_308 _
   rw[h308];simp only[if_true,ev_k];split <;> (try split) <;> (try split) <;> rfl
 ·have hgt:decide ((1000:Int)<((encB s).len:Nat))=true:=by
   rw[yDH];simp;omega
  refine⟨⟨fun _=>⟨fun h=>?_,trivial⟩,trivial⟩,?_⟩
  ·rw[hbig,hgt] at h;cases h
  ·rw[lawEU,xMA];split
   ·rfl
   ·rw[xMA,hbig,hgt];rfl
theorem law_callsU{U:UP}{C:Cfg}(hP:C.P=U.P)(hnm:yWA U.P)(hord:U.P.follows .mixedOrders=true){most:Int}{fU:Nat}(hctr:∀f c,C.ctr f=some c->xDA U.P U.X (xHD most) f c){f:Nat}{tu tby tb:Nat}
  (hrun:qII U.P C f ⟨[.val tu,.val tby],.val tb,200,false⟩ [] (lawEU most) (lawOU most)=true) (hu:isI U.P .u8 tu=true) (hsig:areA U.P [.int .u8,.byts] [.val tu,.val tby]=true)
  (hm:0<=most/\most<=1000) (hchk:∀v,0<=v->v<=most->chkT U fU v=true) {ok:Nat->Prop} {w:World} {n:Int} {bv:Value} {bd:D} (hn:(Lit.int .u8 n).wf=true) (hb:Rep U.P ok w tby bv bd) (hok:∀b,ok b->b<w.heap.size)
  (hgl:∃t x ty fz,∃k:Nat,U.ge=k/\w.heap[k]? = some (.cells #[.iface t x] ty fz)) :
  Calls U.P f #[.int .u8 n,bv] w fun e w'=>e = .returned (.bool true)/\Fr (fun _=>False) w w':=by
 obtain⟨fn,hf,hr⟩:=yCH hrun;have hA:ArgsOk U.P ok w [.val tu,.val tby] [.int .u8 n,bv] [.int n,bd]:=.cons (.val (.int (xII hu) hn)) (.cons (.val hb) .nil);have hks:=qDE hsig hA;obtain @⟨⟩ | @⟨_,_,_,_,_,hks⟩:=hks;obtain @⟨⟩ | @⟨_,_,_,_,kb,hks⟩:=hks;obtain⟨s,rfl⟩:=kb;obtain⟨hn0,hn1⟩:=wf_u8 hn;have hlaw:=law_okU hm hchk hn0 s;have hW:∀b,¬Wr w [AK.val tu,.val tby] [.int .u8 n,bv] b:=fun b h=>by simp[Wr,wrA] at h
 have hg:GlW U.X w (Wr w [AK.val tu,.val tby] [.int .u8 n,bv]):=fun k hk=>by
  obtain⟨t,x,ty,fz,j,hj,hc⟩:=hgl;refine⟨hW k,t,x,ty,fz,?_⟩
  have:(k:Int)=U.ge:=by
   rw[UP.X_out (by decide) (by decide),zEC (by decide +kernel)] at hk;have hk:(if (k:Int)=U.ge then D.int 1 else D.int 0).asInt≠0:=hk;split at hk
   ·assumption
   ·exact absurd rfl hk
  have hkj:k=j:=by omega
  rw[hkj];exact hc
 have:=qCF (C:=C) (X:=U.X) (Pre:=xHD most) (c:=⟨[.val tu,.val tby],.val tb,200,false⟩) (r:=.bool true) (by rw[hP];exact hnm) (by rw[hP];exact hord) (fun f c h=>by rw[hP];exact hctr f c h) (by rw[hP];exact hf) hr (by rw[hP];exact hA) (fun b hb=>⟨hok b hb,hW b⟩)
  (fun j k hj=>by simp[yTA,yLA] at hj) hlaw.1 hlaw.2 (zYC rfl _) hg
 rw[hP] at this;refine Calls.mono this (fun e w' he=>?_);obtain⟨v,rfl,hfr,hres⟩:=he;have e1:Rep U.P (fun b=>ok b∨w.heap.size<=b) w' tb v (.bool true):=hres (fun b=>ok b∨w.heap.size<=b) (fun _ h=>.inl h) (fun _ h _=>.inr h);refine⟨?_,hfr.mono (fun b _ hb=>(hW b hb).elim)⟩;cases e1;rfl
end Go.Mx
namespace Go.Mx
open Go Go.Dx
theorem yVE{P:Program}{W:World}:∀ {l:List (String×DataW Unit)} {ps:List MemPlace},DataW.LaidVars P W l ps -> ∀x∈l,∃g t cs fuel p,P.globalNamed x.1=some g/\(P.globals[g]?).map (·.type)=some t/\W.var? P x.1=some cs /\
  DataW.trod (fun _=>()) P W 0 (fun _=>true) false fuel t cs.toList=some (x.2,p)
 | [],_,_,x,hx=>by cases hx
 | (n,d)::r,ps,h,x,hx=>by
  obtain⟨g,t,cs,fuel,p,q,e1,e2,e3,e4,hr,rfl⟩:=h;cases hx with
  | head=>exact⟨g,t,cs,fuel,p,e1,e2,e3,e4⟩
  | tail _ hx=>exact yVE hr x hx
theorem xLJ{P:Program}{W:World}{fuel:Nat}{t:TypeId}{cs:List Value}{n:String}{d:DataW Unit}{p:List MemPlace}(h:DataW.trod (fun _=>()) P W 0 (fun _=>true) false fuel t cs=some (.iface n d,p)):∃u v,cs=[.iface u v]:=by
 cases fuel with
 | zero=>simp[DataW.trod] at h
 | succ fuel =>
  unfold DataW.trod at h;split at h
  all_goals first
   | exact⟨_,_,rfl⟩
   | (exfalso;simp_all [Option.bind_eq_some_iff];done)
   | (exfalso;split at h <;> simp_all [Option.bind_eq_some_iff];done)
theorem laid_gl{P:Program}{laid:List (String×DataW Unit)}{W:World}(h:laidMetH P laid W){n t:String}{d:DataW Unit}(hm:(n,DataW.iface t d)∈laid)(hn:(DataW.iface t d).handleName? = none){g:Nat}(hg:P.globalNamed n=some g) :
  ∃u v ty fz,∃k:Nat,(g:Int)=k/\W.heap[k]? = some (.cells #[.iface u v] ty fz):=by
 obtain⟨⟨ps,hl,_⟩,_⟩:=laidMetH_iff.1 h;obtain⟨g',ty,cs,fuel,p,e1,e2,e3,e4⟩:=yVE hl (n,DataW.iface t d) (List.mem_filter.2 ⟨hm,by rw[hn];rfl⟩);have e1:P.globalNamed n=some g':=e1;rw[hg] at e1;cases e1
 obtain⟨u,v,hcs⟩:=xLJ e4;have hcs:cs = #[.iface u v]:=Array.toList_inj.1 hcs;subst hcs;have e3:W.var? P n=some #[.iface u v]:=e3;unfold World.var? at e3;rw[hg] at e3;simp only[Option.bind_some] at e3;split at e3
 ·rename_i cs ty' fz hh;cases e3;exact⟨u,v,ty',fz,g,rfl,hh⟩
 ·cases e3
end Go.Mx
namespace Go.Mx
open Go Go.Dx
theorem len8{b:List UInt8}(h:8<=b.length):∃b0 b1 b2 b3 b4 b5 b6 b7 r,b=b0::b1::b2::b3::b4::b5::b6::b7::r:=by
 match b,h with
 | b0::b1::b2::b3::b4::b5::b6::b7::r,_=>exact⟨b0,b1,b2,b3,b4,b5,b6,b7,r,rfl⟩
theorem qCI{P:Program}{ok:Nat->Prop}{w:World}{t:TypeId}{v:Value}{d:D}(ha:agg P t=true)(ht:tys P t=[])(h:Rep P ok w t v d):v = .agg #[]:=by
 obtain⟨ds,rfl,_,_⟩:=xMG ha h;cases h with
 | row hu hd hlen hlen' h1 hr =>
  rename_i dd vs;rw[ht] at hlen
  have:vs=[]:=List.length_eq_zero_iff.1 hlen
  subst this;rfl
theorem hand86{P:Program}{ρ:Go.Shelf.Ren}(L:Go.Proofs.LaysBin.n42 P ρ){f:FuncId}{te tb t64 e:TypeId}(hf:ρ.f 42=f)(hb:zOE P f=true)(ha:agg P te=true)(ht:tys P te=[])(hub:P.underlying tb=some (.slice e))(he:P.underlying e=some (.int .u8))(h64:P.underlying t64=some (.int .u64)) :
  xDA P X side f ⟨[.val te,.val tb],.val t64,86,true⟩:=by
 refine⟨zMD hb,fun ok w vs ds hA hok hRd hp hgw=>?_⟩;obtain @⟨⟩ | @⟨_,v1,d1,_,_,_,h1,hA⟩:=hA;obtain @⟨⟩ | @⟨_,v2,d2,_,_,_,h2,hA⟩:=hA;cases hA;cases h1 with
 | val h1 =>
 cases h2 with
 | val h2 =>
 obtain⟨b,hbd,hl⟩:∃b,d2 = .bytes b/\8<=b.length:=hp rfl;subst hbd;have hv1:=qCI ha ht h1;subst hv1;obtain⟨b0,b1,b2,b3,b4,b5,b6,b7,r,rfl⟩:=len8 hl;have hB:=h2.bytesAt hub he;cases hB with
 | some hsp hcl hcap hmax =>
  rename_i ad cap;have hs:ad.spot=none:=hsp (by simp only[List.length_cons] at hcap;omega);obtain⟨g,o,sp⟩:=ad;simp only at hs;subst hs;have hc:∀(j:Nat) (x:UInt8),(b0::b1::b2::b3::b4::b5::b6::b7::r)[j]? = some x->w.cell? ⟨g,o+j,none⟩=some (.int .u8 (x.toNat:Int)):=fun j x hx=>hcl j _ (by rw[List.getElem?_map,hx];rfl)
  subst hf;refine(Go.Proofs.Any.binary_BE_Uint64 L g o _ cap b0 b1 b2 b3 b4 b5 b6 b7 w (by simp only[List.length_cons];omega) (hc 0 _ rfl) (hc 1 _ rfl) (hc 2 _ rfl) (hc 3 _ rfl) (hc 4 _ rfl) (hc 5 _ rfl) (hc 6 _ rfl) (hc 7 _ rfl)).mono fun e' w' he'=>?_
  obtain⟨rfl,hbl⟩:=he';refine⟨_,rfl,⟨hbl.os,hbl.tape,hbl.output,hbl.size,fun k hk _=>hbl.block k hk⟩,fun ok' _ _=>?_⟩;have e1:Go.Lib.beNat [b0,b1,b2,b3,b4,b5,b6,b7]=beN [b0,b1,b2,b3,b4,b5,b6,b7]:=by
   simp[Go.Lib.beNat,Go.Lib.beFrom,beN]
  have hlt:beN [b0,b1,b2,b3,b4,b5,b6,b7]<256 ^ 8:=qEJ _;show Rep P ok' w' t64 _ (X 86 [d1,.bytes (b0::b1::b2::b3::b4::b5::b6::b7::r)]);rw[X_86,str_by,e1];refine .int h64 (zJC ?_);simp[IntKind.min,IntKind.max,IntKind.signed,IntKind.bits];omega
theorem hand87{P:Program}{ρ:Go.Shelf.Ren}(L:Go.Proofs.LaysBin.n39 P ρ){f:FuncId}{te tb t32 e:TypeId}(hf:ρ.f 39=f)(hb:zOE P f=true)(ha:agg P te=true)(ht:tys P te=[])(hub:P.underlying tb=some (.slice e))(he:P.underlying e=some (.int .u8))(h32:P.underlying t32=some (.int .u32)) :
  xDA P X side f ⟨[.val te,.val tb],.val t32,87,true⟩:=by
 refine⟨zMD hb,fun ok w vs ds hA hok hRd hp hgw=>?_⟩;obtain @⟨⟩ | @⟨_,v1,d1,_,_,_,h1,hA⟩:=hA;obtain @⟨⟩ | @⟨_,v2,d2,_,_,_,h2,hA⟩:=hA;cases hA;cases h1 with
 | val h1 =>
 cases h2 with
 | val h2 =>
 obtain⟨b,hbd,hl⟩:∃b,d2 = .bytes b/\4<=b.length:=hp rfl;subst hbd;have hv1:=qCI ha ht h1;subst hv1;obtain⟨b0,b1,b2,b3,r,rfl⟩:=len4 hl;have hB:=h2.bytesAt hub he;cases hB with
 | some hsp hcl hcap hmax =>
  rename_i ad cap;have hs:ad.spot=none:=hsp (by simp only[List.length_cons] at hcap;omega);obtain⟨g,o,sp⟩:=ad;simp only at hs;subst hs;have hc:∀(j:Nat) (x:UInt8),(b0::b1::b2::b3::r)[j]? = some x->w.cell? ⟨g,o+j,none⟩=some (.int .u8 (x.toNat:Int)):=fun j x hx=>hcl j _ (by rw[List.getElem?_map,hx];rfl)
  subst hf;refine(Go.Proofs.Any.binary_BE_Uint32 L g o _ cap b0 b1 b2 b3 w (by simp only[List.length_cons];omega) (hc 0 _ rfl) (hc 1 _ rfl) (hc 2 _ rfl) (hc 3 _ rfl)).mono fun e' w' he'=>?_
  obtain⟨rfl,hbl⟩:=he';refine⟨_,rfl,⟨hbl.os,hbl.tape,hbl.output,hbl.size,fun k hk _=>hbl.block k hk⟩,fun ok' _ _=>?_⟩;have e1:Go.Lib.beNat [b0,b1,b2,b3]=beN [b0,b1,b2,b3]:=by
   simp[Go.Lib.beNat,Go.Lib.beFrom,beN]
  have hlt:beN [b0,b1,b2,b3]<256 ^ 4:=qEJ _;show Rep P ok' w' t32 _ (X 87 [d1,.bytes (b0::b1::b2::b3::r)]);rw[X_87,str_by,e1];refine .int h32 (zJC ?_);simp[IntKind.min,IntKind.max,IntKind.signed,IntKind.bits];omega
end Go.Mx
namespace Go.Mx
open Go Go.Dx
def envY:List A:=[.oct 1000]
noncomputable def xXK(P:Program)(C:Cfg)(f:Nat)(c:Ctr):Option (DE×List Ob) :=
 match P.funcs[f]? with
 | some fn=>zWH C 100000 8 c fn []
 | none=>none
noncomputable def UP.run1(U:UP):DE×List Ob:=(xXK U.P (U.C 0) U.f U.c).getD (.k .nil,[])
noncomputable def UP.x1(U:UP):Nat->List D->D:=XT (X1 U.ge) (sxOf U.ge envY U.run1.2).tab
noncomputable def UP.Y(U:UP):Nat->List D->D:=fun k args =>
 if k=148 then (match args with
  | [d]=>U.run1.1.eval U.x1 [d]
  | _=>.nil)
 else if k=308 then .bool true else X1 U.ge k args
def qZC(k:Nat)(ds:List D):Prop :=
 if k=148 then ∃s:Option (List UInt8),ds=[encB s]/\sL s<=1000
 else if k=308 then ∃t:T,ds=[t.d,t.d] else zOB k ds
noncomputable def qQJ(U:UP)(fU:Nat):Bool :=
 match xXK U.P (U.C 0) U.f U.c,xXK U.P (U.C 0) fU U.c with
 | some (d,os),some (d',os')=>d'.beq d&&chkV U.ge envY d os&&chkO (sxOf U.ge envY os) envY os'
 | _,_=>false
theorem qGI{P:Program}{C:Cfg}{f:Nat}{c:Ctr}{x:DE×List Ob}(h:xXK P C f c=some x):∃fn,P.funcs[f]? = some fn/\zWH C 100000 8 c fn []=some x:=by
 unfold xXK at h;split at h
 ·rename_i fn hf;exact⟨fn,hf,h⟩
 ·cases h
theorem zCK{s:Option (List UInt8)}(hsl:sL s<=1000):A.gs envY [encB s]:=⟨_,_,rfl,(by
  cases s with
  | none=>exact .inl rfl
  | some s=>exact .inr ⟨s,rfl,hsl⟩),rfl⟩
theorem tell_okY{U:UP}{fU:Nat}{tby tt:Nat}(hnm:yWA U.P)(hord:U.P.follows .mixedOrders=true)(hcc:U.c=⟨[.val tby],.valB tt,148,true⟩)(hsig:areA U.P [.byts] U.c.args=true)
  (hP:(U.C 0).P=U.P) (hctr:∀f c,(U.C 0).ctr f=some c->c.fn<1000000/\xDA U.P (X1 U.ge) zOB f c) (hchk:qQJ U fU=true)
  {f:Nat} (hf:f=U.f∨f=fU) (hb:zOE U.P f=true):xDA U.P U.Y qZC f U.c:=by
 obtain⟨fn,b,hfn,hbd⟩:=zMD hb;refine⟨⟨fn,b,hfn,hbd⟩,fun ok w vs ds hA hok hRd hp hgw=>?_⟩;have hfn148:U.c.fn=148:=by rw[hcc]
 have hpre:U.c.pre=true:=by rw[hcc]
 have hs:=hp hpre;rw[hfn148] at hs;unfold qZC at hs;rw[if_pos rfl] at hs;obtain⟨s,rfl,hsl⟩:=hs;have hck:=hchk;unfold qQJ at hck;split at hck
 rotate_left
 ·cases hck
 rename_i d os d' os' hr1 hr2;simp only[baZ] at hck;obtain⟨⟨hbeq,hcv⟩,hco⟩:=hck;have hd:=DE.beq_eq hbeq;subst hd;have hrun:U.run1=(d',os):=by unfold UP.run1;rw[hr1];rfl
 obtain⟨hx,hn,hos,htr⟩:=sx_ok hcv;have hxv:U.x1=XT (X1 U.ge) (sxOf U.ge envY os).tab:=by unfold UP.x1;rw[hrun]
 have henv:=zCK hsl;have hXr:U.Y U.c.fn [encB s]=d'.eval U.x1 [encB s]:=by
  rw[hfn148];show U.run1.1.eval U.x1 [encB s]=_;rw[hrun]
 rw[hXr,hxv];have hgl:GlOk (XT (X1 U.ge) (sxOf U.ge envY os).tab) (Dx.startB ok w U.c.args vs):=fun k hk=>hgw k (by
  rw[zYD (fun m hm e=>by have:=hn m hm;omega)] at hk;exact hk)
 have hall:∀f c,(U.C 0).ctr f=some c->xDA (U.C 0).P (XT (X1 U.ge) (sxOf U.ge envY os).tab) zOB f c:=fun f c hc=>by
  obtain⟨h1,h2⟩:=hctr f c hc;rw[hP];refine yQC (fun ds=>?_) (fun _ h=>h) (fun w M hg k hk=>hg k ?_) h2
  ·rw[zYD (fun m hm e=>by have:=hn m hm;omega)]
  ·rw[zYD (fun m hm e=>by have:=hn m hm;omega)];exact hk
 have hgood:∀r,xPJ U.c r:=fun r t ht=>by rw[hcc] at ht;cases ht
 have hkn:∀j k,lk j ([]:List (Nat×Int))=some k->([encB s]:List D).getD j .nil = .int k:=fun j k h=>by simp[yTA] at h
 rcases hf with rfl|rfl
 ·obtain⟨fn',hf',hr⟩:=qGI hr1;rw[hfn] at hf';cases hf'
  have:=qCF (C:=U.C 0) (X:=XT (X1 U.ge) (sxOf U.ge envY os).tab) (Pre:=zOB) (by rw[hP];exact hnm) (by rw[hP];exact hord) hall (by rw[hP];exact hfn) hr (by rw[hP];exact hA) hok hkn
   (xQB hx os (K:=none) henv (fun _ h=>by cases h) trivial hos) rfl (hgood _) hgl
  rw[hP] at this;exact this
 ·obtain⟨fn',hf',hr⟩:=qGI hr2;rw[hfn] at hf';cases hf'
  have:=qCF (C:=U.C 0) (X:=XT (X1 U.ge) (sxOf U.ge envY os).tab) (Pre:=zOB) (by rw[hP];exact hnm) (by rw[hP];exact hord) hall (by rw[hP];exact hfn) hr (by rw[hP];exact hA) hok hkn
   (xQB hx os' (K:=none) henv (fun _ h=>by cases h) trivial hco) rfl (hgood _) hgl
  rw[hP] at this;exact this
theorem xIJ{U:UP}{fU:Nat}{s:Option (List UInt8)}(h:qQJ U fU=true)(hs:sL s<=1000):∃t b,U.Y 148 [encB s] = .row [t,.bool b]/\smT (toT t)=true:=by
 unfold qQJ at h;split at h
 rotate_left
 ·cases h
 rename_i d os d' os' hr1 hr2;simp only[baZ] at h;obtain⟨⟨hbeq,hcv⟩,_⟩:=h;have hd:=DE.beq_eq hbeq;subst hd;have hrun:U.run1=(d',os):=by unfold UP.run1;rw[hr1];rfl
 obtain⟨hx,hn,hos,htr⟩:=sx_ok hcv;have hxv:U.x1=XT (X1 U.ge) (sxOf U.ge envY os).tab:=by unfold UP.x1;rw[hrun]
 have henv:=zCK hs;have hXr:U.Y 148 [encB s]=d'.eval U.x1 [encB s]:=by
  show U.run1.1.eval U.x1 [encB s]=_;rw[hrun]
 have hg:=xSB hx.e (zXB hx.e hx.tab hx.cs).1 henv d';rw[hXr,hxv];have htr':xJJ (abs (sxOf U.ge envY os).E (ttOf (sxOf U.ge envY os).cs) envY d')=true:=htr;unfold xJJ at htr';split at htr'
 ·rename_i t ha;rw[ha] at hg;obtain⟨ds,e,hds⟩:=hg;obtain⟨x,y,rfl,h1,⟨b,rfl⟩⟩:=gs2 hds;exact⟨x,b,e,qUI htr' h1⟩
 ·cases htr'
def qEK(n:Nat)(k:Nat)(ds:List D):Prop:=qZC k ds/\(k=308 -> ∃t:T,ds=[t.d,t.d]/\wT t<n)
theorem UP.Y_out{U:UP}{k:Nat}(h1:k≠148)(h2:k≠308):U.Y k=X1 U.ge k:=by
 funext args;simp only[UP.Y,h1,h2,if_false]
theorem UP.Y_308{U:UP}(l:List D):U.Y 308 l = .bool true:=by simp only[UP.Y];rfl
theorem move_okY{U:UP}{f:FuncId}{c:Ctr}(h1:c.fn≠148)(h2:c.fn≠308)(h:xDA U.P (X1 U.ge) zOB f c):xDA U.P U.Y qZC f c:=by
 refine yQC (fun ds=>by rw[UP.Y_out h1 h2]) (fun ds hs=>?_) (fun w M hg k hk=>hg k ?_) h
 ·simp only[qZC,h1,h2,if_false] at hs;exact hs
 ·rw[UP.Y_out (by omega) (by omega)];exact hk
theorem same_okY{U:UP}(hnm:yWA U.P)(hord:U.P.follows .mixedOrders=true){base:List (Nat×Ctr)}{f:Nat}{c:Ctr}(h:sameOk? U.P base f c=true)
  (hb:∀g d,lk g base=some d->d.fn≠148/\d.fn≠308/\xDA U.P (X1 U.ge) zOB g d):xDA U.P U.Y qZC f c:=by
 simp only[sameOk?,baZ,beq_iff_eq] at h;obtain⟨⟨⟨⟨hfn,hpre⟩,hsig⟩,hnr⟩,hrun⟩:=h;split at hrun
 rotate_left
 ·cases hrun
 rename_i fn hf;split at hrun
 rotate_left
 ·cases hrun
 rename_i d os hr;simp only[baZ] at hrun;have e1:=DE.beq_eq hrun.1;have e2:=zVB hrun.2;subst e1;subst e2
 have hbody:∃fn b,U.P.funcs[f]? = some fn/\fn.body=some b:=by
  unfold runF at hr;split at hr
  ·rename_i body q hb _;exact⟨fn,body,hf,hb⟩
  ·cases hr
 have h52:∀a b:D,U.Y 52 [a,b] = .bool (a.asStr==b.asStr):=fun a b=>by
  rw[UP.Y_out (by decide) (by decide),zEC (by decide +kernel)];rfl
 have main:∀n,xDA U.P U.Y (qEK n) f c:=by
  intro n
  induction n with
  | zero =>
   refine⟨hbody,fun ok w vs ds _ _ _ hp _=>?_⟩
   have:=(hp hpre).2 hfn
   obtain⟨t,_,h⟩:=this;omega
  | succ n ih =>
   refine xTB (C:=⟨U.P,ctrS base f c,fun _ _ _=>none⟩) (Pre:=qEK n) hnm hord (fun g d hg=>?_) hf hr (fun ok w vs ds hA hp=>?_)
   ·simp only[ctrS] at hg;split at hg
    ·rename_i hgf;cases hg;subst hgf;exact ih
    ·obtain⟨k1,k2,k3⟩:=hb g d hg;exact yQC (fun _=>rfl) (fun ds hs=>hs.1) (fun _ _ h=>h) (move_okY k1 k2 k3)
   ·obtain⟨t,e,hlt⟩:=(hp hpre).2 hfn;subst e
    have:=qCK (X:=U.Y) UP.Y_308 h52 (Q:=qEK n) (t:=t) (fun a b=>⟨by
     simp only[qZC];show zOB 52 [a,b];show side 52 [a,b];trivial,fun h=>by cases h⟩) (fun x hx=>⟨by
     simp only[qZC];exact⟨x,rfl⟩,fun _=>⟨x,rfl,by have:=wT_L hx;omega⟩⟩)
    refine⟨this.1,?_,zYC hnr _⟩;rw[this.2,hfn];exact(UP.Y_308 _).symm
 refine⟨hbody,fun ok w vs ds h1 h2 h3 h4 h5=>?_⟩;have hs:=h4 hpre;have hs':=hs;rw[hfn] at hs';simp only[qZC] at hs';obtain⟨t,e⟩:∃t:T,ds=[t.d,t.d]:=hs';exact(main (wT t+1)).2 ok w vs ds h1 h2 h3 (fun _=>⟨hs,fun _=>⟨t,e,Nat.lt_succ_self _⟩⟩) h5
def xPF:DE:=.f (.ext 148) [.v 0]
def oneY:DE:=.f (.get 1) [xPF]
def gotY:DE:=.f (.ext 44) [.f (.get 0) [xPF]]
def bigY(n:Int):DE:=.f .ltI [.k (.int n),.f .len [.v 0]]
def bothY:DE:=.f .ite [oneY,oneY,.f .not [oneY]]
def canY(l:List DE):DE:=.f (.get 1) [.f (.ext 148) [.f (.ext 60) l]]
def yDK(l:List DE):DE:=.f .ite [bigY 2147483647,.k (.bool true),.f .ite [bigY 1000,.k (.bool true),.f .ite [canY l,.f .ite [bothY,.f .ite [.f .not [oneY],.k (.bool true),.f (.ext 308) [gotY,gotY]],.k (.bool false)],.k (.bool false)]]]
def lawOY(l:List DE):List Ob:=[.when (bigY 2147483647) false [.when (bigY 1000) false [.when (canY l) true [.when bothY true [.when (.f .not [oneY]) false [.pre 308 [gotY,gotY],.pre 44 [.f (.get 0) [xPF]],.pre 44 [.f (.get 0) [xPF]]]]],
 .pre 148 [.v 0],.pre 148 [.v 0],.pre 148 [.f (.ext 60) l],.pre 60 l]]]
theorem law_okY{U:UP}{fU:Nat}(hchk:qQJ U fU=true){l:List DE}{m v t:D}{c:List UInt8}(hl:∀Y J,zDA Y l J=[m,v,t])(h60:X 60 [m,v,t] = .bytes c)(hc:c.length<=1000)(hs:side 60 [m,v,t])
  (hcan:((U.Y 148 [.bytes c]).cells.getD 1 .nil).asBool=true) (s:Option (List UInt8)) :
  zCA U.Y qZC (lawOY l) [encB s]/\(yDK l).eval U.Y [encB s] = .bool true:=by
 have hbig:∀k:Int,((bigY k).eval U.Y [encB s]).asBool=decide (k<((encB s).len:Nat)):=fun k=>rfl
 have e60:(DE.f (.ext 60) l).eval U.Y [encB s] = .bytes c:=by
  rw[ev_f,zNA,hl,UP.Y_out (by decide) (by decide),zEC (by decide +kernel)];exact h60
 have ecan:((canY l).eval U.Y [encB s]).asBool=true:=by
  show ((DE.f (.get 1) [.f (.ext 148) [.f (.ext 60) l]]).eval U.Y [encB s]).asBool=true
  have:(DE.f (.ext 148) [.f (.ext 60) l]).eval U.Y [encB s]=U.Y 148 [.bytes c]:=by rw[ev_f,zNA,zAA,zBA,e60]
  have e:(DE.f (.get 1) [.f (.ext 148) [.f (.ext 60) l]]).eval U.Y [encB s]=((DE.f (.ext 148) [.f (.ext 60) l]).eval U.Y [encB s]).cells.getD 1 .nil:=rfl;rw[e,this];exact hcan
 by_cases hsl:sL s<=1000
 ·obtain⟨t',b,e1,e2⟩:=xIJ (s:=s) hchk hsl;have et:xPF.eval U.Y [encB s] = .row [t',.bool b]:=by
   rw[xPF,ev_f,zNA,zAA,zBA];exact e1
  have eo:oneY.eval U.Y [encB s] = .bool b:=by
   show (xPF.eval U.Y [encB s]).cells.getD 1 .nil=_;rw[et];rfl
  have e0:(DE.f (.get 0) [xPF]).eval U.Y [encB s]=t':=by
   show (xPF.eval U.Y [encB s]).cells.getD 0 .nil=_;rw[et];rfl
  have eg:gotY.eval U.Y [encB s]=(given (toT t')).d:=by
   rw[gotY,ev_f,zNA,zAA,zBA,e0,UP.Y_out (by decide) (by decide),zEC (by decide +kernel)];rfl
  have ebo:(bothY.eval U.Y [encB s]).asBool=true:=by
   rw[bothY,xMA,eo]
   have:(DE.f .not [oneY]).eval U.Y [encB s] = .bool (!(oneY.eval U.Y [encB s]).asBool):=rfl
   rw[this,eo];cases b <;> rfl
  have p148:(Ob.pre 148 [.v 0]).holds U.Y qZC [encB s]:=⟨s,rfl,hsl⟩;have pK:(Ob.pre 148 [.f (.ext 60) l]).holds U.Y qZC [encB s]:=by
   simp only[Ob.holds];rw[zAA,zBA,e60];exact⟨some c,rfl,hc⟩
  have p60:(Ob.pre 60 l).holds U.Y qZC [encB s]:=by
   simp only[Ob.holds];rw[hl];exact hs
  have p44:(Ob.pre 44 [.f (.get 0) [xPF]]).holds U.Y qZC [encB s]:=by
   simp only[Ob.holds];rw[zAA,zBA,e0];show smT (toT t')=true;exact e2
  refine⟨⟨fun _=>⟨fun _=>⟨fun _=>⟨fun _=>⟨fun _=>⟨?_,p44,p44,trivial⟩,trivial⟩,trivial⟩,p148,p148,pK,p60,trivial⟩,trivial⟩,trivial⟩,?_⟩
  ·simp only[Ob.holds];rw[zAA,zAA,zBA,eg];exact⟨_,rfl⟩
  ·rw[yDK,xMA,xMA,xMA,xMA,ebo,ecan,xMA];have h308:(DE.f (.ext 308) [gotY,gotY]).eval U.Y [encB s] = .bool true:=by
    rw[ev_f,zNA];exact UP.Y_308 _
   rw[h308];simp only[if_true,ev_k];split <;> (try split) <;> (try split) <;> rfl
 ·have hgt:decide ((1000:Int)<((encB s).len:Nat))=true:=by
   rw[yDH];simp;omega
  refine⟨⟨fun _=>⟨fun h=>?_,trivial⟩,trivial⟩,?_⟩
  ·rw[hbig,hgt] at h;cases h
  ·rw[yDK,xMA];split
   ·rfl
   ·rw[xMA,hbig,hgt];rfl
theorem law_callsY{U:UP}{C:Cfg}(hP:C.P=U.P)(hnm:yWA U.P)(hord:U.P.follows .mixedOrders=true){l:List DE}(hctr:∀f c,C.ctr f=some c->xDA U.P U.Y qZC f c){f:Nat}{tby tb:Nat}
  (hrun:qII U.P C f ⟨[.val tby],.val tb,200,false⟩ [] (yDK l) (lawOY l)=true) (hsig:areA U.P [.byts] [.val tby]=true)
  (hok0:∀s:Option (List UInt8),zCA U.Y qZC (lawOY l) [encB s]/\(yDK l).eval U.Y [encB s] = .bool true)
  {ok:Nat->Prop} {w:World} {bv:Value} {bd:D} (hb:Rep U.P ok w tby bv bd) (hok:∀b,ok b->b<w.heap.size)
  (hgl:∃t x ty fz,∃k:Nat,U.ge=k/\w.heap[k]? = some (.cells #[.iface t x] ty fz)) :
  Calls U.P f #[bv] w fun e w'=>e = .returned (.bool true)/\Fr (fun _=>False) w w':=by
 obtain⟨fn,hf,hr⟩:=yCH hrun;have hA:ArgsOk U.P ok w [.val tby] [bv] [bd]:=.cons (.val hb) .nil;have hks:=qDE hsig hA;obtain @⟨⟩ | @⟨_,_,_,_,kb,hks⟩:=hks;obtain⟨s,rfl⟩:=kb;have hlaw:=hok0 s;have hW:∀b,¬Wr w [AK.val tby] [bv] b:=fun b h=>by simp[Wr,wrA] at h
 have hg:GlW U.Y w (Wr w [AK.val tby] [bv]):=fun k hk=>by
  obtain⟨t,x,ty,fz,j,hj,hc⟩:=hgl;refine⟨hW k,t,x,ty,fz,?_⟩
  have:(k:Int)=U.ge:=by
   rw[UP.Y_out (by decide) (by decide),zEC (by decide +kernel)] at hk;have hk:(if (k:Int)=U.ge then D.int 1 else D.int 0).asInt≠0:=hk;split at hk
   ·assumption
   ·exact absurd rfl hk
  have hkj:k=j:=by omega
  rw[hkj];exact hc
 have:=qCF (C:=C) (X:=U.Y) (Pre:=qZC) (c:=⟨[.val tby],.val tb,200,false⟩) (r:=.bool true) (by rw[hP];exact hnm) (by rw[hP];exact hord) (fun f c h=>by rw[hP];exact hctr f c h) (by rw[hP];exact hf) hr (by rw[hP];exact hA) (fun b hb=>⟨hok b hb,hW b⟩)
  (fun j k hj=>by simp[yTA,yLA] at hj) hlaw.1 hlaw.2 (zYC rfl _) hg
 rw[hP] at this;refine Calls.mono this (fun e w' he=>?_);obtain⟨v,rfl,hfr,hres⟩:=he;have e1:Rep U.P (fun b=>ok b∨w.heap.size<=b) w' tb v (.bool true):=hres (fun b=>ok b∨w.heap.size<=b) (fun _ h=>.inl h) (fun _ h _=>.inr h);refine⟨?_,hfr.mono (fun b _ hb=>(hW b hb).elim)⟩;cases e1;rfl
def tz:List D->Bool
 | [.row [_,.bytes [c],.bool _]]=>c==0
 | _=>false
def tzR:List D->D
 | [.row [_,.bytes [_],.bool b]]=>.row [.row [.nil],.bytes [],.bool b]
 | _=>.nil
noncomputable def XZ(ge:Int):Nat->List D->D:=fun k args=>if k=382 then (if tz args then tzR args else X1 ge k args) else X1 ge k args
theorem x382_0{ge:Int}(x:D)(b:Bool):X1 ge 382 [.row [x,.bytes [0],.bool b]] = .row [.row [.nil],.bytes [],.bool b]:=by
 have e0:X1 ge 370 [rD .nil (some [0]) b]=rD (.int 0) (some []) b:=by
  rw[zGE (by decide +kernel)];kernel_rfl
 have hi:zDA (X1 ge) zQE [rD x (some [0]) b]=[.int 0,.bytes [],.bool b,.nil]:=by
  show [(X1 ge 370 [rD .nil (some [0]) b]).cells.getD 0 .nil,(X1 ge 370 [rD .nil (some [0]) b]).cells.getD 1 .nil,(X1 ge 370 [rD .nil (some [0]) b]).cells.getD 2 .nil,.nil]=_;rw[e0];rfl
 have hr:Runs (X1 ge) [rD x (some [0]) b] 1 ySG zQE xWD 0 (fun _=>[.int 0,.bytes [],.bool b,.nil]):=⟨rfl,hi,fun k hk=>absurd hk (Nat.not_lt_zero k),fun k hk=>absurd hk (Nat.not_lt_zero k),rfl⟩;have e:X1 ge 382 [rD x (some [0]) b]=qZJ.eval (X1 ge) [rD x (some [0]) b]:=xUF 382 (by decide +kernel) _;show X1 ge 382 [rD x (some [0]) b]=_;rw[e];show D.row [.row [_],_,_]=_;rw[hr.fold 3,hr.fold 1,hr.fold 2];rfl
theorem XZ_eq{ge:Int}:XZ ge=X1 ge:=by
 funext k args;unfold XZ;split
 ·rename_i hk;subst hk;split
  ·rename_i ht;unfold tz at ht;split at ht
   ·rename_i x c b;have hc:c=0:=by simpa using ht
    subst hc;exact(x382_0 x b).symm
   ·cases ht
  ·rfl
 ·rfl
theorem can_okY{U:UP}{c:List UInt8}(h:((U.run1.1.eval (XT (XZ U.ge) (sxOf U.ge envY U.run1.2).tab) [.bytes c]).cells.getD 1 .nil).asBool=true):((U.Y 148 [.bytes c]).cells.getD 1 .nil).asBool=true:=by
 have e:U.Y 148 [.bytes c]=U.run1.1.eval U.x1 [.bytes c]:=rfl;rw[e];unfold UP.x1;rw[<- XZ_eq];exact h
end Go.Mx
